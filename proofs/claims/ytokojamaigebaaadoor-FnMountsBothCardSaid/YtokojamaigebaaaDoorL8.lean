-- written by a program of this session (wip/tools/pp.py)
import Derived.Test.YtokojamaigebaaaDoorL0
import Derived.Test.YtokojamaigebaaaDoorL2
import Derived.Test.YtokojamaigebaaaDoorL7
namespace Go.Proofs.YtokojamaigebaaaDoor.L
open Go.RowKit Go.Proofs.YtokojamaigebaaaDoorW.PrintWords Go.Proofs.YtokojamaigebaaaDoorW.PrintLast Go.Proofs.YtokojamaigebaaaDoor.M Go.Proofs.YtokojamaigebaaaDoor.MtDoor Go.Proofs.YtokojamaigebaaaDoorW.PrintMore
attribute [local go_sem] max2_int min2_int max_two min_two max_three min_three max_four min_four   -- for this text's walks alone
set_option linter.unusedVariables false
set_option linter.unusedSimpArgs false

/-! ### laws_FnMountsBoth: function 3 -/
mutual
def laws_FnMountsBoth.j0 : Nat → ByteArray → ByteArray → Bool → Int → Int → Int → Int → ByteArray → ByteArray → ByteArray → ByteArray → ByteArray → ByteArray → ByteArray → Option (Bool)
 | 0, _, _, _, _, _, _, _, _, _, _, _, _, _, _ => none
 | k + 1, x1, x2, x29, x177000, x177001, x177002, x177003, x177004, x177005, x177006, x177007, x177008, x177009, x177010 => if x29 = true then (some true) else ((laws_cleanPath.f k x1).bind fun t178 => (if t178 = true then ((laws_cleanPath.f k x2).bind fun t179 => (laws_FnMountsBoth.j1 k x1 x2 (!t179) x177000 x177001 x177002 x177003 x177004 x177005 x177006 x177007 x177008 x177009 x177010)) else (laws_FnMountsBoth.j1 k x1 x2 true x177000 x177001 x177002 x177003 x177004 x177005 x177006 x177007 x177008 x177009 x177010)))
def laws_FnMountsBoth.j1 : Nat → ByteArray → ByteArray → Bool → Int → Int → Int → Int → ByteArray → ByteArray → ByteArray → ByteArray → ByteArray → ByteArray → ByteArray → Option (Bool)
 | 0, _, _, _, _, _, _, _, _, _, _, _, _, _, _ => none
 | k + 1, x1, x2, x37, x177000, x177001, x177002, x177003, x177004, x177005, x177006, x177007, x177008, x177009, x177010 => if x37 = true then (some true) else ((laws_printed.f k (([(⟨x177000, x177001, x177002, x177003, x177004, x1, x177006, x177007, x177008, x177009, x177010⟩ : S23)] : List (S23)))).bind fun bt185 => ((laws_printed.f k (([(⟨x177000, x177001, x177002, x177003, x177004, x2, x177006, x177007, x177008, x177009, x177010⟩ : S23)] : List (S23)))).bind fun bt190 => (if bt185.2 = true then (laws_FnMountsBoth.j2 k x1 x2 bt185.1 bt190.1 (!bt190.2)) else (laws_FnMountsBoth.j2 k x1 x2 bt185.1 bt190.1 true))))
def laws_FnMountsBoth.j2 : Nat → ByteArray → ByteArray → ByteArray → ByteArray → Bool → Option (Bool)
 | 0, _, _, _, _, _ => none
 | k + 1, x1, x2, x9, x11, x61 => if x61 = true then (some true) else ((impl_Mounts.f x9 3 (([x2] : List ByteArray))).bind fun bt195 => ((impl_Mounts.f x11 2 (([x1] : List ByteArray))).bind fun bt202 => (if bt195.2 = 0 then (if bt202.2 = 0 then (if (bt195.1.length : Int) = (bt202.1.length : Int) then ((laws_mounts.f).bind fun t206 => (some t206)) else (some false)) else (some false)) else (some false))))
end
def laws_FnMountsBoth.f (k : Nat) (a0_0 : Int) (a0_1 : Int) (a0_2 : Int) (a0_3 : Int) (a0_4 : ByteArray) (a0_5 : ByteArray) (a0_6 : ByteArray) (a0_7 : ByteArray) (a0_8 : ByteArray) (a0_9 : ByteArray) (a0_10 : ByteArray) (a1 : ByteArray) (a2 : ByteArray) : Option (Bool) := (laws_zzFits2.f a0_0 a0_1 a0_2 a0_3 a0_4 a0_5 a0_6 a0_7 a0_8 a0_9 a0_10).bind fun t177 => (if t177 = true then (if (a1.size : Int) > 2147483647 then (laws_FnMountsBoth.j0 k a1 a2 true a0_0 a0_1 a0_2 a0_3 a0_4 a0_5 a0_6 a0_7 a0_8 a0_9 a0_10) else (laws_FnMountsBoth.j0 k a1 a2 (decide ((a2.size : Int) > 2147483647)) a0_0 a0_1 a0_2 a0_3 a0_4 a0_5 a0_6 a0_7 a0_8 a0_9 a0_10)) else (laws_FnMountsBoth.j0 k a1 a2 true a0_0 a0_1 a0_2 a0_3 a0_4 a0_5 a0_6 a0_7 a0_8 a0_9 a0_10))
theorem laws_FnMountsBoth.mono_l : ∀ k, (∀ y0 y1 y2 y3 y4 y5 y6 y7 y8 y9 y10 y11 y12 y13, LeO (laws_FnMountsBoth.j0 k y0 y1 y2 y3 y4 y5 y6 y7 y8 y9 y10 y11 y12 y13) (laws_FnMountsBoth.j0 (k + 1) y0 y1 y2 y3 y4 y5 y6 y7 y8 y9 y10 y11 y12 y13)) ∧ (∀ y0 y1 y2 y3 y4 y5 y6 y7 y8 y9 y10 y11 y12 y13, LeO (laws_FnMountsBoth.j1 k y0 y1 y2 y3 y4 y5 y6 y7 y8 y9 y10 y11 y12 y13) (laws_FnMountsBoth.j1 (k + 1) y0 y1 y2 y3 y4 y5 y6 y7 y8 y9 y10 y11 y12 y13)) ∧ (∀ y0 y1 y2 y3 y4, LeO (laws_FnMountsBoth.j2 k y0 y1 y2 y3 y4) (laws_FnMountsBoth.j2 (k + 1) y0 y1 y2 y3 y4))
 | 0 => ⟨fun _ _ _ _ _ _ _ _ _ _ _ _ _ _ r h => by simp [laws_FnMountsBoth.j0] at h, fun _ _ _ _ _ _ _ _ _ _ _ _ _ _ r h => by simp [laws_FnMountsBoth.j1] at h, fun _ _ _ _ _ r h => by simp [laws_FnMountsBoth.j2] at h⟩
 | k + 1 => by
  obtain ⟨ih0, ih1, ih2⟩ := laws_FnMountsBoth.mono_l k
  refine ⟨?_, ?_, ?_⟩
  ·intro y0 y1 y2 y3 y4 y5 y6 y7 y8 y9 y10 y11 y12 y13
   unfold laws_FnMountsBoth.j0
   repeat' first
   | (with_reducible exact ih0 _ _ _ _ _ _ _ _ _ _ _ _ _ _)
   | (with_reducible exact ih1 _ _ _ _ _ _ _ _ _ _ _ _ _ _)
   | (with_reducible exact ih2 _ _ _ _ _)
   | (with_reducible exact laws_cleanPath.mono _ _)
   | (with_reducible exact laws_printed.mono _ _)
   | (with_reducible exact LeO.refl _)
   | (with_reducible exact LeO.none _)
   | (with_reducible refine LeO.ite ?_ ?_)
   | (with_reducible refine LeO.bind ?_ (fun _ => ?_))
   | exact ih0 _ _ _ _ _ _ _ _ _ _ _ _ _ _
   | exact ih1 _ _ _ _ _ _ _ _ _ _ _ _ _ _
   | exact ih2 _ _ _ _ _
   | exact laws_cleanPath.mono _ _
   | exact laws_printed.mono _ _
   | exact LeO.none _
   | refine LeO.ite ?_ ?_
   | refine LeO.bind ?_ (fun _ => ?_)
  ·intro y0 y1 y2 y3 y4 y5 y6 y7 y8 y9 y10 y11 y12 y13
   unfold laws_FnMountsBoth.j1
   repeat' first
   | (with_reducible exact ih0 _ _ _ _ _ _ _ _ _ _ _ _ _ _)
   | (with_reducible exact ih1 _ _ _ _ _ _ _ _ _ _ _ _ _ _)
   | (with_reducible exact ih2 _ _ _ _ _)
   | (with_reducible exact laws_cleanPath.mono _ _)
   | (with_reducible exact laws_printed.mono _ _)
   | (with_reducible exact LeO.refl _)
   | (with_reducible exact LeO.none _)
   | (with_reducible refine LeO.ite ?_ ?_)
   | (with_reducible refine LeO.bind ?_ (fun _ => ?_))
   | exact ih0 _ _ _ _ _ _ _ _ _ _ _ _ _ _
   | exact ih1 _ _ _ _ _ _ _ _ _ _ _ _ _ _
   | exact ih2 _ _ _ _ _
   | exact laws_cleanPath.mono _ _
   | exact laws_printed.mono _ _
   | exact LeO.none _
   | refine LeO.ite ?_ ?_
   | refine LeO.bind ?_ (fun _ => ?_)
  ·intro y0 y1 y2 y3 y4
   unfold laws_FnMountsBoth.j2
   repeat' first
   | (with_reducible exact ih0 _ _ _ _ _ _ _ _ _ _ _ _ _ _)
   | (with_reducible exact ih1 _ _ _ _ _ _ _ _ _ _ _ _ _ _)
   | (with_reducible exact ih2 _ _ _ _ _)
   | (with_reducible exact laws_cleanPath.mono _ _)
   | (with_reducible exact laws_printed.mono _ _)
   | (with_reducible exact LeO.refl _)
   | (with_reducible exact LeO.none _)
   | (with_reducible refine LeO.ite ?_ ?_)
   | (with_reducible refine LeO.bind ?_ (fun _ => ?_))
   | exact ih0 _ _ _ _ _ _ _ _ _ _ _ _ _ _
   | exact ih1 _ _ _ _ _ _ _ _ _ _ _ _ _ _
   | exact ih2 _ _ _ _ _
   | exact laws_cleanPath.mono _ _
   | exact laws_printed.mono _ _
   | exact LeO.none _
   | refine LeO.ite ?_ ?_
   | refine LeO.bind ?_ (fun _ => ?_)
theorem laws_FnMountsBoth.mono : ∀ a0 a1 a2 a3 a4 a5 a6 a7 a8 a9 a10 a11 a12 k, LeO (laws_FnMountsBoth.f k a0 a1 a2 a3 a4 a5 a6 a7 a8 a9 a10 a11 a12) (laws_FnMountsBoth.f (k + 1) a0 a1 a2 a3 a4 a5 a6 a7 a8 a9 a10 a11 a12) := by
 intro a0 a1 a2 a3 a4 a5 a6 a7 a8 a9 a10 a11 a12 k
 obtain ⟨ih0, ih1, ih2⟩ := laws_FnMountsBoth.mono_l k
 unfold laws_FnMountsBoth.f
 repeat' first
   | (with_reducible exact ih0 _ _ _ _ _ _ _ _ _ _ _ _ _ _)
   | (with_reducible exact ih1 _ _ _ _ _ _ _ _ _ _ _ _ _ _)
   | (with_reducible exact ih2 _ _ _ _ _)
   | (with_reducible exact laws_cleanPath.mono _ _)
   | (with_reducible exact laws_printed.mono _ _)
   | (with_reducible exact LeO.refl _)
   | (with_reducible exact LeO.none _)
   | (with_reducible refine LeO.ite ?_ ?_)
   | (with_reducible refine LeO.bind ?_ (fun _ => ?_))
   | exact ih0 _ _ _ _ _ _ _ _ _ _ _ _ _ _
   | exact ih1 _ _ _ _ _ _ _ _ _ _ _ _ _ _
   | exact ih2 _ _ _ _ _
   | exact laws_cleanPath.mono _ _
   | exact laws_printed.mono _ _
   | exact LeO.none _
   | refine LeO.ite ?_ ?_
   | refine LeO.bind ?_ (fun _ => ?_)
set_option maxHeartbeats 8000000 in
set_option maxRecDepth 100000 in
theorem laws_FnMountsBoth.calls (k : Nat) (a0_0 : Int) (a0_1 : Int) (a0_2 : Int) (a0_3 : Int) (a0_4 : ByteArray) (a0_5 : ByteArray) (a0_6 : ByteArray) (a0_7 : ByteArray) (a0_8 : ByteArray) (a0_9 : ByteArray) (a0_10 : ByteArray) (a1 : ByteArray) (a2 : ByteArray) (r : Bool) (w : World) (h : laws_FnMountsBoth.f k a0_0 a0_1 a0_2 a0_3 a0_4 a0_5 a0_6 a0_7 a0_8 a0_9 a0_10 a1 a2 = some r) (hTabs : Tabs w := by first | exact hTabs | exact Tabs.below hTabs (by repeat (first | (with_reducible first | exact HB.out | apply below_alloc | apply pw_below_drewN | apply below_drew1 | refine below_set ?_ (Aside0.out (by assumption))) | exact HB.out))) :
  Calls Tryd.prog 3 #[.agg #[.int .i64 a0_0, .int .i64 a0_1, .int .i64 a0_2, .int .i64 a0_3, .string a0_4, .string a0_5, .string a0_6, .string a0_7, .string a0_8, .string a0_9, .string a0_10], .string a1, .string a2] w fun e w' => e = .returned (.bool r) ∧ Below w.heap.size w w' := by
 have hu23 := Tryd.underlying23
 have hu33 := Tryd.underlying33
 have HB := Aside0.mk (Below.refl w.heap.size w)
 have H : ((laws_zzFits2.f a0_0 a0_1 a0_2 a0_3 a0_4 a0_5 a0_6 a0_7 a0_8 a0_9 a0_10).bind fun t177 => (if t177 = true then (if (a1.size : Int) > 2147483647 then (laws_FnMountsBoth.j0 k a1 a2 true a0_0 a0_1 a0_2 a0_3 a0_4 a0_5 a0_6 a0_7 a0_8 a0_9 a0_10) else (laws_FnMountsBoth.j0 k a1 a2 (decide ((a2.size : Int) > 2147483647)) a0_0 a0_1 a0_2 a0_3 a0_4 a0_5 a0_6 a0_7 a0_8 a0_9 a0_10)) else (laws_FnMountsBoth.j0 k a1 a2 true a0_0 a0_1 a0_2 a0_3 a0_4 a0_5 a0_6 a0_7 a0_8 a0_9 a0_10))) = some r := h
 clear h
 have HC4 := Aside0.mk H
 clear H
 go_enter Tryd.func3, Tryd.ntmps3
 go_upto_region 1 with (first | ((with_reducible refine gate_dst (N := 3) rfl ?_); (try (refine gate_guard (by rfl) ?_; dsimp only)); refine box_event ?hg (N := 3) ?hd (cs := #[.int .i64 a0_0, .int .i64 a0_1, .int .i64 a0_2, .int .i64 a0_3, .string a0_4, .string a0_5, .string a0_6, .string a0_7, .string a0_8, .string a0_9, .string a0_10]) (t := 23) ?hr ?_; (case hd => rfl); (case hg => rfl); (case hr => first | (go_simp; done) | (go_simp; rfl)); intro gb176 hg w5 hbox hb; have n0_ := Aside0.mk (below_step belH hb); have n1_ := Aside0.mk (hbox); have n2_ := Aside0.mk ((by rw [hg]; exact (below_size belH) : w.heap.size ≤ gb176)); have n3_ := Aside0.mk ((by rw [hg]; exact (below_size belH) : w.heap.size ≤ gb176)); clear HB; have HB := n0_; have BK176 := n1_; have GW176 := n2_; have GE176 := n3_; clear n0_ n1_ n2_ n3_; clear hb hbox hg))
 (try simp only [Act.put, List.setIfInBounds_toArray, List.set_cons_zero, List.set_cons_succ])
 go_cut [29] (fun v29 wc => ∃ (kq : Nat) (x29_3 : Bool), v29 = .bool x29_3 ∧ Aside0 (laws_FnMountsBoth.j0 kq a1 a2 x29_3 a0_0 a0_1 a0_2 a0_3 a0_4 a0_5 a0_6 a0_7 a0_8 a0_9 a0_10 = some r) ∧ Aside0 (kq ≤ k) ∧ Aside0 (wc.heap[gb176]? = some (.cells #[.int .i64 a0_0, .int .i64 a0_1, .int .i64 a0_2, .int .i64 a0_3, .string a0_4, .string a0_5, .string a0_6, .string a0_7, .string a0_8, .string a0_9, .string a0_10] 23 (0, 0))) ∧ Aside0 (Below w.heap.size w wc))
 case first =>
  have H := HC4.out
  clear HC4
  replace H := Option.bind_eq_some_iff.mp H
  obtain ⟨t177, A60, H⟩ := H
  have A6 := Aside0.mk A60
  clear A60
  by_cases c7 : t177 = true
  ·subst c7
   have H1 : (if (a1.size : Int) > 2147483647 then (laws_FnMountsBoth.j0 k a1 a2 true a0_0 a0_1 a0_2 a0_3 a0_4 a0_5 a0_6 a0_7 a0_8 a0_9 a0_10) else (laws_FnMountsBoth.j0 k a1 a2 (decide ((a2.size : Int) > 2147483647)) a0_0 a0_1 a0_2 a0_3 a0_4 a0_5 a0_6 a0_7 a0_8 a0_9 a0_10)) = some r := by rw [if_pos rfl] at H; exact H
   clear H
   have H := H1
   clear H1
   by_cases c8 : (a1.size : Int) > 2147483647
   ·rw [if_pos c8] at H
    have c8b0 : decide (2147483647 < (a1.size : Int)) = true := decide_eq_true c8
    have c8b1 : decide (2147483647 < a1.size) = true := decide_eq_true (by omega)
    clear c8
    (first | rw [c8b0] | (simp only [i64_w, i32_w]; rw [c8b0]) | skip)
    have H' := Aside0.mk H
    clear H
    obtain ⟨hcz9_0, hcz9_1, hcz9_2, hcz9_3, hcz9_4, hcz9_5, hcz9_6, hcz9_7, hcz9_8, hcz9_9, hcz9_10, hfz9_0, hfz9_1, hfz9_2, hfz9_3, hfz9_4, hfz9_5, hfz9_6, hfz9_7, hfz9_8, hfz9_9, hfz9_10⟩ := rows11 (w := w5) BK176
    go_wp2_with (first | ((with_reducible refine gate_callee (f := 6) rfl ?_); refine goesL_ (some 18) rfl rfl Tryd.func6 (by kernel_rfl) rfl #[.agg #[.int .i64 a0_0, .int .i64 a0_1, .int .i64 a0_2, .int .i64 a0_3, .string a0_4, .string a0_5, .string a0_6, .string a0_7, .string a0_8, .string a0_9, .string a0_10]] rfl (by (try simp only [List.map_toArray, List.map_cons, List.map_nil]); first | done | rfl | (simp only [List.length_drop, List.length_take]; rfl)) ?_; (with_reducible refine (laws_zzFits2.calls a0_0 a0_1 a0_2 a0_3 a0_4 a0_5 a0_6 a0_7 a0_8 a0_9 a0_10 true _ A6.out).mono ?_); rintro e w10 ⟨rfl, hb⟩; refine ⟨_, rfl, ?_⟩; have n0_ := Aside0.mk (blk_below (g := gb176) (o := .cells #[.int .i64 a0_0, .int .i64 a0_1, .int .i64 a0_2, .int .i64 a0_3, .string a0_4, .string a0_5, .string a0_6, .string a0_7, .string a0_8, .string a0_9, .string a0_10] 23 (0, 0)) (by refine bY ?_; exact BK176.out) hb); have n1_ := Aside0.mk (below_step belS hb); clear BK176; clear HB; have BK176 := n0_; have HB := n1_; clear n0_ n1_; (try clear hb); (try clear hb2); (try clear hk); (try clear hi)))
    go_meet
    case rel => exact ⟨_, (true), (by first | rfl | (simp; done) | (simp [*]; done) | (simp [bne_nil]; done) | (simp [bne_nil, *]; done)), H', ⟨by first | omega | exact Nat.le_refl _⟩, ⟨by refine bY ?_; exact BK176.out⟩, ⟨by repeat (first | (with_reducible first | exact HB.out | apply below_alloc | apply pw_below_drewN | apply below_drew1 | refine below_set ?_ GE176.out) | exact HB.out)⟩⟩
   ·rw [if_neg c8] at H
    have c8b0 : decide (2147483647 < (a1.size : Int)) = false := decide_eq_false c8
    have c8b1 : decide (2147483647 < a1.size) = false := decide_eq_false (by omega)
    clear c8
    (first | rw [c8b0] | (simp only [i64_w, i32_w]; rw [c8b0]) | skip)
    have H' := Aside0.mk H
    clear H
    obtain ⟨hcz11_0, hcz11_1, hcz11_2, hcz11_3, hcz11_4, hcz11_5, hcz11_6, hcz11_7, hcz11_8, hcz11_9, hcz11_10, hfz11_0, hfz11_1, hfz11_2, hfz11_3, hfz11_4, hfz11_5, hfz11_6, hfz11_7, hfz11_8, hfz11_9, hfz11_10⟩ := rows11 (w := w5) BK176
    go_wp2_with (first | ((with_reducible refine gate_callee (f := 6) rfl ?_); refine goesL_ (some 18) rfl rfl Tryd.func6 (by kernel_rfl) rfl #[.agg #[.int .i64 a0_0, .int .i64 a0_1, .int .i64 a0_2, .int .i64 a0_3, .string a0_4, .string a0_5, .string a0_6, .string a0_7, .string a0_8, .string a0_9, .string a0_10]] rfl (by (try simp only [List.map_toArray, List.map_cons, List.map_nil]); first | done | rfl | (simp only [List.length_drop, List.length_take]; rfl)) ?_; (with_reducible refine (laws_zzFits2.calls a0_0 a0_1 a0_2 a0_3 a0_4 a0_5 a0_6 a0_7 a0_8 a0_9 a0_10 true _ A6.out).mono ?_); rintro e w12 ⟨rfl, hb⟩; refine ⟨_, rfl, ?_⟩; have n0_ := Aside0.mk (blk_below (g := gb176) (o := .cells #[.int .i64 a0_0, .int .i64 a0_1, .int .i64 a0_2, .int .i64 a0_3, .string a0_4, .string a0_5, .string a0_6, .string a0_7, .string a0_8, .string a0_9, .string a0_10] 23 (0, 0)) (by refine bY ?_; exact BK176.out) hb); have n1_ := Aside0.mk (below_step belS hb); clear BK176; clear HB; have BK176 := n0_; have HB := n1_; clear n0_ n1_; (try clear hb); (try clear hb2); (try clear hk); (try clear hi)))
    go_meet
    case rel => exact ⟨_, (decide ((a2.size : Int) > 2147483647)), (by first | rfl | (simp; done) | (simp [*]; done) | (simp [bne_nil]; done) | (simp [bne_nil, *]; done)), H', ⟨by first | omega | exact Nat.le_refl _⟩, ⟨by refine bY ?_; exact BK176.out⟩, ⟨by repeat (first | (with_reducible first | exact HB.out | apply below_alloc | apply pw_below_drewN | apply below_drew1 | refine below_set ?_ GE176.out) | exact HB.out)⟩⟩
  ·replace c7 := Bool.eq_false_iff.mpr c7
   subst c7
   have H1 : (laws_FnMountsBoth.j0 k a1 a2 true a0_0 a0_1 a0_2 a0_3 a0_4 a0_5 a0_6 a0_7 a0_8 a0_9 a0_10) = some r := by rw [if_neg (show ¬ (false = true) by decide)] at H; exact H
   clear H
   have H := H1
   clear H1
   have H' := Aside0.mk H
   clear H
   obtain ⟨hcz13_0, hcz13_1, hcz13_2, hcz13_3, hcz13_4, hcz13_5, hcz13_6, hcz13_7, hcz13_8, hcz13_9, hcz13_10, hfz13_0, hfz13_1, hfz13_2, hfz13_3, hfz13_4, hfz13_5, hfz13_6, hfz13_7, hfz13_8, hfz13_9, hfz13_10⟩ := rows11 (w := w5) BK176
   go_wp2_with (first | ((with_reducible refine gate_callee (f := 6) rfl ?_); refine goesL_ (some 18) rfl rfl Tryd.func6 (by kernel_rfl) rfl #[.agg #[.int .i64 a0_0, .int .i64 a0_1, .int .i64 a0_2, .int .i64 a0_3, .string a0_4, .string a0_5, .string a0_6, .string a0_7, .string a0_8, .string a0_9, .string a0_10]] rfl (by (try simp only [List.map_toArray, List.map_cons, List.map_nil]); first | done | rfl | (simp only [List.length_drop, List.length_take]; rfl)) ?_; (with_reducible refine (laws_zzFits2.calls a0_0 a0_1 a0_2 a0_3 a0_4 a0_5 a0_6 a0_7 a0_8 a0_9 a0_10 false _ A6.out).mono ?_); rintro e w14 ⟨rfl, hb⟩; refine ⟨_, rfl, ?_⟩; have n0_ := Aside0.mk (blk_below (g := gb176) (o := .cells #[.int .i64 a0_0, .int .i64 a0_1, .int .i64 a0_2, .int .i64 a0_3, .string a0_4, .string a0_5, .string a0_6, .string a0_7, .string a0_8, .string a0_9, .string a0_10] 23 (0, 0)) (by refine bY ?_; exact BK176.out) hb); have n1_ := Aside0.mk (below_step belS hb); clear BK176; clear HB; have BK176 := n0_; have HB := n1_; clear n0_ n1_; (try clear hb); (try clear hb2); (try clear hk); (try clear hi)))
   go_meet
   case rel => exact ⟨_, (true), (by first | rfl | (simp; done) | (simp [*]; done) | (simp [bne_nil]; done) | (simp [bne_nil, *]; done)), H', ⟨by first | omega | exact Nat.le_refl _⟩, ⟨by refine bY ?_; exact BK176.out⟩, ⟨by repeat (first | (with_reducible first | exact HB.out | apply below_alloc | apply pw_below_drewN | apply below_drew1 | refine below_set ?_ GE176.out) | exact HB.out)⟩⟩
 case rest =>
  clear HC4
  try clear p2
  try clear c3
  try clear c6
  try clear c7
  try clear c8
  try clear c8b0
  try clear c8b1
  try clear hcz11_0
  try clear hcz11_1
  try clear hcz11_10
  try clear hcz11_2
  try clear hcz11_3
  try clear hcz11_4
  try clear hcz11_5
  try clear hcz11_6
  try clear hcz11_7
  try clear hcz11_8
  try clear hcz11_9
  try clear hcz13_0
  try clear hcz13_1
  try clear hcz13_10
  try clear hcz13_2
  try clear hcz13_3
  try clear hcz13_4
  try clear hcz13_5
  try clear hcz13_6
  try clear hcz13_7
  try clear hcz13_8
  try clear hcz13_9
  try clear hcz9_0
  try clear hcz9_1
  try clear hcz9_10
  try clear hcz9_2
  try clear hcz9_3
  try clear hcz9_4
  try clear hcz9_5
  try clear hcz9_6
  try clear hcz9_7
  try clear hcz9_8
  try clear hcz9_9
  try clear hfz11_0
  try clear hfz11_1
  try clear hfz11_10
  try clear hfz11_2
  try clear hfz11_3
  try clear hfz11_4
  try clear hfz11_5
  try clear hfz11_6
  try clear hfz11_7
  try clear hfz11_8
  try clear hfz11_9
  try clear hfz13_0
  try clear hfz13_1
  try clear hfz13_10
  try clear hfz13_2
  try clear hfz13_3
  try clear hfz13_4
  try clear hfz13_5
  try clear hfz13_6
  try clear hfz13_7
  try clear hfz13_8
  try clear hfz13_9
  try clear hfz9_0
  try clear hfz9_1
  try clear hfz9_10
  try clear hfz9_2
  try clear hfz9_3
  try clear hfz9_4
  try clear hfz9_5
  try clear hfz9_6
  try clear hfz9_7
  try clear hfz9_8
  try clear hfz9_9
  obtain ⟨kq, x29_3, rfl, HA, HJ3, BK176, HB⟩ := hcut
  cases kq with
  | zero => exact absurd HA.out (by simp [laws_FnMountsBoth.j0])
  | succ kj3 =>
   have H := HA.out
   clear HA
   simp only [laws_FnMountsBoth.j0] at H
   by_cases c15 : x29_3 = true
   ·subst c15
    have H1 : (some true) = some r := by rw [if_pos rfl] at H; exact H
    clear H
    have H := H1
    clear H1
    obtain rfl := Option.some.inj H
    go_wp2
    go_ret
    exact ⟨by first | rfl | (simp [errW_none, errW_some] <;> rfl) | (simp [*, errW_none, errW_some] <;> rfl), by repeat (first | (with_reducible first | exact HB.out | apply below_alloc | apply pw_below_drewN | apply below_drew1 | refine below_set ?_ GE176.out) | exact HB.out)⟩
   ·replace c15 := Bool.eq_false_iff.mpr c15
    subst c15
    have H1 : ((laws_cleanPath.f kj3 a1).bind fun t178 => (if t178 = true then ((laws_cleanPath.f kj3 a2).bind fun t179 => (laws_FnMountsBoth.j1 kj3 a1 a2 (!t179) a0_0 a0_1 a0_2 a0_3 a0_4 a0_5 a0_6 a0_7 a0_8 a0_9 a0_10)) else (laws_FnMountsBoth.j1 kj3 a1 a2 true a0_0 a0_1 a0_2 a0_3 a0_4 a0_5 a0_6 a0_7 a0_8 a0_9 a0_10))) = some r := by rw [if_neg (show ¬ (false = true) by decide)] at H; exact H
    clear H
    have H := H1
    clear H1
    have HC16 := Aside0.mk H
    clear H
    go_upto_region 3 with (fail)
    go_cut [37] (fun v37 wc => ∃ (kq : Nat) (x37_15 : Bool), v37 = .bool x37_15 ∧ Aside0 (laws_FnMountsBoth.j1 kq a1 a2 x37_15 a0_0 a0_1 a0_2 a0_3 a0_4 a0_5 a0_6 a0_7 a0_8 a0_9 a0_10 = some r) ∧ Aside0 (kq ≤ kj3) ∧ Aside0 (wc.heap[gb176]? = some (.cells #[.int .i64 a0_0, .int .i64 a0_1, .int .i64 a0_2, .int .i64 a0_3, .string a0_4, .string a0_5, .string a0_6, .string a0_7, .string a0_8, .string a0_9, .string a0_10] 23 (0, 0))) ∧ Aside0 (Below w.heap.size w wc))
    case first =>
     have H := HC16.out
     clear HC16
     replace H := Option.bind_eq_some_iff.mp H
     obtain ⟨t178, A170, H⟩ := H
     have A17 := Aside0.mk A170
     clear A170
     by_cases c18 : t178 = true
     ·subst c18
      have H1 : ((laws_cleanPath.f kj3 a2).bind fun t179 => (laws_FnMountsBoth.j1 kj3 a1 a2 (!t179) a0_0 a0_1 a0_2 a0_3 a0_4 a0_5 a0_6 a0_7 a0_8 a0_9 a0_10)) = some r := by rw [if_pos rfl] at H; exact H
      clear H
      have H := H1
      clear H1
      replace H := Option.bind_eq_some_iff.mp H
      obtain ⟨t179, A190, H⟩ := H
      have A19 := Aside0.mk A190
      clear A190
      have H' := Aside0.mk H
      clear H
      go_wp2_with (first | ((with_reducible refine gate_callee (f := 7) rfl ?_); refine goesL_ (some 31) rfl rfl Tryd.func7 (by kernel_rfl) rfl #[.string a1] rfl (by (try simp only [List.map_toArray, List.map_cons, List.map_nil]); first | done | rfl | (simp only [List.length_drop, List.length_take]; rfl)) ?_; (with_reducible refine (laws_cleanPath.calls kj3 a1 true _ A17.out).mono ?_); rintro e w' ⟨rfl, ⟨nd, rfl⟩⟩; refine ⟨_, rfl, ?_⟩) | (go_at_call 7; (with_reducible refine (laws_cleanPath.calls kj3 a2 t179 _ A19.out).mono ?_); rintro e w' ⟨rfl, ⟨nd, rfl⟩⟩))
      go_meet
      case rel => exact ⟨_, (!t179), (by first | rfl | (simp; done) | (simp [*]; done) | (simp [bne_nil]; done) | (simp [bne_nil, *]; done)), H', ⟨by have := HJ3.out; first | omega | exact Nat.le_refl _⟩, ⟨by refine bY ?_; exact BK176.out⟩, ⟨by repeat (first | (with_reducible first | exact HB.out | apply below_alloc | apply pw_below_drewN | apply below_drew1 | refine below_set ?_ GE176.out) | exact HB.out)⟩⟩
     ·replace c18 := Bool.eq_false_iff.mpr c18
      subst c18
      have H1 : (laws_FnMountsBoth.j1 kj3 a1 a2 true a0_0 a0_1 a0_2 a0_3 a0_4 a0_5 a0_6 a0_7 a0_8 a0_9 a0_10) = some r := by rw [if_neg (show ¬ (false = true) by decide)] at H; exact H
      clear H
      have H := H1
      clear H1
      have H' := Aside0.mk H
      clear H
      go_wp2_with (first | ((with_reducible refine gate_callee (f := 7) rfl ?_); refine goesL_ (some 31) rfl rfl Tryd.func7 (by kernel_rfl) rfl #[.string a1] rfl (by (try simp only [List.map_toArray, List.map_cons, List.map_nil]); first | done | rfl | (simp only [List.length_drop, List.length_take]; rfl)) ?_; (with_reducible refine (laws_cleanPath.calls kj3 a1 false _ A17.out).mono ?_); rintro e w' ⟨rfl, ⟨nd, rfl⟩⟩; refine ⟨_, rfl, ?_⟩))
      go_meet
      case rel => exact ⟨_, (true), (by first | rfl | (simp; done) | (simp [*]; done) | (simp [bne_nil]; done) | (simp [bne_nil, *]; done)), H', ⟨by have := HJ3.out; first | omega | exact Nat.le_refl _⟩, ⟨by refine bY ?_; exact BK176.out⟩, ⟨by repeat (first | (with_reducible first | exact HB.out | apply below_alloc | apply pw_below_drewN | apply below_drew1 | refine below_set ?_ GE176.out) | exact HB.out)⟩⟩
    case rest =>
     clear HC16
     try clear c1
     try clear p2
     try clear c3
     try clear c6
     try clear c7
     try clear c8
     try clear c8b0
     try clear c8b1
     try clear c15
     try clear c18
     try clear hcz11_0
     try clear hcz11_1
     try clear hcz11_10
     try clear hcz11_2
     try clear hcz11_3
     try clear hcz11_4
     try clear hcz11_5
     try clear hcz11_6
     try clear hcz11_7
     try clear hcz11_8
     try clear hcz11_9
     try clear hcz13_0
     try clear hcz13_1
     try clear hcz13_10
     try clear hcz13_2
     try clear hcz13_3
     try clear hcz13_4
     try clear hcz13_5
     try clear hcz13_6
     try clear hcz13_7
     try clear hcz13_8
     try clear hcz13_9
     try clear hcz9_0
     try clear hcz9_1
     try clear hcz9_10
     try clear hcz9_2
     try clear hcz9_3
     try clear hcz9_4
     try clear hcz9_5
     try clear hcz9_6
     try clear hcz9_7
     try clear hcz9_8
     try clear hcz9_9
     try clear hfz11_0
     try clear hfz11_1
     try clear hfz11_10
     try clear hfz11_2
     try clear hfz11_3
     try clear hfz11_4
     try clear hfz11_5
     try clear hfz11_6
     try clear hfz11_7
     try clear hfz11_8
     try clear hfz11_9
     try clear hfz13_0
     try clear hfz13_1
     try clear hfz13_10
     try clear hfz13_2
     try clear hfz13_3
     try clear hfz13_4
     try clear hfz13_5
     try clear hfz13_6
     try clear hfz13_7
     try clear hfz13_8
     try clear hfz13_9
     try clear hfz9_0
     try clear hfz9_1
     try clear hfz9_10
     try clear hfz9_2
     try clear hfz9_3
     try clear hfz9_4
     try clear hfz9_5
     try clear hfz9_6
     try clear hfz9_7
     try clear hfz9_8
     try clear hfz9_9
     try clear p2
     obtain ⟨kq, x37_15, rfl, HA, HJ15, BK176, HB⟩ := hcut
     cases kq with
     | zero => exact absurd HA.out (by simp [laws_FnMountsBoth.j1])
     | succ kj15 =>
      have H := HA.out
      clear HA
      simp only [laws_FnMountsBoth.j1] at H
      by_cases c20 : x37_15 = true
      ·subst c20
       have H1 : (some true) = some r := by rw [if_pos rfl] at H; exact H
       clear H
       have H := H1
       clear H1
       obtain rfl := Option.some.inj H
       go_wp2
       go_ret
       exact ⟨by first | rfl | (simp [errW_none, errW_some] <;> rfl) | (simp [*, errW_none, errW_some] <;> rfl), by repeat (first | (with_reducible first | exact HB.out | apply below_alloc | apply pw_below_drewN | apply below_drew1 | refine below_set ?_ GE176.out) | exact HB.out)⟩
      ·replace c20 := Bool.eq_false_iff.mpr c20
       subst c20
       have H1 : ((laws_printed.f kj15 (([(⟨a0_0, a0_1, a0_2, a0_3, a0_4, a1, a0_6, a0_7, a0_8, a0_9, a0_10⟩ : S23)] : List (S23)))).bind fun bt185 => ((laws_printed.f kj15 (([(⟨a0_0, a0_1, a0_2, a0_3, a0_4, a2, a0_6, a0_7, a0_8, a0_9, a0_10⟩ : S23)] : List (S23)))).bind fun bt190 => (if bt185.2 = true then (laws_FnMountsBoth.j2 kj15 a1 a2 bt185.1 bt190.1 (!bt190.2)) else (laws_FnMountsBoth.j2 kj15 a1 a2 bt185.1 bt190.1 true)))) = some r := by rw [if_neg (show ¬ (false = true) by decide)] at H; exact H
       clear H
       have H := H1
       clear H1
       obtain ⟨y182, hy182⟩ : ∃ y_ : List (S23), y_ = (([(⟨a0_0, a0_1, a0_2, a0_3, a0_4, a1, a0_6, a0_7, a0_8, a0_9, a0_10⟩ : S23)] : List (S23))) := ⟨_, rfl⟩
       replace H : ((laws_printed.f kj15 y182).bind fun bt185 => ((laws_printed.f kj15 (([(⟨a0_0, a0_1, a0_2, a0_3, a0_4, a2, a0_6, a0_7, a0_8, a0_9, a0_10⟩ : S23)] : List (S23)))).bind fun bt190 => (if bt185.2 = true then (laws_FnMountsBoth.j2 kj15 a1 a2 bt185.1 bt190.1 (!bt190.2)) else (laws_FnMountsBoth.j2 kj15 a1 a2 bt185.1 bt190.1 true)))) = some r := by first | (rw [hy182]; with_reducible exact H) | (have H2_ := (Option.bind_some _ _).symm.trans H; rw [hy182]; with_reducible exact H2_) | (have H2_ := (Option.bind_some _ _).symm.trans H; with_reducible exact H2_) | with_reducible exact H | (rw [hy182]; exact H) | exact H
       have Ny182 := Aside0.mk hy182
       clear hy182
       replace H := Option.bind_eq_some_iff.mp H
       obtain ⟨⟨t185, t186⟩, A210, H⟩ := H
       have A21 := Aside0.mk A210
       clear A210
       obtain ⟨y187, hy187⟩ : ∃ y_ : List (S23), y_ = (([(⟨a0_0, a0_1, a0_2, a0_3, a0_4, a2, a0_6, a0_7, a0_8, a0_9, a0_10⟩ : S23)] : List (S23))) := ⟨_, rfl⟩
       replace H : ((laws_printed.f kj15 y187).bind fun bt190 => (if t186 = true then (laws_FnMountsBoth.j2 kj15 a1 a2 t185 bt190.1 (!bt190.2)) else (laws_FnMountsBoth.j2 kj15 a1 a2 t185 bt190.1 true))) = some r := by first | (rw [hy187]; with_reducible exact H) | (have H2_ := (Option.bind_some _ _).symm.trans H; rw [hy187]; with_reducible exact H2_) | (have H2_ := (Option.bind_some _ _).symm.trans H; with_reducible exact H2_) | with_reducible exact H | (rw [hy187]; exact H) | exact H
       have Ny187 := Aside0.mk hy187
       clear hy187
       replace H := Option.bind_eq_some_iff.mp H
       obtain ⟨⟨t190, t191⟩, A220, H⟩ := H
       have A22 := Aside0.mk A220
       clear A220
       have HC23 := Aside0.mk H
       clear H
       try go_wp2
       have n0_ := Aside0.mk (blk_drew BK176.out)
       have n1_ := Aside0.mk (below_drew1 HB.out)
       clear BK176
       clear HB
       have BK176 := n0_
       have HB := n1_
       clear n0_ n1_
       refine start_ (n := 6) (S := fun w' => w'.cell? ⟨gb176, 0, none⟩ = some (.int .i64 a0_0) ∧ w'.cell? ⟨gb176, 1, none⟩ = some (.int .i64 a0_1) ∧ w'.cell? ⟨gb176, 2, none⟩ = some (.int .i64 a0_2) ∧ w'.cell? ⟨gb176, 3, none⟩ = some (.int .i64 a0_3) ∧ w'.cell? ⟨gb176, 4, none⟩ = some (.string a0_4) ∧ w'.cell? ⟨gb176, 5, none⟩ = some (.string a0_5) ∧ w'.cell? ⟨gb176, 6, none⟩ = some (.string a0_6) ∧ w'.cell? ⟨gb176, 7, none⟩ = some (.string a0_7) ∧ w'.cell? ⟨gb176, 8, none⟩ = some (.string a0_8) ∧ w'.cell? ⟨gb176, 9, none⟩ = some (.string a0_9) ∧ w'.cell? ⟨gb176, 10, none⟩ = some (.string a0_10)) (ds := []) (tfA 0 6) (by kernel_rfl) rfl rfl ⟨(blk_cell BK176.out 0).trans rfl, (blk_cell BK176.out 1).trans rfl, (blk_cell BK176.out 2).trans rfl, (blk_cell BK176.out 3).trans rfl, (blk_cell BK176.out 4).trans rfl, (blk_cell BK176.out 5).trans rfl, (blk_cell BK176.out 6).trans rfl, (blk_cell BK176.out 7).trans rfl, (blk_cell BK176.out 8).trans rfl, (blk_cell BK176.out 9).trans rfl, (blk_cell BK176.out 10).trans rfl⟩ (fun hHeld => ?_)
       generalize wc.drew = w24 at BK176 HB hHeld ⊢
       refine take_ (i := 0) (N := some 38) (v := ?_) (a' := ?_) (tfA 1 5) rfl rfl (by kernel_rfl) (fun _ _ _ h => h) (Or.inl ⟨by rfl, ?_⟩) hHeld ?_ ?_
       rotate_left
       ·rintro w' ⟨s0, s1, s2, s3, s4, s5, s6, s7, s8, s9, s10⟩
        go_simp
        with_reducible rfl
       rotate_left
       ·simp only [Act.put, sA, s0, s1, i64_w, i32_w]
        rfl
       refine take_ (i := 1) (N := some 39) (v := ?_) (a' := ?_) (tfA 2 4) rfl rfl (by kernel_rfl) (fun _ _ _ h => h) (Or.inl ⟨by rfl, ?_⟩) hHeld ?_ ?_
       rotate_left
       ·rintro w' ⟨s0, s1, s2, s3, s4, s5, s6, s7, s8, s9, s10⟩
        go_simp
        with_reducible rfl
       rotate_left
       ·simp only [Act.put, sA, s0, s1, i64_w, i32_w]
        rfl
       refine join_ (σ := Nat × Nat) 2 (tfA 4 2) (fun s_ => [(7, .pointer (some ⟨s_.1, 0, none⟩)), (8, .pointer (some ⟨s_.2, 0, none⟩))]) (fun s_ w' => (w'.cell? ⟨gb176, 0, none⟩ = some (.int .i64 a0_0) ∧ w'.cell? ⟨gb176, 1, none⟩ = some (.int .i64 a0_1) ∧ w'.cell? ⟨gb176, 2, none⟩ = some (.int .i64 a0_2) ∧ w'.cell? ⟨gb176, 3, none⟩ = some (.int .i64 a0_3) ∧ w'.cell? ⟨gb176, 4, none⟩ = some (.string a0_4) ∧ w'.cell? ⟨gb176, 5, none⟩ = some (.string a0_5) ∧ w'.cell? ⟨gb176, 6, none⟩ = some (.string a0_6) ∧ w'.cell? ⟨gb176, 7, none⟩ = some (.string a0_7) ∧ w'.cell? ⟨gb176, 8, none⟩ = some (.string a0_8) ∧ w'.cell? ⟨gb176, 9, none⟩ = some (.string a0_9) ∧ w'.cell? ⟨gb176, 10, none⟩ = some (.string a0_10)) ∧ (w'.heap[gb176]? = some (.cells #[.int .i64 a0_0, .int .i64 a0_1, .int .i64 a0_2, .int .i64 a0_3, .string a0_4, .string a0_5, .string a0_6, .string a0_7, .string a0_8, .string a0_9, .string a0_10] 23 (0, 0))) ∧ (w'.heap[s_.1]? = some (.cells #[.int .i64 0, .int .i64 0, .int .i64 0, .int .i64 0, .string (⟨#[]⟩ : ByteArray), .string (⟨#[]⟩ : ByteArray), .string (⟨#[]⟩ : ByteArray), .string (⟨#[]⟩ : ByteArray), .string (⟨#[]⟩ : ByteArray), .string (⟨#[]⟩ : ByteArray), .string (⟨#[]⟩ : ByteArray)] 23 (0, 0))) ∧ (w'.heap[s_.2]? = some (.cells #[.int .i64 0, .int .i64 0, .int .i64 0, .int .i64 0, .string (⟨#[]⟩ : ByteArray), .string (⟨#[]⟩ : ByteArray), .string (⟨#[]⟩ : ByteArray), .string (⟨#[]⟩ : ByteArray), .string (⟨#[]⟩ : ByteArray), .string (⟨#[]⟩ : ByteArray), .string (⟨#[]⟩ : ByteArray)] 23 (0, 0))) ∧ (w.heap.size ≤ s_.1) ∧ (w.heap.size ≤ s_.1) ∧ (gb176 ≠ s_.1) ∧ (s_.1 ≠ gb176) ∧ (s_.2 ≠ s_.1) ∧ (s_.1 ≠ s_.2) ∧ (w.heap.size ≤ s_.2) ∧ (w.heap.size ≤ s_.2) ∧ (gb176 ≠ s_.2) ∧ (s_.2 ≠ gb176) ∧ (Below w.heap.size w w')) ?_ ?_
       rotate_left
       ·intro hCont
        refine two_ (i := 2) (j := 3) (Ni := some 7) (Nj := some 8) (tfA 3 3) (bnA 6 11) rfl rfl rfl rfl (by kernel_rfl) (by decide) (by decide) (fun K hK => ?_) (fun K hK => ?_)
        ·skip
         refine box_step ?hg (N := 7) ?hd (cs := #[.int .i64 0, .int .i64 0, .int .i64 0, .int .i64 0, .string (⟨#[]⟩ : ByteArray), .string (⟨#[]⟩ : ByteArray), .string (⟨#[]⟩ : ByteArray), .string (⟨#[]⟩ : ByteArray), .string (⟨#[]⟩ : ByteArray), .string (⟨#[]⟩ : ByteArray), .string (⟨#[]⟩ : ByteArray)]) (t := 23) ?hr ?_; (case hd => rfl); (case hg => rfl); (case hr => first | (go_simp; done) | (go_simp; rfl))
         intro gb180 hg w25 hbox hb
         have n0_ := Aside0.mk (blk_below (g := gb176) (o := .cells #[.int .i64 a0_0, .int .i64 a0_1, .int .i64 a0_2, .int .i64 a0_3, .string a0_4, .string a0_5, .string a0_6, .string a0_7, .string a0_8, .string a0_9, .string a0_10] 23 (0, 0)) (by refine bY ?_; exact BK176.out) hb)
         have n1_ := Aside0.mk (below_step belS hb)
         have n2_ := Aside0.mk (hbox)
         have n3_ := Aside0.mk ((by rw [hg]; exact (below_size belS) : w.heap.size ≤ gb180))
         have n4_ := Aside0.mk ((by rw [hg]; exact (below_size belS) : w.heap.size ≤ gb180))
         have n5_ := Aside0.mk ((by rw [hg]; exact Nat.ne_of_lt (blk_lt (g := gb176) (o := .cells #[.int .i64 a0_0, .int .i64 a0_1, .int .i64 a0_2, .int .i64 a0_3, .string a0_4, .string a0_5, .string a0_6, .string a0_7, .string a0_8, .string a0_9, .string a0_10] 23 (0, 0)) (by refine bY ?_; exact BK176.out)) : gb176 ≠ gb180))
         have n6_ := Aside0.mk ((by rw [hg]; exact Nat.ne_of_gt (blk_lt (g := gb176) (o := .cells #[.int .i64 a0_0, .int .i64 a0_1, .int .i64 a0_2, .int .i64 a0_3, .string a0_4, .string a0_5, .string a0_6, .string a0_7, .string a0_8, .string a0_9, .string a0_10] 23 (0, 0)) (by refine bY ?_; exact BK176.out)) : gb180 ≠ gb176))
         clear BK176
         clear HB
         have BK176 := n0_
         have HB := n1_
         have BK180 := n2_
         have GW180 := n3_
         have GE180 := n4_
         have NB176_180 := n5_
         have NB180_176 := n6_
         clear n0_ n1_ n2_ n3_ n4_ n5_ n6_
         clear hb hbox hg
         refine hK.out _ _ ⟨(blk_cell BK176.out 0).trans rfl, (blk_cell BK176.out 1).trans rfl, (blk_cell BK176.out 2).trans rfl, (blk_cell BK176.out 3).trans rfl, (blk_cell BK176.out 4).trans rfl, (blk_cell BK176.out 5).trans rfl, (blk_cell BK176.out 6).trans rfl, (blk_cell BK176.out 7).trans rfl, (blk_cell BK176.out 8).trans rfl, (blk_cell BK176.out 9).trans rfl, (blk_cell BK176.out 10).trans rfl⟩ (fun hHeld => ?_)
         clear hK K
         refine norm_ (a' := ?_) ?_ ?_
         rotate_left
         ·show Act.put _ (some 7) _ = _
          simp only [Act.put, sA, s0, s1, i64_w, i32_w]
          rfl
         refine one_ (i := 3) (N := some 8) (tfA 4 2) rfl rfl (by kernel_rfl) (by decide) (fun K hK => ?_)
         refine box_step ?hg (N := 8) ?hd (cs := #[.int .i64 0, .int .i64 0, .int .i64 0, .int .i64 0, .string (⟨#[]⟩ : ByteArray), .string (⟨#[]⟩ : ByteArray), .string (⟨#[]⟩ : ByteArray), .string (⟨#[]⟩ : ByteArray), .string (⟨#[]⟩ : ByteArray), .string (⟨#[]⟩ : ByteArray), .string (⟨#[]⟩ : ByteArray)]) (t := 23) ?hr ?_; (case hd => rfl); (case hg => rfl); (case hr => first | (go_simp; done) | (go_simp; rfl))
         intro gb181 hg w26 hbox hb
         have n0_ := Aside0.mk (blk_below (g := gb176) (o := .cells #[.int .i64 a0_0, .int .i64 a0_1, .int .i64 a0_2, .int .i64 a0_3, .string a0_4, .string a0_5, .string a0_6, .string a0_7, .string a0_8, .string a0_9, .string a0_10] 23 (0, 0)) (by refine bY ?_; exact BK176.out) hb)
         have n1_ := Aside0.mk (blk_below (g := gb180) (o := .cells #[.int .i64 0, .int .i64 0, .int .i64 0, .int .i64 0, .string (⟨#[]⟩ : ByteArray), .string (⟨#[]⟩ : ByteArray), .string (⟨#[]⟩ : ByteArray), .string (⟨#[]⟩ : ByteArray), .string (⟨#[]⟩ : ByteArray), .string (⟨#[]⟩ : ByteArray), .string (⟨#[]⟩ : ByteArray)] 23 (0, 0)) (by refine bY ?_; exact BK180.out) hb)
         have n2_ := Aside0.mk (below_step belS hb)
         have n3_ := Aside0.mk (hbox)
         have n4_ := Aside0.mk ((by rw [hg]; exact (below_size belS) : w.heap.size ≤ gb181))
         have n5_ := Aside0.mk ((by rw [hg]; exact (below_size belS) : w.heap.size ≤ gb181))
         have n6_ := Aside0.mk ((by rw [hg]; exact Nat.ne_of_lt (blk_lt (g := gb176) (o := .cells #[.int .i64 a0_0, .int .i64 a0_1, .int .i64 a0_2, .int .i64 a0_3, .string a0_4, .string a0_5, .string a0_6, .string a0_7, .string a0_8, .string a0_9, .string a0_10] 23 (0, 0)) (by refine bY ?_; exact BK176.out)) : gb176 ≠ gb181))
         have n7_ := Aside0.mk ((by rw [hg]; exact Nat.ne_of_gt (blk_lt (g := gb176) (o := .cells #[.int .i64 a0_0, .int .i64 a0_1, .int .i64 a0_2, .int .i64 a0_3, .string a0_4, .string a0_5, .string a0_6, .string a0_7, .string a0_8, .string a0_9, .string a0_10] 23 (0, 0)) (by refine bY ?_; exact BK176.out)) : gb181 ≠ gb176))
         have n8_ := Aside0.mk ((by rw [hg]; exact Nat.ne_of_lt (blk_lt (g := gb180) (o := .cells #[.int .i64 0, .int .i64 0, .int .i64 0, .int .i64 0, .string (⟨#[]⟩ : ByteArray), .string (⟨#[]⟩ : ByteArray), .string (⟨#[]⟩ : ByteArray), .string (⟨#[]⟩ : ByteArray), .string (⟨#[]⟩ : ByteArray), .string (⟨#[]⟩ : ByteArray), .string (⟨#[]⟩ : ByteArray)] 23 (0, 0)) (by refine bY ?_; exact BK180.out)) : gb180 ≠ gb181))
         have n9_ := Aside0.mk ((by rw [hg]; exact Nat.ne_of_gt (blk_lt (g := gb180) (o := .cells #[.int .i64 0, .int .i64 0, .int .i64 0, .int .i64 0, .string (⟨#[]⟩ : ByteArray), .string (⟨#[]⟩ : ByteArray), .string (⟨#[]⟩ : ByteArray), .string (⟨#[]⟩ : ByteArray), .string (⟨#[]⟩ : ByteArray), .string (⟨#[]⟩ : ByteArray), .string (⟨#[]⟩ : ByteArray)] 23 (0, 0)) (by refine bY ?_; exact BK180.out)) : gb181 ≠ gb180))
         clear BK176
         clear BK180
         clear HB
         have BK176 := n0_
         have BK180 := n1_
         have HB := n2_
         have BK181 := n3_
         have GW181 := n4_
         have GE181 := n5_
         have NB176_181 := n6_
         have NB181_176 := n7_
         have NB180_181 := n8_
         have NB181_180 := n9_
         clear n0_ n1_ n2_ n3_ n4_ n5_ n6_ n7_ n8_ n9_
         clear hb hbox hg
         refine hK.out _ _ ⟨(blk_cell BK176.out 0).trans rfl, (blk_cell BK176.out 1).trans rfl, (blk_cell BK176.out 2).trans rfl, (blk_cell BK176.out 3).trans rfl, (blk_cell BK176.out 4).trans rfl, (blk_cell BK176.out 5).trans rfl, (blk_cell BK176.out 6).trans rfl, (blk_cell BK176.out 7).trans rfl, (blk_cell BK176.out 8).trans rfl, (blk_cell BK176.out 9).trans rfl, (blk_cell BK176.out 10).trans rfl⟩ (fun hHeld => ?_)
         clear hK K
         refine norm_ (a' := ?_) ?_ ?_
         rotate_left
         ·show Act.put _ (some 8) _ = _
          simp only [Act.put, sA, s0, s1, i64_w, i32_w]
          rfl
         exact norm_ (by simp only [putAll, Act.put, List.setIfInBounds_toArray, List.set_cons_zero, List.set_cons_succ]) (hCont (gb180, gb181) _ ⟨hHeld, (by refine bY ?_; exact BK176.out), (by refine bY ?_; exact BK180.out), (by refine bY ?_; exact BK181.out), GW180.out, GE180.out, NB176_180.out, NB180_176.out, NB181_180.out, NB180_181.out, GW181.out, GE181.out, NB176_181.out, NB181_176.out, belS⟩)
        ·skip
         refine box_step ?hg (N := 8) ?hd (cs := #[.int .i64 0, .int .i64 0, .int .i64 0, .int .i64 0, .string (⟨#[]⟩ : ByteArray), .string (⟨#[]⟩ : ByteArray), .string (⟨#[]⟩ : ByteArray), .string (⟨#[]⟩ : ByteArray), .string (⟨#[]⟩ : ByteArray), .string (⟨#[]⟩ : ByteArray), .string (⟨#[]⟩ : ByteArray)]) (t := 23) ?hr ?_; (case hd => rfl); (case hg => rfl); (case hr => first | (go_simp; done) | (go_simp; rfl))
         intro gb181 hg w25 hbox hb
         have n0_ := Aside0.mk (blk_below (g := gb176) (o := .cells #[.int .i64 a0_0, .int .i64 a0_1, .int .i64 a0_2, .int .i64 a0_3, .string a0_4, .string a0_5, .string a0_6, .string a0_7, .string a0_8, .string a0_9, .string a0_10] 23 (0, 0)) (by refine bY ?_; exact BK176.out) hb)
         have n1_ := Aside0.mk (below_step belS hb)
         have n2_ := Aside0.mk (hbox)
         have n3_ := Aside0.mk ((by rw [hg]; exact (below_size belS) : w.heap.size ≤ gb181))
         have n4_ := Aside0.mk ((by rw [hg]; exact (below_size belS) : w.heap.size ≤ gb181))
         have n5_ := Aside0.mk ((by rw [hg]; exact Nat.ne_of_lt (blk_lt (g := gb176) (o := .cells #[.int .i64 a0_0, .int .i64 a0_1, .int .i64 a0_2, .int .i64 a0_3, .string a0_4, .string a0_5, .string a0_6, .string a0_7, .string a0_8, .string a0_9, .string a0_10] 23 (0, 0)) (by refine bY ?_; exact BK176.out)) : gb176 ≠ gb181))
         have n6_ := Aside0.mk ((by rw [hg]; exact Nat.ne_of_gt (blk_lt (g := gb176) (o := .cells #[.int .i64 a0_0, .int .i64 a0_1, .int .i64 a0_2, .int .i64 a0_3, .string a0_4, .string a0_5, .string a0_6, .string a0_7, .string a0_8, .string a0_9, .string a0_10] 23 (0, 0)) (by refine bY ?_; exact BK176.out)) : gb181 ≠ gb176))
         clear BK176
         clear HB
         have BK176 := n0_
         have HB := n1_
         have BK181 := n2_
         have GW181 := n3_
         have GE181 := n4_
         have NB176_181 := n5_
         have NB181_176 := n6_
         clear n0_ n1_ n2_ n3_ n4_ n5_ n6_
         clear hb hbox hg
         refine hK.out _ _ ⟨(blk_cell BK176.out 0).trans rfl, (blk_cell BK176.out 1).trans rfl, (blk_cell BK176.out 2).trans rfl, (blk_cell BK176.out 3).trans rfl, (blk_cell BK176.out 4).trans rfl, (blk_cell BK176.out 5).trans rfl, (blk_cell BK176.out 6).trans rfl, (blk_cell BK176.out 7).trans rfl, (blk_cell BK176.out 8).trans rfl, (blk_cell BK176.out 9).trans rfl, (blk_cell BK176.out 10).trans rfl⟩ (fun hHeld => ?_)
         clear hK K
         refine norm_ (a' := ?_) ?_ ?_
         rotate_left
         ·show Act.put _ (some 8) _ = _
          simp only [Act.put, sA, s0, s1, i64_w, i32_w]
          rfl
         refine one_ (i := 2) (N := some 7) (tfA 4 2) rfl rfl (by kernel_rfl) (by decide) (fun K hK => ?_)
         refine box_step ?hg (N := 7) ?hd (cs := #[.int .i64 0, .int .i64 0, .int .i64 0, .int .i64 0, .string (⟨#[]⟩ : ByteArray), .string (⟨#[]⟩ : ByteArray), .string (⟨#[]⟩ : ByteArray), .string (⟨#[]⟩ : ByteArray), .string (⟨#[]⟩ : ByteArray), .string (⟨#[]⟩ : ByteArray), .string (⟨#[]⟩ : ByteArray)]) (t := 23) ?hr ?_; (case hd => rfl); (case hg => rfl); (case hr => first | (go_simp; done) | (go_simp; rfl))
         intro gb180 hg w26 hbox hb
         have n0_ := Aside0.mk (blk_below (g := gb176) (o := .cells #[.int .i64 a0_0, .int .i64 a0_1, .int .i64 a0_2, .int .i64 a0_3, .string a0_4, .string a0_5, .string a0_6, .string a0_7, .string a0_8, .string a0_9, .string a0_10] 23 (0, 0)) (by refine bY ?_; exact BK176.out) hb)
         have n1_ := Aside0.mk (blk_below (g := gb181) (o := .cells #[.int .i64 0, .int .i64 0, .int .i64 0, .int .i64 0, .string (⟨#[]⟩ : ByteArray), .string (⟨#[]⟩ : ByteArray), .string (⟨#[]⟩ : ByteArray), .string (⟨#[]⟩ : ByteArray), .string (⟨#[]⟩ : ByteArray), .string (⟨#[]⟩ : ByteArray), .string (⟨#[]⟩ : ByteArray)] 23 (0, 0)) (by refine bY ?_; exact BK181.out) hb)
         have n2_ := Aside0.mk (below_step belS hb)
         have n3_ := Aside0.mk (hbox)
         have n4_ := Aside0.mk ((by rw [hg]; exact (below_size belS) : w.heap.size ≤ gb180))
         have n5_ := Aside0.mk ((by rw [hg]; exact (below_size belS) : w.heap.size ≤ gb180))
         have n6_ := Aside0.mk ((by rw [hg]; exact Nat.ne_of_lt (blk_lt (g := gb176) (o := .cells #[.int .i64 a0_0, .int .i64 a0_1, .int .i64 a0_2, .int .i64 a0_3, .string a0_4, .string a0_5, .string a0_6, .string a0_7, .string a0_8, .string a0_9, .string a0_10] 23 (0, 0)) (by refine bY ?_; exact BK176.out)) : gb176 ≠ gb180))
         have n7_ := Aside0.mk ((by rw [hg]; exact Nat.ne_of_gt (blk_lt (g := gb176) (o := .cells #[.int .i64 a0_0, .int .i64 a0_1, .int .i64 a0_2, .int .i64 a0_3, .string a0_4, .string a0_5, .string a0_6, .string a0_7, .string a0_8, .string a0_9, .string a0_10] 23 (0, 0)) (by refine bY ?_; exact BK176.out)) : gb180 ≠ gb176))
         have n8_ := Aside0.mk ((by rw [hg]; exact Nat.ne_of_lt (blk_lt (g := gb181) (o := .cells #[.int .i64 0, .int .i64 0, .int .i64 0, .int .i64 0, .string (⟨#[]⟩ : ByteArray), .string (⟨#[]⟩ : ByteArray), .string (⟨#[]⟩ : ByteArray), .string (⟨#[]⟩ : ByteArray), .string (⟨#[]⟩ : ByteArray), .string (⟨#[]⟩ : ByteArray), .string (⟨#[]⟩ : ByteArray)] 23 (0, 0)) (by refine bY ?_; exact BK181.out)) : gb181 ≠ gb180))
         have n9_ := Aside0.mk ((by rw [hg]; exact Nat.ne_of_gt (blk_lt (g := gb181) (o := .cells #[.int .i64 0, .int .i64 0, .int .i64 0, .int .i64 0, .string (⟨#[]⟩ : ByteArray), .string (⟨#[]⟩ : ByteArray), .string (⟨#[]⟩ : ByteArray), .string (⟨#[]⟩ : ByteArray), .string (⟨#[]⟩ : ByteArray), .string (⟨#[]⟩ : ByteArray), .string (⟨#[]⟩ : ByteArray)] 23 (0, 0)) (by refine bY ?_; exact BK181.out)) : gb180 ≠ gb181))
         clear BK176
         clear BK181
         clear HB
         have BK176 := n0_
         have BK181 := n1_
         have HB := n2_
         have BK180 := n3_
         have GW180 := n4_
         have GE180 := n5_
         have NB176_180 := n6_
         have NB180_176 := n7_
         have NB181_180 := n8_
         have NB180_181 := n9_
         clear n0_ n1_ n2_ n3_ n4_ n5_ n6_ n7_ n8_ n9_
         clear hb hbox hg
         refine hK.out _ _ ⟨(blk_cell BK176.out 0).trans rfl, (blk_cell BK176.out 1).trans rfl, (blk_cell BK176.out 2).trans rfl, (blk_cell BK176.out 3).trans rfl, (blk_cell BK176.out 4).trans rfl, (blk_cell BK176.out 5).trans rfl, (blk_cell BK176.out 6).trans rfl, (blk_cell BK176.out 7).trans rfl, (blk_cell BK176.out 8).trans rfl, (blk_cell BK176.out 9).trans rfl, (blk_cell BK176.out 10).trans rfl⟩ (fun hHeld => ?_)
         clear hK K
         refine norm_ (a' := ?_) ?_ ?_
         rotate_left
         ·show Act.put _ (some 7) _ = _
          simp only [Act.put, sA, s0, s1, i64_w, i32_w]
          rfl
         exact norm_ (by simp only [putAll, Act.put, List.setIfInBounds_toArray, List.set_cons_zero, List.set_cons_succ]) (hCont (gb180, gb181) _ ⟨hHeld, (by refine bY ?_; exact BK176.out), (by refine bY ?_; exact BK180.out), (by refine bY ?_; exact BK181.out), GW180.out, GE180.out, NB176_180.out, NB180_176.out, NB181_180.out, NB180_181.out, GW181.out, GE181.out, NB176_181.out, NB181_176.out, belS⟩)
       rintro ⟨gb180, gb181⟩ w27 ⟨hS_, h0_, h1_, h2_, h3_, h4_, h5_, h6_, h7_, h8_, h9_, h10_, h11_, h12_, h13_⟩
       have n0_ : Aside0 (w27.heap[gb176]? = some (.cells #[.int .i64 a0_0, .int .i64 a0_1, .int .i64 a0_2, .int .i64 a0_3, .string a0_4, .string a0_5, .string a0_6, .string a0_7, .string a0_8, .string a0_9, .string a0_10] 23 (0, 0))) := ⟨h0_⟩
       have n1_ : Aside0 (w27.heap[gb180]? = some (.cells #[.int .i64 0, .int .i64 0, .int .i64 0, .int .i64 0, .string (⟨#[]⟩ : ByteArray), .string (⟨#[]⟩ : ByteArray), .string (⟨#[]⟩ : ByteArray), .string (⟨#[]⟩ : ByteArray), .string (⟨#[]⟩ : ByteArray), .string (⟨#[]⟩ : ByteArray), .string (⟨#[]⟩ : ByteArray)] 23 (0, 0))) := ⟨h1_⟩
       have n2_ : Aside0 (w27.heap[gb181]? = some (.cells #[.int .i64 0, .int .i64 0, .int .i64 0, .int .i64 0, .string (⟨#[]⟩ : ByteArray), .string (⟨#[]⟩ : ByteArray), .string (⟨#[]⟩ : ByteArray), .string (⟨#[]⟩ : ByteArray), .string (⟨#[]⟩ : ByteArray), .string (⟨#[]⟩ : ByteArray), .string (⟨#[]⟩ : ByteArray)] 23 (0, 0))) := ⟨h2_⟩
       have n3_ : Aside0 (w.heap.size ≤ gb180) := ⟨h3_⟩
       have n4_ : Aside0 (w.heap.size ≤ gb180) := ⟨h4_⟩
       have n5_ : Aside0 (gb176 ≠ gb180) := ⟨h5_⟩
       have n6_ : Aside0 (gb180 ≠ gb176) := ⟨h6_⟩
       have n7_ : Aside0 (gb181 ≠ gb180) := ⟨h7_⟩
       have n8_ : Aside0 (gb180 ≠ gb181) := ⟨h8_⟩
       have n9_ : Aside0 (w.heap.size ≤ gb181) := ⟨h9_⟩
       have n10_ : Aside0 (w.heap.size ≤ gb181) := ⟨h10_⟩
       have n11_ : Aside0 (gb176 ≠ gb181) := ⟨h11_⟩
       have n12_ : Aside0 (gb181 ≠ gb176) := ⟨h12_⟩
       have n13_ : Aside0 (Below w.heap.size w w27) := ⟨h13_⟩
       clear BK176
       clear HB
       clear h0_ h1_ h2_ h3_ h4_ h5_ h6_ h7_ h8_ h9_ h10_ h11_ h12_ h13_
       have BK176 := n0_
       have BK180 := n1_
       have BK181 := n2_
       have GW180 := n3_
       have GE180 := n4_
       have NB176_180 := n5_
       have NB180_176 := n6_
       have NB181_180 := n7_
       have NB180_181 := n8_
       have GW181 := n9_
       have GE181 := n10_
       have NB176_181 := n11_
       have NB181_176 := n12_
       have HB := n13_
       clear n0_ n1_ n2_ n3_ n4_ n5_ n6_ n7_ n8_ n9_ n10_ n11_ n12_ n13_
       have hHeld : w27.cell? ⟨gb176, 0, none⟩ = some (.int .i64 a0_0) ∧ w27.cell? ⟨gb176, 1, none⟩ = some (.int .i64 a0_1) ∧ w27.cell? ⟨gb176, 2, none⟩ = some (.int .i64 a0_2) ∧ w27.cell? ⟨gb176, 3, none⟩ = some (.int .i64 a0_3) ∧ w27.cell? ⟨gb176, 4, none⟩ = some (.string a0_4) ∧ w27.cell? ⟨gb176, 5, none⟩ = some (.string a0_5) ∧ w27.cell? ⟨gb176, 6, none⟩ = some (.string a0_6) ∧ w27.cell? ⟨gb176, 7, none⟩ = some (.string a0_7) ∧ w27.cell? ⟨gb176, 8, none⟩ = some (.string a0_8) ∧ w27.cell? ⟨gb176, 9, none⟩ = some (.string a0_9) ∧ w27.cell? ⟨gb176, 10, none⟩ = some (.string a0_10) := hS_
       refine norm_ (a' := ?_) ?_ ?_
       rotate_left
       ·simp only [putAll, Act.put, List.setIfInBounds_toArray, List.set_cons_zero, List.set_cons_succ]
        rfl
       refine one_ (i := 4) (N := none) (tfA 5 1) rfl rfl (by kernel_rfl) (by decide) (fun K hK => ?_)
       have hs28 : w27.cell? ⟨gb180, 0, none⟩ = some (.int .i64 0) := (blk_cell BK180.out 0).trans rfl
       have hfs28 := blk_frozen BK180.out 0
       have hns28_0 := NB176_180.out
       have hns28_2 := NB181_180.out
       have hms28_0 := NB180_176.out
       have hms28_2 := NB180_181.out
       have hs29 : w27.cell? ⟨gb180, 1, none⟩ = some (.int .i64 0) := (blk_cell BK180.out 1).trans rfl
       have hfs29 := blk_frozen BK180.out 1
       have hns29_0 := NB176_180.out
       have hns29_2 := NB181_180.out
       have hms29_0 := NB180_176.out
       have hms29_2 := NB180_181.out
       have hs30 : w27.cell? ⟨gb180, 2, none⟩ = some (.int .i64 0) := (blk_cell BK180.out 2).trans rfl
       have hfs30 := blk_frozen BK180.out 2
       have hns30_0 := NB176_180.out
       have hns30_2 := NB181_180.out
       have hms30_0 := NB180_176.out
       have hms30_2 := NB180_181.out
       have hs31 : w27.cell? ⟨gb180, 3, none⟩ = some (.int .i64 0) := (blk_cell BK180.out 3).trans rfl
       have hfs31 := blk_frozen BK180.out 3
       have hns31_0 := NB176_180.out
       have hns31_2 := NB181_180.out
       have hms31_0 := NB180_176.out
       have hms31_2 := NB180_181.out
       have hs32 : w27.cell? ⟨gb180, 4, none⟩ = some (.string (⟨#[]⟩ : ByteArray)) := (blk_cell BK180.out 4).trans rfl
       have hfs32 := blk_frozen BK180.out 4
       have hns32_0 := NB176_180.out
       have hns32_2 := NB181_180.out
       have hms32_0 := NB180_176.out
       have hms32_2 := NB180_181.out
       have hs33 : w27.cell? ⟨gb180, 5, none⟩ = some (.string (⟨#[]⟩ : ByteArray)) := (blk_cell BK180.out 5).trans rfl
       have hfs33 := blk_frozen BK180.out 5
       have hns33_0 := NB176_180.out
       have hns33_2 := NB181_180.out
       have hms33_0 := NB180_176.out
       have hms33_2 := NB180_181.out
       have hs34 : w27.cell? ⟨gb180, 6, none⟩ = some (.string (⟨#[]⟩ : ByteArray)) := (blk_cell BK180.out 6).trans rfl
       have hfs34 := blk_frozen BK180.out 6
       have hns34_0 := NB176_180.out
       have hns34_2 := NB181_180.out
       have hms34_0 := NB180_176.out
       have hms34_2 := NB180_181.out
       have hs35 : w27.cell? ⟨gb180, 7, none⟩ = some (.string (⟨#[]⟩ : ByteArray)) := (blk_cell BK180.out 7).trans rfl
       have hfs35 := blk_frozen BK180.out 7
       have hns35_0 := NB176_180.out
       have hns35_2 := NB181_180.out
       have hms35_0 := NB180_176.out
       have hms35_2 := NB180_181.out
       have hs36 : w27.cell? ⟨gb180, 8, none⟩ = some (.string (⟨#[]⟩ : ByteArray)) := (blk_cell BK180.out 8).trans rfl
       have hfs36 := blk_frozen BK180.out 8
       have hns36_0 := NB176_180.out
       have hns36_2 := NB181_180.out
       have hms36_0 := NB180_176.out
       have hms36_2 := NB180_181.out
       have hs37 : w27.cell? ⟨gb180, 9, none⟩ = some (.string (⟨#[]⟩ : ByteArray)) := (blk_cell BK180.out 9).trans rfl
       have hfs37 := blk_frozen BK180.out 9
       have hns37_0 := NB176_180.out
       have hns37_2 := NB181_180.out
       have hms37_0 := NB180_176.out
       have hms37_2 := NB180_181.out
       have hs38 : w27.cell? ⟨gb180, 10, none⟩ = some (.string (⟨#[]⟩ : ByteArray)) := (blk_cell BK180.out 10).trans rfl
       have hfs38 := blk_frozen BK180.out 10
       have hns38_0 := NB176_180.out
       have hns38_2 := NB181_180.out
       have hms38_0 := NB180_176.out
       have hms38_2 := NB180_181.out
       refine skip_ (w1 := ?_) (by rfl) rfl ?_ ?_
       rotate_left
       ·go_simp
        rfl
       refine hK.out _ _ ⟨(by refine Eq.trans (cell_far (p := ⟨gb180, _, none⟩) NB176_180.out _) ?_; refine Eq.trans (cell_far (p := ⟨gb180, _, none⟩) NB176_180.out _) ?_; refine Eq.trans (cell_far (p := ⟨gb180, _, none⟩) NB176_180.out _) ?_; refine Eq.trans (cell_far (p := ⟨gb180, _, none⟩) NB176_180.out _) ?_; refine Eq.trans (cell_far (p := ⟨gb180, _, none⟩) NB176_180.out _) ?_; refine Eq.trans (cell_far (p := ⟨gb180, _, none⟩) NB176_180.out _) ?_; refine Eq.trans (cell_far (p := ⟨gb180, _, none⟩) NB176_180.out _) ?_; refine Eq.trans (cell_far (p := ⟨gb180, _, none⟩) NB176_180.out _) ?_; refine Eq.trans (cell_far (p := ⟨gb180, _, none⟩) NB176_180.out _) ?_; refine Eq.trans (cell_far (p := ⟨gb180, _, none⟩) NB176_180.out _) ?_; refine Eq.trans (cell_far (p := ⟨gb180, _, none⟩) NB176_180.out _) ?_; exact (hHeld.1)), (by refine Eq.trans (cell_far (p := ⟨gb180, _, none⟩) NB176_180.out _) ?_; refine Eq.trans (cell_far (p := ⟨gb180, _, none⟩) NB176_180.out _) ?_; refine Eq.trans (cell_far (p := ⟨gb180, _, none⟩) NB176_180.out _) ?_; refine Eq.trans (cell_far (p := ⟨gb180, _, none⟩) NB176_180.out _) ?_; refine Eq.trans (cell_far (p := ⟨gb180, _, none⟩) NB176_180.out _) ?_; refine Eq.trans (cell_far (p := ⟨gb180, _, none⟩) NB176_180.out _) ?_; refine Eq.trans (cell_far (p := ⟨gb180, _, none⟩) NB176_180.out _) ?_; refine Eq.trans (cell_far (p := ⟨gb180, _, none⟩) NB176_180.out _) ?_; refine Eq.trans (cell_far (p := ⟨gb180, _, none⟩) NB176_180.out _) ?_; refine Eq.trans (cell_far (p := ⟨gb180, _, none⟩) NB176_180.out _) ?_; refine Eq.trans (cell_far (p := ⟨gb180, _, none⟩) NB176_180.out _) ?_; exact (hHeld.2.1)), (by refine Eq.trans (cell_far (p := ⟨gb180, _, none⟩) NB176_180.out _) ?_; refine Eq.trans (cell_far (p := ⟨gb180, _, none⟩) NB176_180.out _) ?_; refine Eq.trans (cell_far (p := ⟨gb180, _, none⟩) NB176_180.out _) ?_; refine Eq.trans (cell_far (p := ⟨gb180, _, none⟩) NB176_180.out _) ?_; refine Eq.trans (cell_far (p := ⟨gb180, _, none⟩) NB176_180.out _) ?_; refine Eq.trans (cell_far (p := ⟨gb180, _, none⟩) NB176_180.out _) ?_; refine Eq.trans (cell_far (p := ⟨gb180, _, none⟩) NB176_180.out _) ?_; refine Eq.trans (cell_far (p := ⟨gb180, _, none⟩) NB176_180.out _) ?_; refine Eq.trans (cell_far (p := ⟨gb180, _, none⟩) NB176_180.out _) ?_; refine Eq.trans (cell_far (p := ⟨gb180, _, none⟩) NB176_180.out _) ?_; refine Eq.trans (cell_far (p := ⟨gb180, _, none⟩) NB176_180.out _) ?_; exact (hHeld.2.2.1)), (by refine Eq.trans (cell_far (p := ⟨gb180, _, none⟩) NB176_180.out _) ?_; refine Eq.trans (cell_far (p := ⟨gb180, _, none⟩) NB176_180.out _) ?_; refine Eq.trans (cell_far (p := ⟨gb180, _, none⟩) NB176_180.out _) ?_; refine Eq.trans (cell_far (p := ⟨gb180, _, none⟩) NB176_180.out _) ?_; refine Eq.trans (cell_far (p := ⟨gb180, _, none⟩) NB176_180.out _) ?_; refine Eq.trans (cell_far (p := ⟨gb180, _, none⟩) NB176_180.out _) ?_; refine Eq.trans (cell_far (p := ⟨gb180, _, none⟩) NB176_180.out _) ?_; refine Eq.trans (cell_far (p := ⟨gb180, _, none⟩) NB176_180.out _) ?_; refine Eq.trans (cell_far (p := ⟨gb180, _, none⟩) NB176_180.out _) ?_; refine Eq.trans (cell_far (p := ⟨gb180, _, none⟩) NB176_180.out _) ?_; refine Eq.trans (cell_far (p := ⟨gb180, _, none⟩) NB176_180.out _) ?_; exact (hHeld.2.2.2.1)), (by refine Eq.trans (cell_far (p := ⟨gb180, _, none⟩) NB176_180.out _) ?_; refine Eq.trans (cell_far (p := ⟨gb180, _, none⟩) NB176_180.out _) ?_; refine Eq.trans (cell_far (p := ⟨gb180, _, none⟩) NB176_180.out _) ?_; refine Eq.trans (cell_far (p := ⟨gb180, _, none⟩) NB176_180.out _) ?_; refine Eq.trans (cell_far (p := ⟨gb180, _, none⟩) NB176_180.out _) ?_; refine Eq.trans (cell_far (p := ⟨gb180, _, none⟩) NB176_180.out _) ?_; refine Eq.trans (cell_far (p := ⟨gb180, _, none⟩) NB176_180.out _) ?_; refine Eq.trans (cell_far (p := ⟨gb180, _, none⟩) NB176_180.out _) ?_; refine Eq.trans (cell_far (p := ⟨gb180, _, none⟩) NB176_180.out _) ?_; refine Eq.trans (cell_far (p := ⟨gb180, _, none⟩) NB176_180.out _) ?_; refine Eq.trans (cell_far (p := ⟨gb180, _, none⟩) NB176_180.out _) ?_; exact (hHeld.2.2.2.2.1)), (by refine Eq.trans (cell_far (p := ⟨gb180, _, none⟩) NB176_180.out _) ?_; refine Eq.trans (cell_far (p := ⟨gb180, _, none⟩) NB176_180.out _) ?_; refine Eq.trans (cell_far (p := ⟨gb180, _, none⟩) NB176_180.out _) ?_; refine Eq.trans (cell_far (p := ⟨gb180, _, none⟩) NB176_180.out _) ?_; refine Eq.trans (cell_far (p := ⟨gb180, _, none⟩) NB176_180.out _) ?_; refine Eq.trans (cell_far (p := ⟨gb180, _, none⟩) NB176_180.out _) ?_; refine Eq.trans (cell_far (p := ⟨gb180, _, none⟩) NB176_180.out _) ?_; refine Eq.trans (cell_far (p := ⟨gb180, _, none⟩) NB176_180.out _) ?_; refine Eq.trans (cell_far (p := ⟨gb180, _, none⟩) NB176_180.out _) ?_; refine Eq.trans (cell_far (p := ⟨gb180, _, none⟩) NB176_180.out _) ?_; refine Eq.trans (cell_far (p := ⟨gb180, _, none⟩) NB176_180.out _) ?_; exact (hHeld.2.2.2.2.2.1)), (by refine Eq.trans (cell_far (p := ⟨gb180, _, none⟩) NB176_180.out _) ?_; refine Eq.trans (cell_far (p := ⟨gb180, _, none⟩) NB176_180.out _) ?_; refine Eq.trans (cell_far (p := ⟨gb180, _, none⟩) NB176_180.out _) ?_; refine Eq.trans (cell_far (p := ⟨gb180, _, none⟩) NB176_180.out _) ?_; refine Eq.trans (cell_far (p := ⟨gb180, _, none⟩) NB176_180.out _) ?_; refine Eq.trans (cell_far (p := ⟨gb180, _, none⟩) NB176_180.out _) ?_; refine Eq.trans (cell_far (p := ⟨gb180, _, none⟩) NB176_180.out _) ?_; refine Eq.trans (cell_far (p := ⟨gb180, _, none⟩) NB176_180.out _) ?_; refine Eq.trans (cell_far (p := ⟨gb180, _, none⟩) NB176_180.out _) ?_; refine Eq.trans (cell_far (p := ⟨gb180, _, none⟩) NB176_180.out _) ?_; refine Eq.trans (cell_far (p := ⟨gb180, _, none⟩) NB176_180.out _) ?_; exact (hHeld.2.2.2.2.2.2.1)), (by refine Eq.trans (cell_far (p := ⟨gb180, _, none⟩) NB176_180.out _) ?_; refine Eq.trans (cell_far (p := ⟨gb180, _, none⟩) NB176_180.out _) ?_; refine Eq.trans (cell_far (p := ⟨gb180, _, none⟩) NB176_180.out _) ?_; refine Eq.trans (cell_far (p := ⟨gb180, _, none⟩) NB176_180.out _) ?_; refine Eq.trans (cell_far (p := ⟨gb180, _, none⟩) NB176_180.out _) ?_; refine Eq.trans (cell_far (p := ⟨gb180, _, none⟩) NB176_180.out _) ?_; refine Eq.trans (cell_far (p := ⟨gb180, _, none⟩) NB176_180.out _) ?_; refine Eq.trans (cell_far (p := ⟨gb180, _, none⟩) NB176_180.out _) ?_; refine Eq.trans (cell_far (p := ⟨gb180, _, none⟩) NB176_180.out _) ?_; refine Eq.trans (cell_far (p := ⟨gb180, _, none⟩) NB176_180.out _) ?_; refine Eq.trans (cell_far (p := ⟨gb180, _, none⟩) NB176_180.out _) ?_; exact (hHeld.2.2.2.2.2.2.2.1)), (by refine Eq.trans (cell_far (p := ⟨gb180, _, none⟩) NB176_180.out _) ?_; refine Eq.trans (cell_far (p := ⟨gb180, _, none⟩) NB176_180.out _) ?_; refine Eq.trans (cell_far (p := ⟨gb180, _, none⟩) NB176_180.out _) ?_; refine Eq.trans (cell_far (p := ⟨gb180, _, none⟩) NB176_180.out _) ?_; refine Eq.trans (cell_far (p := ⟨gb180, _, none⟩) NB176_180.out _) ?_; refine Eq.trans (cell_far (p := ⟨gb180, _, none⟩) NB176_180.out _) ?_; refine Eq.trans (cell_far (p := ⟨gb180, _, none⟩) NB176_180.out _) ?_; refine Eq.trans (cell_far (p := ⟨gb180, _, none⟩) NB176_180.out _) ?_; refine Eq.trans (cell_far (p := ⟨gb180, _, none⟩) NB176_180.out _) ?_; refine Eq.trans (cell_far (p := ⟨gb180, _, none⟩) NB176_180.out _) ?_; refine Eq.trans (cell_far (p := ⟨gb180, _, none⟩) NB176_180.out _) ?_; exact (hHeld.2.2.2.2.2.2.2.2.1)), (by refine Eq.trans (cell_far (p := ⟨gb180, _, none⟩) NB176_180.out _) ?_; refine Eq.trans (cell_far (p := ⟨gb180, _, none⟩) NB176_180.out _) ?_; refine Eq.trans (cell_far (p := ⟨gb180, _, none⟩) NB176_180.out _) ?_; refine Eq.trans (cell_far (p := ⟨gb180, _, none⟩) NB176_180.out _) ?_; refine Eq.trans (cell_far (p := ⟨gb180, _, none⟩) NB176_180.out _) ?_; refine Eq.trans (cell_far (p := ⟨gb180, _, none⟩) NB176_180.out _) ?_; refine Eq.trans (cell_far (p := ⟨gb180, _, none⟩) NB176_180.out _) ?_; refine Eq.trans (cell_far (p := ⟨gb180, _, none⟩) NB176_180.out _) ?_; refine Eq.trans (cell_far (p := ⟨gb180, _, none⟩) NB176_180.out _) ?_; refine Eq.trans (cell_far (p := ⟨gb180, _, none⟩) NB176_180.out _) ?_; refine Eq.trans (cell_far (p := ⟨gb180, _, none⟩) NB176_180.out _) ?_; exact (hHeld.2.2.2.2.2.2.2.2.2.1)), (by refine Eq.trans (cell_far (p := ⟨gb180, _, none⟩) NB176_180.out _) ?_; refine Eq.trans (cell_far (p := ⟨gb180, _, none⟩) NB176_180.out _) ?_; refine Eq.trans (cell_far (p := ⟨gb180, _, none⟩) NB176_180.out _) ?_; refine Eq.trans (cell_far (p := ⟨gb180, _, none⟩) NB176_180.out _) ?_; refine Eq.trans (cell_far (p := ⟨gb180, _, none⟩) NB176_180.out _) ?_; refine Eq.trans (cell_far (p := ⟨gb180, _, none⟩) NB176_180.out _) ?_; refine Eq.trans (cell_far (p := ⟨gb180, _, none⟩) NB176_180.out _) ?_; refine Eq.trans (cell_far (p := ⟨gb180, _, none⟩) NB176_180.out _) ?_; refine Eq.trans (cell_far (p := ⟨gb180, _, none⟩) NB176_180.out _) ?_; refine Eq.trans (cell_far (p := ⟨gb180, _, none⟩) NB176_180.out _) ?_; refine Eq.trans (cell_far (p := ⟨gb180, _, none⟩) NB176_180.out _) ?_; exact (hHeld.2.2.2.2.2.2.2.2.2.2))⟩ (fun hHeld => ?_)
       clear hK K
       obtain ⟨w27a, hw_⟩ : ∃ W_ : World, W_ = (((((((((((w27.setCell ⟨gb180, 0, none⟩ (.int .i64 a0_0)).setCell ⟨gb180, 1, none⟩ (.int .i64 a0_1)).setCell ⟨gb180, 2, none⟩ (.int .i64 a0_2)).setCell ⟨gb180, 3, none⟩ (.int .i64 a0_3)).setCell ⟨gb180, 4, none⟩ (.string a0_4)).setCell ⟨gb180, 5, none⟩ (.string a0_5)).setCell ⟨gb180, 6, none⟩ (.string a0_6)).setCell ⟨gb180, 7, none⟩ (.string a0_7)).setCell ⟨gb180, 8, none⟩ (.string a0_8)).setCell ⟨gb180, 9, none⟩ (.string a0_9)).setCell ⟨gb180, 10, none⟩ (.string a0_10)) := ⟨_, rfl⟩
       rw [← hw_]
       have m0_ : Aside0 (w27a.heap[gb176]? = some (.cells #[.int .i64 a0_0, .int .i64 a0_1, .int .i64 a0_2, .int .i64 a0_3, .string a0_4, .string a0_5, .string a0_6, .string a0_7, .string a0_8, .string a0_9, .string a0_10] 23 (0, 0))) := ⟨by rw [hw_]; refine blk_far ?_ NB176_180.out _; refine blk_far ?_ NB176_180.out _; refine blk_far ?_ NB176_180.out _; refine blk_far ?_ NB176_180.out _; refine blk_far ?_ NB176_180.out _; refine blk_far ?_ NB176_180.out _; refine blk_far ?_ NB176_180.out _; refine blk_far ?_ NB176_180.out _; refine blk_far ?_ NB176_180.out _; refine blk_far ?_ NB176_180.out _; refine blk_far ?_ NB176_180.out _; exact BK176.out⟩
       have m1_ : Aside0 (w27a.heap[gb180]? = some (.cells #[.int .i64 a0_0, .int .i64 a0_1, .int .i64 a0_2, .int .i64 a0_3, .string a0_4, .string a0_5, .string a0_6, .string a0_7, .string a0_8, .string a0_9, .string a0_10] 23 (0, 0))) := ⟨by rw [hw_]; refine blk_put (cs := #[.int .i64 a0_0, .int .i64 a0_1, .int .i64 a0_2, .int .i64 a0_3, .string a0_4, .string a0_5, .string a0_6, .string a0_7, .string a0_8, .string a0_9, .string (⟨#[]⟩ : ByteArray)]) ?_ 10 _ rfl; refine blk_put (cs := #[.int .i64 a0_0, .int .i64 a0_1, .int .i64 a0_2, .int .i64 a0_3, .string a0_4, .string a0_5, .string a0_6, .string a0_7, .string a0_8, .string (⟨#[]⟩ : ByteArray), .string (⟨#[]⟩ : ByteArray)]) ?_ 9 _ rfl; refine blk_put (cs := #[.int .i64 a0_0, .int .i64 a0_1, .int .i64 a0_2, .int .i64 a0_3, .string a0_4, .string a0_5, .string a0_6, .string a0_7, .string (⟨#[]⟩ : ByteArray), .string (⟨#[]⟩ : ByteArray), .string (⟨#[]⟩ : ByteArray)]) ?_ 8 _ rfl; refine blk_put (cs := #[.int .i64 a0_0, .int .i64 a0_1, .int .i64 a0_2, .int .i64 a0_3, .string a0_4, .string a0_5, .string a0_6, .string (⟨#[]⟩ : ByteArray), .string (⟨#[]⟩ : ByteArray), .string (⟨#[]⟩ : ByteArray), .string (⟨#[]⟩ : ByteArray)]) ?_ 7 _ rfl; refine blk_put (cs := #[.int .i64 a0_0, .int .i64 a0_1, .int .i64 a0_2, .int .i64 a0_3, .string a0_4, .string a0_5, .string (⟨#[]⟩ : ByteArray), .string (⟨#[]⟩ : ByteArray), .string (⟨#[]⟩ : ByteArray), .string (⟨#[]⟩ : ByteArray), .string (⟨#[]⟩ : ByteArray)]) ?_ 6 _ rfl; refine blk_put (cs := #[.int .i64 a0_0, .int .i64 a0_1, .int .i64 a0_2, .int .i64 a0_3, .string a0_4, .string (⟨#[]⟩ : ByteArray), .string (⟨#[]⟩ : ByteArray), .string (⟨#[]⟩ : ByteArray), .string (⟨#[]⟩ : ByteArray), .string (⟨#[]⟩ : ByteArray), .string (⟨#[]⟩ : ByteArray)]) ?_ 5 _ rfl; refine blk_put (cs := #[.int .i64 a0_0, .int .i64 a0_1, .int .i64 a0_2, .int .i64 a0_3, .string (⟨#[]⟩ : ByteArray), .string (⟨#[]⟩ : ByteArray), .string (⟨#[]⟩ : ByteArray), .string (⟨#[]⟩ : ByteArray), .string (⟨#[]⟩ : ByteArray), .string (⟨#[]⟩ : ByteArray), .string (⟨#[]⟩ : ByteArray)]) ?_ 4 _ rfl; refine blk_put (cs := #[.int .i64 a0_0, .int .i64 a0_1, .int .i64 a0_2, .int .i64 0, .string (⟨#[]⟩ : ByteArray), .string (⟨#[]⟩ : ByteArray), .string (⟨#[]⟩ : ByteArray), .string (⟨#[]⟩ : ByteArray), .string (⟨#[]⟩ : ByteArray), .string (⟨#[]⟩ : ByteArray), .string (⟨#[]⟩ : ByteArray)]) ?_ 3 _ rfl; refine blk_put (cs := #[.int .i64 a0_0, .int .i64 a0_1, .int .i64 0, .int .i64 0, .string (⟨#[]⟩ : ByteArray), .string (⟨#[]⟩ : ByteArray), .string (⟨#[]⟩ : ByteArray), .string (⟨#[]⟩ : ByteArray), .string (⟨#[]⟩ : ByteArray), .string (⟨#[]⟩ : ByteArray), .string (⟨#[]⟩ : ByteArray)]) ?_ 2 _ rfl; refine blk_put (cs := #[.int .i64 a0_0, .int .i64 0, .int .i64 0, .int .i64 0, .string (⟨#[]⟩ : ByteArray), .string (⟨#[]⟩ : ByteArray), .string (⟨#[]⟩ : ByteArray), .string (⟨#[]⟩ : ByteArray), .string (⟨#[]⟩ : ByteArray), .string (⟨#[]⟩ : ByteArray), .string (⟨#[]⟩ : ByteArray)]) ?_ 1 _ rfl; refine blk_put (cs := #[.int .i64 0, .int .i64 0, .int .i64 0, .int .i64 0, .string (⟨#[]⟩ : ByteArray), .string (⟨#[]⟩ : ByteArray), .string (⟨#[]⟩ : ByteArray), .string (⟨#[]⟩ : ByteArray), .string (⟨#[]⟩ : ByteArray), .string (⟨#[]⟩ : ByteArray), .string (⟨#[]⟩ : ByteArray)]) ?_ 0 _ rfl; exact BK180.out⟩
       have m2_ : Aside0 (w27a.heap[gb181]? = some (.cells #[.int .i64 0, .int .i64 0, .int .i64 0, .int .i64 0, .string (⟨#[]⟩ : ByteArray), .string (⟨#[]⟩ : ByteArray), .string (⟨#[]⟩ : ByteArray), .string (⟨#[]⟩ : ByteArray), .string (⟨#[]⟩ : ByteArray), .string (⟨#[]⟩ : ByteArray), .string (⟨#[]⟩ : ByteArray)] 23 (0, 0))) := ⟨by rw [hw_]; refine blk_far ?_ NB181_180.out _; refine blk_far ?_ NB181_180.out _; refine blk_far ?_ NB181_180.out _; refine blk_far ?_ NB181_180.out _; refine blk_far ?_ NB181_180.out _; refine blk_far ?_ NB181_180.out _; refine blk_far ?_ NB181_180.out _; refine blk_far ?_ NB181_180.out _; refine blk_far ?_ NB181_180.out _; refine blk_far ?_ NB181_180.out _; refine blk_far ?_ NB181_180.out _; exact BK181.out⟩
       have m3_ : Aside0 (Below w.heap.size w w27a) := ⟨by rw [hw_]; refine below_set ?_ GE180.out; refine below_set ?_ GE180.out; refine below_set ?_ GE180.out; refine below_set ?_ GE180.out; refine below_set ?_ GE180.out; refine below_set ?_ GE180.out; refine below_set ?_ GE180.out; refine below_set ?_ GE180.out; refine below_set ?_ GE180.out; refine below_set ?_ GE180.out; refine below_set ?_ GE180.out; exact HB.out⟩
       clear hw_ BK176 BK180 BK181 HB
       have BK176 := m0_
       have BK180 := m1_
       have BK181 := m2_
       have HB := m3_
       clear m0_ m1_ m2_ m3_
       clear hHeld
       have hHeld : w27a.cell? ⟨gb176, 0, none⟩ = some (.int .i64 a0_0) ∧ w27a.cell? ⟨gb176, 1, none⟩ = some (.int .i64 a0_1) ∧ w27a.cell? ⟨gb176, 2, none⟩ = some (.int .i64 a0_2) ∧ w27a.cell? ⟨gb176, 3, none⟩ = some (.int .i64 a0_3) ∧ w27a.cell? ⟨gb176, 4, none⟩ = some (.string a0_4) ∧ w27a.cell? ⟨gb176, 5, none⟩ = some (.string a0_5) ∧ w27a.cell? ⟨gb176, 6, none⟩ = some (.string a0_6) ∧ w27a.cell? ⟨gb176, 7, none⟩ = some (.string a0_7) ∧ w27a.cell? ⟨gb176, 8, none⟩ = some (.string a0_8) ∧ w27a.cell? ⟨gb176, 9, none⟩ = some (.string a0_9) ∧ w27a.cell? ⟨gb176, 10, none⟩ = some (.string a0_10) := ⟨(blk_cell BK176.out 0).trans rfl, (blk_cell BK176.out 1).trans rfl, (blk_cell BK176.out 2).trans rfl, (blk_cell BK176.out 3).trans rfl, (blk_cell BK176.out 4).trans rfl, (blk_cell BK176.out 5).trans rfl, (blk_cell BK176.out 6).trans rfl, (blk_cell BK176.out 7).trans rfl, (blk_cell BK176.out 8).trans rfl, (blk_cell BK176.out 9).trans rfl, (blk_cell BK176.out 10).trans rfl⟩
       refine one_ (i := 5) (N := none) (tfA 6 0) rfl rfl (by kernel_rfl) (by decide) (fun K hK => ?_)
       have hs39 : w27a.cell? ⟨gb181, 0, none⟩ = some (.int .i64 0) := (blk_cell BK181.out 0).trans rfl
       have hfs39 := blk_frozen BK181.out 0
       have hns39_0 := NB176_181.out
       have hns39_1 := NB180_181.out
       have hms39_0 := NB181_176.out
       have hms39_1 := NB181_180.out
       have hs40 : w27a.cell? ⟨gb181, 1, none⟩ = some (.int .i64 0) := (blk_cell BK181.out 1).trans rfl
       have hfs40 := blk_frozen BK181.out 1
       have hns40_0 := NB176_181.out
       have hns40_1 := NB180_181.out
       have hms40_0 := NB181_176.out
       have hms40_1 := NB181_180.out
       have hs41 : w27a.cell? ⟨gb181, 2, none⟩ = some (.int .i64 0) := (blk_cell BK181.out 2).trans rfl
       have hfs41 := blk_frozen BK181.out 2
       have hns41_0 := NB176_181.out
       have hns41_1 := NB180_181.out
       have hms41_0 := NB181_176.out
       have hms41_1 := NB181_180.out
       have hs42 : w27a.cell? ⟨gb181, 3, none⟩ = some (.int .i64 0) := (blk_cell BK181.out 3).trans rfl
       have hfs42 := blk_frozen BK181.out 3
       have hns42_0 := NB176_181.out
       have hns42_1 := NB180_181.out
       have hms42_0 := NB181_176.out
       have hms42_1 := NB181_180.out
       have hs43 : w27a.cell? ⟨gb181, 4, none⟩ = some (.string (⟨#[]⟩ : ByteArray)) := (blk_cell BK181.out 4).trans rfl
       have hfs43 := blk_frozen BK181.out 4
       have hns43_0 := NB176_181.out
       have hns43_1 := NB180_181.out
       have hms43_0 := NB181_176.out
       have hms43_1 := NB181_180.out
       have hs44 : w27a.cell? ⟨gb181, 5, none⟩ = some (.string (⟨#[]⟩ : ByteArray)) := (blk_cell BK181.out 5).trans rfl
       have hfs44 := blk_frozen BK181.out 5
       have hns44_0 := NB176_181.out
       have hns44_1 := NB180_181.out
       have hms44_0 := NB181_176.out
       have hms44_1 := NB181_180.out
       have hs45 : w27a.cell? ⟨gb181, 6, none⟩ = some (.string (⟨#[]⟩ : ByteArray)) := (blk_cell BK181.out 6).trans rfl
       have hfs45 := blk_frozen BK181.out 6
       have hns45_0 := NB176_181.out
       have hns45_1 := NB180_181.out
       have hms45_0 := NB181_176.out
       have hms45_1 := NB181_180.out
       have hs46 : w27a.cell? ⟨gb181, 7, none⟩ = some (.string (⟨#[]⟩ : ByteArray)) := (blk_cell BK181.out 7).trans rfl
       have hfs46 := blk_frozen BK181.out 7
       have hns46_0 := NB176_181.out
       have hns46_1 := NB180_181.out
       have hms46_0 := NB181_176.out
       have hms46_1 := NB181_180.out
       have hs47 : w27a.cell? ⟨gb181, 8, none⟩ = some (.string (⟨#[]⟩ : ByteArray)) := (blk_cell BK181.out 8).trans rfl
       have hfs47 := blk_frozen BK181.out 8
       have hns47_0 := NB176_181.out
       have hns47_1 := NB180_181.out
       have hms47_0 := NB181_176.out
       have hms47_1 := NB181_180.out
       have hs48 : w27a.cell? ⟨gb181, 9, none⟩ = some (.string (⟨#[]⟩ : ByteArray)) := (blk_cell BK181.out 9).trans rfl
       have hfs48 := blk_frozen BK181.out 9
       have hns48_0 := NB176_181.out
       have hns48_1 := NB180_181.out
       have hms48_0 := NB181_176.out
       have hms48_1 := NB181_180.out
       have hs49 : w27a.cell? ⟨gb181, 10, none⟩ = some (.string (⟨#[]⟩ : ByteArray)) := (blk_cell BK181.out 10).trans rfl
       have hfs49 := blk_frozen BK181.out 10
       have hns49_0 := NB176_181.out
       have hns49_1 := NB180_181.out
       have hms49_0 := NB181_176.out
       have hms49_1 := NB181_180.out
       refine skip_ (w1 := ?_) (by rfl) rfl ?_ ?_
       rotate_left
       ·go_simp
        rfl
       refine hK.out _ _ ⟨(by refine Eq.trans (cell_far (p := ⟨gb181, _, none⟩) NB176_181.out _) ?_; refine Eq.trans (cell_far (p := ⟨gb181, _, none⟩) NB176_181.out _) ?_; refine Eq.trans (cell_far (p := ⟨gb181, _, none⟩) NB176_181.out _) ?_; refine Eq.trans (cell_far (p := ⟨gb181, _, none⟩) NB176_181.out _) ?_; refine Eq.trans (cell_far (p := ⟨gb181, _, none⟩) NB176_181.out _) ?_; refine Eq.trans (cell_far (p := ⟨gb181, _, none⟩) NB176_181.out _) ?_; refine Eq.trans (cell_far (p := ⟨gb181, _, none⟩) NB176_181.out _) ?_; refine Eq.trans (cell_far (p := ⟨gb181, _, none⟩) NB176_181.out _) ?_; refine Eq.trans (cell_far (p := ⟨gb181, _, none⟩) NB176_181.out _) ?_; refine Eq.trans (cell_far (p := ⟨gb181, _, none⟩) NB176_181.out _) ?_; refine Eq.trans (cell_far (p := ⟨gb181, _, none⟩) NB176_181.out _) ?_; exact (hHeld.1)), (by refine Eq.trans (cell_far (p := ⟨gb181, _, none⟩) NB176_181.out _) ?_; refine Eq.trans (cell_far (p := ⟨gb181, _, none⟩) NB176_181.out _) ?_; refine Eq.trans (cell_far (p := ⟨gb181, _, none⟩) NB176_181.out _) ?_; refine Eq.trans (cell_far (p := ⟨gb181, _, none⟩) NB176_181.out _) ?_; refine Eq.trans (cell_far (p := ⟨gb181, _, none⟩) NB176_181.out _) ?_; refine Eq.trans (cell_far (p := ⟨gb181, _, none⟩) NB176_181.out _) ?_; refine Eq.trans (cell_far (p := ⟨gb181, _, none⟩) NB176_181.out _) ?_; refine Eq.trans (cell_far (p := ⟨gb181, _, none⟩) NB176_181.out _) ?_; refine Eq.trans (cell_far (p := ⟨gb181, _, none⟩) NB176_181.out _) ?_; refine Eq.trans (cell_far (p := ⟨gb181, _, none⟩) NB176_181.out _) ?_; refine Eq.trans (cell_far (p := ⟨gb181, _, none⟩) NB176_181.out _) ?_; exact (hHeld.2.1)), (by refine Eq.trans (cell_far (p := ⟨gb181, _, none⟩) NB176_181.out _) ?_; refine Eq.trans (cell_far (p := ⟨gb181, _, none⟩) NB176_181.out _) ?_; refine Eq.trans (cell_far (p := ⟨gb181, _, none⟩) NB176_181.out _) ?_; refine Eq.trans (cell_far (p := ⟨gb181, _, none⟩) NB176_181.out _) ?_; refine Eq.trans (cell_far (p := ⟨gb181, _, none⟩) NB176_181.out _) ?_; refine Eq.trans (cell_far (p := ⟨gb181, _, none⟩) NB176_181.out _) ?_; refine Eq.trans (cell_far (p := ⟨gb181, _, none⟩) NB176_181.out _) ?_; refine Eq.trans (cell_far (p := ⟨gb181, _, none⟩) NB176_181.out _) ?_; refine Eq.trans (cell_far (p := ⟨gb181, _, none⟩) NB176_181.out _) ?_; refine Eq.trans (cell_far (p := ⟨gb181, _, none⟩) NB176_181.out _) ?_; refine Eq.trans (cell_far (p := ⟨gb181, _, none⟩) NB176_181.out _) ?_; exact (hHeld.2.2.1)), (by refine Eq.trans (cell_far (p := ⟨gb181, _, none⟩) NB176_181.out _) ?_; refine Eq.trans (cell_far (p := ⟨gb181, _, none⟩) NB176_181.out _) ?_; refine Eq.trans (cell_far (p := ⟨gb181, _, none⟩) NB176_181.out _) ?_; refine Eq.trans (cell_far (p := ⟨gb181, _, none⟩) NB176_181.out _) ?_; refine Eq.trans (cell_far (p := ⟨gb181, _, none⟩) NB176_181.out _) ?_; refine Eq.trans (cell_far (p := ⟨gb181, _, none⟩) NB176_181.out _) ?_; refine Eq.trans (cell_far (p := ⟨gb181, _, none⟩) NB176_181.out _) ?_; refine Eq.trans (cell_far (p := ⟨gb181, _, none⟩) NB176_181.out _) ?_; refine Eq.trans (cell_far (p := ⟨gb181, _, none⟩) NB176_181.out _) ?_; refine Eq.trans (cell_far (p := ⟨gb181, _, none⟩) NB176_181.out _) ?_; refine Eq.trans (cell_far (p := ⟨gb181, _, none⟩) NB176_181.out _) ?_; exact (hHeld.2.2.2.1)), (by refine Eq.trans (cell_far (p := ⟨gb181, _, none⟩) NB176_181.out _) ?_; refine Eq.trans (cell_far (p := ⟨gb181, _, none⟩) NB176_181.out _) ?_; refine Eq.trans (cell_far (p := ⟨gb181, _, none⟩) NB176_181.out _) ?_; refine Eq.trans (cell_far (p := ⟨gb181, _, none⟩) NB176_181.out _) ?_; refine Eq.trans (cell_far (p := ⟨gb181, _, none⟩) NB176_181.out _) ?_; refine Eq.trans (cell_far (p := ⟨gb181, _, none⟩) NB176_181.out _) ?_; refine Eq.trans (cell_far (p := ⟨gb181, _, none⟩) NB176_181.out _) ?_; refine Eq.trans (cell_far (p := ⟨gb181, _, none⟩) NB176_181.out _) ?_; refine Eq.trans (cell_far (p := ⟨gb181, _, none⟩) NB176_181.out _) ?_; refine Eq.trans (cell_far (p := ⟨gb181, _, none⟩) NB176_181.out _) ?_; refine Eq.trans (cell_far (p := ⟨gb181, _, none⟩) NB176_181.out _) ?_; exact (hHeld.2.2.2.2.1)), (by refine Eq.trans (cell_far (p := ⟨gb181, _, none⟩) NB176_181.out _) ?_; refine Eq.trans (cell_far (p := ⟨gb181, _, none⟩) NB176_181.out _) ?_; refine Eq.trans (cell_far (p := ⟨gb181, _, none⟩) NB176_181.out _) ?_; refine Eq.trans (cell_far (p := ⟨gb181, _, none⟩) NB176_181.out _) ?_; refine Eq.trans (cell_far (p := ⟨gb181, _, none⟩) NB176_181.out _) ?_; refine Eq.trans (cell_far (p := ⟨gb181, _, none⟩) NB176_181.out _) ?_; refine Eq.trans (cell_far (p := ⟨gb181, _, none⟩) NB176_181.out _) ?_; refine Eq.trans (cell_far (p := ⟨gb181, _, none⟩) NB176_181.out _) ?_; refine Eq.trans (cell_far (p := ⟨gb181, _, none⟩) NB176_181.out _) ?_; refine Eq.trans (cell_far (p := ⟨gb181, _, none⟩) NB176_181.out _) ?_; refine Eq.trans (cell_far (p := ⟨gb181, _, none⟩) NB176_181.out _) ?_; exact (hHeld.2.2.2.2.2.1)), (by refine Eq.trans (cell_far (p := ⟨gb181, _, none⟩) NB176_181.out _) ?_; refine Eq.trans (cell_far (p := ⟨gb181, _, none⟩) NB176_181.out _) ?_; refine Eq.trans (cell_far (p := ⟨gb181, _, none⟩) NB176_181.out _) ?_; refine Eq.trans (cell_far (p := ⟨gb181, _, none⟩) NB176_181.out _) ?_; refine Eq.trans (cell_far (p := ⟨gb181, _, none⟩) NB176_181.out _) ?_; refine Eq.trans (cell_far (p := ⟨gb181, _, none⟩) NB176_181.out _) ?_; refine Eq.trans (cell_far (p := ⟨gb181, _, none⟩) NB176_181.out _) ?_; refine Eq.trans (cell_far (p := ⟨gb181, _, none⟩) NB176_181.out _) ?_; refine Eq.trans (cell_far (p := ⟨gb181, _, none⟩) NB176_181.out _) ?_; refine Eq.trans (cell_far (p := ⟨gb181, _, none⟩) NB176_181.out _) ?_; refine Eq.trans (cell_far (p := ⟨gb181, _, none⟩) NB176_181.out _) ?_; exact (hHeld.2.2.2.2.2.2.1)), (by refine Eq.trans (cell_far (p := ⟨gb181, _, none⟩) NB176_181.out _) ?_; refine Eq.trans (cell_far (p := ⟨gb181, _, none⟩) NB176_181.out _) ?_; refine Eq.trans (cell_far (p := ⟨gb181, _, none⟩) NB176_181.out _) ?_; refine Eq.trans (cell_far (p := ⟨gb181, _, none⟩) NB176_181.out _) ?_; refine Eq.trans (cell_far (p := ⟨gb181, _, none⟩) NB176_181.out _) ?_; refine Eq.trans (cell_far (p := ⟨gb181, _, none⟩) NB176_181.out _) ?_; refine Eq.trans (cell_far (p := ⟨gb181, _, none⟩) NB176_181.out _) ?_; refine Eq.trans (cell_far (p := ⟨gb181, _, none⟩) NB176_181.out _) ?_; refine Eq.trans (cell_far (p := ⟨gb181, _, none⟩) NB176_181.out _) ?_; refine Eq.trans (cell_far (p := ⟨gb181, _, none⟩) NB176_181.out _) ?_; refine Eq.trans (cell_far (p := ⟨gb181, _, none⟩) NB176_181.out _) ?_; exact (hHeld.2.2.2.2.2.2.2.1)), (by refine Eq.trans (cell_far (p := ⟨gb181, _, none⟩) NB176_181.out _) ?_; refine Eq.trans (cell_far (p := ⟨gb181, _, none⟩) NB176_181.out _) ?_; refine Eq.trans (cell_far (p := ⟨gb181, _, none⟩) NB176_181.out _) ?_; refine Eq.trans (cell_far (p := ⟨gb181, _, none⟩) NB176_181.out _) ?_; refine Eq.trans (cell_far (p := ⟨gb181, _, none⟩) NB176_181.out _) ?_; refine Eq.trans (cell_far (p := ⟨gb181, _, none⟩) NB176_181.out _) ?_; refine Eq.trans (cell_far (p := ⟨gb181, _, none⟩) NB176_181.out _) ?_; refine Eq.trans (cell_far (p := ⟨gb181, _, none⟩) NB176_181.out _) ?_; refine Eq.trans (cell_far (p := ⟨gb181, _, none⟩) NB176_181.out _) ?_; refine Eq.trans (cell_far (p := ⟨gb181, _, none⟩) NB176_181.out _) ?_; refine Eq.trans (cell_far (p := ⟨gb181, _, none⟩) NB176_181.out _) ?_; exact (hHeld.2.2.2.2.2.2.2.2.1)), (by refine Eq.trans (cell_far (p := ⟨gb181, _, none⟩) NB176_181.out _) ?_; refine Eq.trans (cell_far (p := ⟨gb181, _, none⟩) NB176_181.out _) ?_; refine Eq.trans (cell_far (p := ⟨gb181, _, none⟩) NB176_181.out _) ?_; refine Eq.trans (cell_far (p := ⟨gb181, _, none⟩) NB176_181.out _) ?_; refine Eq.trans (cell_far (p := ⟨gb181, _, none⟩) NB176_181.out _) ?_; refine Eq.trans (cell_far (p := ⟨gb181, _, none⟩) NB176_181.out _) ?_; refine Eq.trans (cell_far (p := ⟨gb181, _, none⟩) NB176_181.out _) ?_; refine Eq.trans (cell_far (p := ⟨gb181, _, none⟩) NB176_181.out _) ?_; refine Eq.trans (cell_far (p := ⟨gb181, _, none⟩) NB176_181.out _) ?_; refine Eq.trans (cell_far (p := ⟨gb181, _, none⟩) NB176_181.out _) ?_; refine Eq.trans (cell_far (p := ⟨gb181, _, none⟩) NB176_181.out _) ?_; exact (hHeld.2.2.2.2.2.2.2.2.2.1)), (by refine Eq.trans (cell_far (p := ⟨gb181, _, none⟩) NB176_181.out _) ?_; refine Eq.trans (cell_far (p := ⟨gb181, _, none⟩) NB176_181.out _) ?_; refine Eq.trans (cell_far (p := ⟨gb181, _, none⟩) NB176_181.out _) ?_; refine Eq.trans (cell_far (p := ⟨gb181, _, none⟩) NB176_181.out _) ?_; refine Eq.trans (cell_far (p := ⟨gb181, _, none⟩) NB176_181.out _) ?_; refine Eq.trans (cell_far (p := ⟨gb181, _, none⟩) NB176_181.out _) ?_; refine Eq.trans (cell_far (p := ⟨gb181, _, none⟩) NB176_181.out _) ?_; refine Eq.trans (cell_far (p := ⟨gb181, _, none⟩) NB176_181.out _) ?_; refine Eq.trans (cell_far (p := ⟨gb181, _, none⟩) NB176_181.out _) ?_; refine Eq.trans (cell_far (p := ⟨gb181, _, none⟩) NB176_181.out _) ?_; refine Eq.trans (cell_far (p := ⟨gb181, _, none⟩) NB176_181.out _) ?_; exact (hHeld.2.2.2.2.2.2.2.2.2.2))⟩ (fun hHeld => ?_)
       clear hK K
       refine done_ (by kernel_rfl) ?_
       obtain ⟨w27b, hw_⟩ : ∃ W_ : World, W_ = (((((((((((w27a.setCell ⟨gb181, 0, none⟩ (.int .i64 a0_0)).setCell ⟨gb181, 1, none⟩ (.int .i64 a0_1)).setCell ⟨gb181, 2, none⟩ (.int .i64 a0_2)).setCell ⟨gb181, 3, none⟩ (.int .i64 a0_3)).setCell ⟨gb181, 4, none⟩ (.string a0_4)).setCell ⟨gb181, 5, none⟩ (.string a0_5)).setCell ⟨gb181, 6, none⟩ (.string a0_6)).setCell ⟨gb181, 7, none⟩ (.string a0_7)).setCell ⟨gb181, 8, none⟩ (.string a0_8)).setCell ⟨gb181, 9, none⟩ (.string a0_9)).setCell ⟨gb181, 10, none⟩ (.string a0_10)) := ⟨_, rfl⟩
       rw [← hw_]
       have m0_ : Aside0 (w27b.heap[gb176]? = some (.cells #[.int .i64 a0_0, .int .i64 a0_1, .int .i64 a0_2, .int .i64 a0_3, .string a0_4, .string a0_5, .string a0_6, .string a0_7, .string a0_8, .string a0_9, .string a0_10] 23 (0, 0))) := ⟨by rw [hw_]; refine blk_far ?_ NB176_181.out _; refine blk_far ?_ NB176_181.out _; refine blk_far ?_ NB176_181.out _; refine blk_far ?_ NB176_181.out _; refine blk_far ?_ NB176_181.out _; refine blk_far ?_ NB176_181.out _; refine blk_far ?_ NB176_181.out _; refine blk_far ?_ NB176_181.out _; refine blk_far ?_ NB176_181.out _; refine blk_far ?_ NB176_181.out _; refine blk_far ?_ NB176_181.out _; exact BK176.out⟩
       have m1_ : Aside0 (w27b.heap[gb180]? = some (.cells #[.int .i64 a0_0, .int .i64 a0_1, .int .i64 a0_2, .int .i64 a0_3, .string a0_4, .string a0_5, .string a0_6, .string a0_7, .string a0_8, .string a0_9, .string a0_10] 23 (0, 0))) := ⟨by rw [hw_]; refine blk_far ?_ NB180_181.out _; refine blk_far ?_ NB180_181.out _; refine blk_far ?_ NB180_181.out _; refine blk_far ?_ NB180_181.out _; refine blk_far ?_ NB180_181.out _; refine blk_far ?_ NB180_181.out _; refine blk_far ?_ NB180_181.out _; refine blk_far ?_ NB180_181.out _; refine blk_far ?_ NB180_181.out _; refine blk_far ?_ NB180_181.out _; refine blk_far ?_ NB180_181.out _; exact BK180.out⟩
       have m2_ : Aside0 (w27b.heap[gb181]? = some (.cells #[.int .i64 a0_0, .int .i64 a0_1, .int .i64 a0_2, .int .i64 a0_3, .string a0_4, .string a0_5, .string a0_6, .string a0_7, .string a0_8, .string a0_9, .string a0_10] 23 (0, 0))) := ⟨by rw [hw_]; refine blk_put (cs := #[.int .i64 a0_0, .int .i64 a0_1, .int .i64 a0_2, .int .i64 a0_3, .string a0_4, .string a0_5, .string a0_6, .string a0_7, .string a0_8, .string a0_9, .string (⟨#[]⟩ : ByteArray)]) ?_ 10 _ rfl; refine blk_put (cs := #[.int .i64 a0_0, .int .i64 a0_1, .int .i64 a0_2, .int .i64 a0_3, .string a0_4, .string a0_5, .string a0_6, .string a0_7, .string a0_8, .string (⟨#[]⟩ : ByteArray), .string (⟨#[]⟩ : ByteArray)]) ?_ 9 _ rfl; refine blk_put (cs := #[.int .i64 a0_0, .int .i64 a0_1, .int .i64 a0_2, .int .i64 a0_3, .string a0_4, .string a0_5, .string a0_6, .string a0_7, .string (⟨#[]⟩ : ByteArray), .string (⟨#[]⟩ : ByteArray), .string (⟨#[]⟩ : ByteArray)]) ?_ 8 _ rfl; refine blk_put (cs := #[.int .i64 a0_0, .int .i64 a0_1, .int .i64 a0_2, .int .i64 a0_3, .string a0_4, .string a0_5, .string a0_6, .string (⟨#[]⟩ : ByteArray), .string (⟨#[]⟩ : ByteArray), .string (⟨#[]⟩ : ByteArray), .string (⟨#[]⟩ : ByteArray)]) ?_ 7 _ rfl; refine blk_put (cs := #[.int .i64 a0_0, .int .i64 a0_1, .int .i64 a0_2, .int .i64 a0_3, .string a0_4, .string a0_5, .string (⟨#[]⟩ : ByteArray), .string (⟨#[]⟩ : ByteArray), .string (⟨#[]⟩ : ByteArray), .string (⟨#[]⟩ : ByteArray), .string (⟨#[]⟩ : ByteArray)]) ?_ 6 _ rfl; refine blk_put (cs := #[.int .i64 a0_0, .int .i64 a0_1, .int .i64 a0_2, .int .i64 a0_3, .string a0_4, .string (⟨#[]⟩ : ByteArray), .string (⟨#[]⟩ : ByteArray), .string (⟨#[]⟩ : ByteArray), .string (⟨#[]⟩ : ByteArray), .string (⟨#[]⟩ : ByteArray), .string (⟨#[]⟩ : ByteArray)]) ?_ 5 _ rfl; refine blk_put (cs := #[.int .i64 a0_0, .int .i64 a0_1, .int .i64 a0_2, .int .i64 a0_3, .string (⟨#[]⟩ : ByteArray), .string (⟨#[]⟩ : ByteArray), .string (⟨#[]⟩ : ByteArray), .string (⟨#[]⟩ : ByteArray), .string (⟨#[]⟩ : ByteArray), .string (⟨#[]⟩ : ByteArray), .string (⟨#[]⟩ : ByteArray)]) ?_ 4 _ rfl; refine blk_put (cs := #[.int .i64 a0_0, .int .i64 a0_1, .int .i64 a0_2, .int .i64 0, .string (⟨#[]⟩ : ByteArray), .string (⟨#[]⟩ : ByteArray), .string (⟨#[]⟩ : ByteArray), .string (⟨#[]⟩ : ByteArray), .string (⟨#[]⟩ : ByteArray), .string (⟨#[]⟩ : ByteArray), .string (⟨#[]⟩ : ByteArray)]) ?_ 3 _ rfl; refine blk_put (cs := #[.int .i64 a0_0, .int .i64 a0_1, .int .i64 0, .int .i64 0, .string (⟨#[]⟩ : ByteArray), .string (⟨#[]⟩ : ByteArray), .string (⟨#[]⟩ : ByteArray), .string (⟨#[]⟩ : ByteArray), .string (⟨#[]⟩ : ByteArray), .string (⟨#[]⟩ : ByteArray), .string (⟨#[]⟩ : ByteArray)]) ?_ 2 _ rfl; refine blk_put (cs := #[.int .i64 a0_0, .int .i64 0, .int .i64 0, .int .i64 0, .string (⟨#[]⟩ : ByteArray), .string (⟨#[]⟩ : ByteArray), .string (⟨#[]⟩ : ByteArray), .string (⟨#[]⟩ : ByteArray), .string (⟨#[]⟩ : ByteArray), .string (⟨#[]⟩ : ByteArray), .string (⟨#[]⟩ : ByteArray)]) ?_ 1 _ rfl; refine blk_put (cs := #[.int .i64 0, .int .i64 0, .int .i64 0, .int .i64 0, .string (⟨#[]⟩ : ByteArray), .string (⟨#[]⟩ : ByteArray), .string (⟨#[]⟩ : ByteArray), .string (⟨#[]⟩ : ByteArray), .string (⟨#[]⟩ : ByteArray), .string (⟨#[]⟩ : ByteArray), .string (⟨#[]⟩ : ByteArray)]) ?_ 0 _ rfl; exact BK181.out⟩
       have m3_ : Aside0 (Below w.heap.size w w27b) := ⟨by rw [hw_]; refine below_set ?_ GE181.out; refine below_set ?_ GE181.out; refine below_set ?_ GE181.out; refine below_set ?_ GE181.out; refine below_set ?_ GE181.out; refine below_set ?_ GE181.out; refine below_set ?_ GE181.out; refine below_set ?_ GE181.out; refine below_set ?_ GE181.out; refine below_set ?_ GE181.out; refine below_set ?_ GE181.out; exact HB.out⟩
       clear hw_ BK176 BK180 BK181 HB
       have BK176 := m0_
       have BK180 := m1_
       have BK181 := m2_
       have HB := m3_
       clear m0_ m1_ m2_ m3_
       have hnb50 := NB180_176.out
       have hnc50 := NB176_180.out
       have hnb51 := NB180_181.out
       have hnc51 := NB181_180.out
       have hnb53 := NB181_176.out
       have hnc53 := NB176_181.out
       have hcy180_0 : w27b.cell? ⟨gb180, 0, none⟩ = some (.int .i64 a0_0) := (blk_cell BK180.out 0).trans rfl
       have hcy180_1 : w27b.cell? ⟨gb180, 1, none⟩ = some (.int .i64 a0_1) := (blk_cell BK180.out 1).trans rfl
       have hcy180_2 : w27b.cell? ⟨gb180, 2, none⟩ = some (.int .i64 a0_2) := (blk_cell BK180.out 2).trans rfl
       have hcy180_3 : w27b.cell? ⟨gb180, 3, none⟩ = some (.int .i64 a0_3) := (blk_cell BK180.out 3).trans rfl
       have hcy180_4 : w27b.cell? ⟨gb180, 4, none⟩ = some (.string a0_4) := (blk_cell BK180.out 4).trans rfl
       have hcy180_5 : w27b.cell? ⟨gb180, 5, none⟩ = some (.string a0_5) := (blk_cell BK180.out 5).trans rfl
       have hcy180_6 : w27b.cell? ⟨gb180, 6, none⟩ = some (.string a0_6) := (blk_cell BK180.out 6).trans rfl
       have hcy180_7 : w27b.cell? ⟨gb180, 7, none⟩ = some (.string a0_7) := (blk_cell BK180.out 7).trans rfl
       have hcy180_8 : w27b.cell? ⟨gb180, 8, none⟩ = some (.string a0_8) := (blk_cell BK180.out 8).trans rfl
       have hcy180_9 : w27b.cell? ⟨gb180, 9, none⟩ = some (.string a0_9) := (blk_cell BK180.out 9).trans rfl
       have hcy180_10 : w27b.cell? ⟨gb180, 10, none⟩ = some (.string a0_10) := (blk_cell BK180.out 10).trans rfl
       have hcy181_0 : w27b.cell? ⟨gb181, 0, none⟩ = some (.int .i64 a0_0) := (blk_cell BK181.out 0).trans rfl
       have hcy181_1 : w27b.cell? ⟨gb181, 1, none⟩ = some (.int .i64 a0_1) := (blk_cell BK181.out 1).trans rfl
       have hcy181_2 : w27b.cell? ⟨gb181, 2, none⟩ = some (.int .i64 a0_2) := (blk_cell BK181.out 2).trans rfl
       have hcy181_3 : w27b.cell? ⟨gb181, 3, none⟩ = some (.int .i64 a0_3) := (blk_cell BK181.out 3).trans rfl
       have hcy181_4 : w27b.cell? ⟨gb181, 4, none⟩ = some (.string a0_4) := (blk_cell BK181.out 4).trans rfl
       have hcy181_5 : w27b.cell? ⟨gb181, 5, none⟩ = some (.string a0_5) := (blk_cell BK181.out 5).trans rfl
       have hcy181_6 : w27b.cell? ⟨gb181, 6, none⟩ = some (.string a0_6) := (blk_cell BK181.out 6).trans rfl
       have hcy181_7 : w27b.cell? ⟨gb181, 7, none⟩ = some (.string a0_7) := (blk_cell BK181.out 7).trans rfl
       have hcy181_8 : w27b.cell? ⟨gb181, 8, none⟩ = some (.string a0_8) := (blk_cell BK181.out 8).trans rfl
       have hcy181_9 : w27b.cell? ⟨gb181, 9, none⟩ = some (.string a0_9) := (blk_cell BK181.out 9).trans rfl
       have hcy181_10 : w27b.cell? ⟨gb181, 10, none⟩ = some (.string a0_10) := (blk_cell BK181.out 10).trans rfl
       have hfy180_0 := blk_frozen BK180.out 0
       have hfy180_1 := blk_frozen BK180.out 1
       have hfy180_2 := blk_frozen BK180.out 2
       have hfy180_3 := blk_frozen BK180.out 3
       have hfy180_4 := blk_frozen BK180.out 4
       have hfy180_5 := blk_frozen BK180.out 5
       have hfy180_6 := blk_frozen BK180.out 6
       have hfy180_7 := blk_frozen BK180.out 7
       have hfy180_8 := blk_frozen BK180.out 8
       have hfy180_9 := blk_frozen BK180.out 9
       have hfy180_10 := blk_frozen BK180.out 10
       have hfy181_0 := blk_frozen BK181.out 0
       have hfy181_1 := blk_frozen BK181.out 1
       have hfy181_2 := blk_frozen BK181.out 2
       have hfy181_3 := blk_frozen BK181.out 3
       have hfy181_4 := blk_frozen BK181.out 4
       have hfy181_5 := blk_frozen BK181.out 5
       have hfy181_6 := blk_frozen BK181.out 6
       have hfy181_7 := blk_frozen BK181.out 7
       have hfy181_8 := blk_frozen BK181.out 8
       have hfy181_9 := blk_frozen BK181.out 9
       have hfy181_10 := blk_frozen BK181.out 10
       go_upto_region 7 with (fail)
       (try simp only [Act.put, List.setIfInBounds_toArray, List.set_cons_zero, List.set_cons_succ])
       obtain ⟨w27c, hw_⟩ : ∃ W_ : World, W_ = ((w27b.setCell ⟨gb180, 5, none⟩ (.string a1)).setCell ⟨gb181, 5, none⟩ (.string a2)) := ⟨_, rfl⟩
       rw [← hw_]
       have m0_ : Aside0 (w27c.heap[gb176]? = some (.cells #[.int .i64 a0_0, .int .i64 a0_1, .int .i64 a0_2, .int .i64 a0_3, .string a0_4, .string a0_5, .string a0_6, .string a0_7, .string a0_8, .string a0_9, .string a0_10] 23 (0, 0))) := ⟨by rw [hw_]; refine blk_far ?_ NB176_181.out _; refine blk_far ?_ NB176_180.out _; exact BK176.out⟩
       have m1_ : Aside0 (w27c.heap[gb180]? = some (.cells #[.int .i64 a0_0, .int .i64 a0_1, .int .i64 a0_2, .int .i64 a0_3, .string a0_4, .string a1, .string a0_6, .string a0_7, .string a0_8, .string a0_9, .string a0_10] 23 (0, 0))) := ⟨by rw [hw_]; refine blk_far ?_ NB180_181.out _; refine blk_put (cs := #[.int .i64 a0_0, .int .i64 a0_1, .int .i64 a0_2, .int .i64 a0_3, .string a0_4, .string a0_5, .string a0_6, .string a0_7, .string a0_8, .string a0_9, .string a0_10]) ?_ 5 _ rfl; exact BK180.out⟩
       have m2_ : Aside0 (w27c.heap[gb181]? = some (.cells #[.int .i64 a0_0, .int .i64 a0_1, .int .i64 a0_2, .int .i64 a0_3, .string a0_4, .string a2, .string a0_6, .string a0_7, .string a0_8, .string a0_9, .string a0_10] 23 (0, 0))) := ⟨by rw [hw_]; refine blk_put (cs := #[.int .i64 a0_0, .int .i64 a0_1, .int .i64 a0_2, .int .i64 a0_3, .string a0_4, .string a0_5, .string a0_6, .string a0_7, .string a0_8, .string a0_9, .string a0_10]) ?_ 5 _ rfl; refine blk_far ?_ NB181_180.out _; exact BK181.out⟩
       have m3_ : Aside0 (Below w.heap.size w w27c) := ⟨by rw [hw_]; refine below_set ?_ GE181.out; refine below_set ?_ GE180.out; exact HB.out⟩
       clear hw_ BK176 BK180 BK181 HB
       have BK176 := m0_
       have BK180 := m1_
       have BK181 := m2_
       have HB := m3_
       clear m0_ m1_ m2_ m3_
       clear hcy180_0 hfy180_0 hcy180_1 hfy180_1 hcy180_2 hfy180_2 hcy180_3 hfy180_3 hcy180_4 hfy180_4 hcy180_5 hfy180_5 hcy180_6 hfy180_6 hcy180_7 hfy180_7 hcy180_8 hfy180_8 hcy180_9 hfy180_9 hcy180_10 hfy180_10 hcy181_0 hfy181_0 hcy181_1 hfy181_1 hcy181_2 hfy181_2 hcy181_3 hfy181_3 hcy181_4 hfy181_4 hcy181_5 hfy181_5 hcy181_6 hfy181_6 hcy181_7 hfy181_7 hcy181_8 hfy181_8 hcy181_9 hfy181_9 hcy181_10 hfy181_10
       have hcz180_0 : w27c.cell? ⟨gb180, 0, none⟩ = some (.int .i64 a0_0) := (blk_cell BK180.out 0).trans rfl
       have hcz180_1 : w27c.cell? ⟨gb180, 1, none⟩ = some (.int .i64 a0_1) := (blk_cell BK180.out 1).trans rfl
       have hcz180_2 : w27c.cell? ⟨gb180, 2, none⟩ = some (.int .i64 a0_2) := (blk_cell BK180.out 2).trans rfl
       have hcz180_3 : w27c.cell? ⟨gb180, 3, none⟩ = some (.int .i64 a0_3) := (blk_cell BK180.out 3).trans rfl
       have hcz180_4 : w27c.cell? ⟨gb180, 4, none⟩ = some (.string a0_4) := (blk_cell BK180.out 4).trans rfl
       have hcz180_5 : w27c.cell? ⟨gb180, 5, none⟩ = some (.string a1) := (blk_cell BK180.out 5).trans rfl
       have hcz180_6 : w27c.cell? ⟨gb180, 6, none⟩ = some (.string a0_6) := (blk_cell BK180.out 6).trans rfl
       have hcz180_7 : w27c.cell? ⟨gb180, 7, none⟩ = some (.string a0_7) := (blk_cell BK180.out 7).trans rfl
       have hcz180_8 : w27c.cell? ⟨gb180, 8, none⟩ = some (.string a0_8) := (blk_cell BK180.out 8).trans rfl
       have hcz180_9 : w27c.cell? ⟨gb180, 9, none⟩ = some (.string a0_9) := (blk_cell BK180.out 9).trans rfl
       have hcz180_10 : w27c.cell? ⟨gb180, 10, none⟩ = some (.string a0_10) := (blk_cell BK180.out 10).trans rfl
       have hcz181_0 : w27c.cell? ⟨gb181, 0, none⟩ = some (.int .i64 a0_0) := (blk_cell BK181.out 0).trans rfl
       have hcz181_1 : w27c.cell? ⟨gb181, 1, none⟩ = some (.int .i64 a0_1) := (blk_cell BK181.out 1).trans rfl
       have hcz181_2 : w27c.cell? ⟨gb181, 2, none⟩ = some (.int .i64 a0_2) := (blk_cell BK181.out 2).trans rfl
       have hcz181_3 : w27c.cell? ⟨gb181, 3, none⟩ = some (.int .i64 a0_3) := (blk_cell BK181.out 3).trans rfl
       have hcz181_4 : w27c.cell? ⟨gb181, 4, none⟩ = some (.string a0_4) := (blk_cell BK181.out 4).trans rfl
       have hcz181_5 : w27c.cell? ⟨gb181, 5, none⟩ = some (.string a2) := (blk_cell BK181.out 5).trans rfl
       have hcz181_6 : w27c.cell? ⟨gb181, 6, none⟩ = some (.string a0_6) := (blk_cell BK181.out 6).trans rfl
       have hcz181_7 : w27c.cell? ⟨gb181, 7, none⟩ = some (.string a0_7) := (blk_cell BK181.out 7).trans rfl
       have hcz181_8 : w27c.cell? ⟨gb181, 8, none⟩ = some (.string a0_8) := (blk_cell BK181.out 8).trans rfl
       have hcz181_9 : w27c.cell? ⟨gb181, 9, none⟩ = some (.string a0_9) := (blk_cell BK181.out 9).trans rfl
       have hcz181_10 : w27c.cell? ⟨gb181, 10, none⟩ = some (.string a0_10) := (blk_cell BK181.out 10).trans rfl
       have hfz180_0 := blk_frozen BK180.out 0
       have hfz180_1 := blk_frozen BK180.out 1
       have hfz180_2 := blk_frozen BK180.out 2
       have hfz180_3 := blk_frozen BK180.out 3
       have hfz180_4 := blk_frozen BK180.out 4
       have hfz180_5 := blk_frozen BK180.out 5
       have hfz180_6 := blk_frozen BK180.out 6
       have hfz180_7 := blk_frozen BK180.out 7
       have hfz180_8 := blk_frozen BK180.out 8
       have hfz180_9 := blk_frozen BK180.out 9
       have hfz180_10 := blk_frozen BK180.out 10
       have hfz181_0 := blk_frozen BK181.out 0
       have hfz181_1 := blk_frozen BK181.out 1
       have hfz181_2 := blk_frozen BK181.out 2
       have hfz181_3 := blk_frozen BK181.out 3
       have hfz181_4 := blk_frozen BK181.out 4
       have hfz181_5 := blk_frozen BK181.out 5
       have hfz181_6 := blk_frozen BK181.out 6
       have hfz181_7 := blk_frozen BK181.out 7
       have hfz181_8 := blk_frozen BK181.out 8
       have hfz181_9 := blk_frozen BK181.out 9
       have hfz181_10 := blk_frozen BK181.out 10
       go_upto_region 9 with (first | ((with_reducible refine gate_dst (N := 46) rfl ?_); (try (refine gate_guard (by rfl) ?_; dsimp only)); refine Kd.R_lit k23 _ 23 ?hg (N := 46) ?hd (xs := ([(⟨a0_0, a0_1, a0_2, a0_3, a0_4, a1, a0_6, a0_7, a0_8, a0_9, a0_10⟩ : S23)] : List (S23))) (inner := [.int .i64 a0_0, .int .i64 a0_1, .int .i64 a0_2, .int .i64 a0_3, .string a0_4, .string a1, .string a0_6, .string a0_7, .string a0_8, .string a0_9, .string a0_10]) (ok := fun _ => True) (okp := fun _ => True) ?hr ?hp (fun _ hk => hk) trivial (Below.refl _ _) (Nat.le_refl _) (by simp) ?_; (case hd => rfl); (case hg => rfl); (case hr => first | (go_simp; done) | (go_simp; rfl)); (case hp => exact (Reps.front (show Kd.M k23 _ _ _ (⟨a0_0, a0_1, a0_2, a0_3, a0_4, a1, a0_6, a0_7, a0_8, a0_9, a0_10⟩ : S23) [.int .i64 a0_0, .int .i64 a0_1, .int .i64 a0_2, .int .i64 a0_3, .string a0_4, .string a1, .string a0_6, .string a0_7, .string a0_8, .string a0_9, .string a0_10] from (k23_mkM _ _ _ (⟨a0_0, a0_1, a0_2, a0_3, a0_4, a1, a0_6, a0_7, a0_8, a0_9, a0_10⟩ : S23) )) rfl (Reps.none _ _) rfl)); intro v183 w55 ho56 hb hg_ hnew_; clear hg_ hnew_; (first | rw [← Ny182.out] at ho56 | (simp only [Int.reduceToNat] at ho56; rw [← Ny182.out] at ho56)); have n0_ := Aside0.mk (Kd.R_lower (Kd.R_newB (Kd.R_newB (Kd.R_newB ho56 (g := gb176) (o := .cells #[.int .i64 a0_0, .int .i64 a0_1, .int .i64 a0_2, .int .i64 a0_3, .string a0_4, .string a0_5, .string a0_6, .string a0_7, .string a0_8, .string a0_9, .string a0_10] 23 (0, 0)) (by refine bY ?_; exact BK176.out)) (g := gb180) (o := .cells #[.int .i64 a0_0, .int .i64 a0_1, .int .i64 a0_2, .int .i64 a0_3, .string a0_4, .string a1, .string a0_6, .string a0_7, .string a0_8, .string a0_9, .string a0_10] 23 (0, 0)) (by refine bY ?_; exact BK180.out)) (g := gb181) (o := .cells #[.int .i64 a0_0, .int .i64 a0_1, .int .i64 a0_2, .int .i64 a0_3, .string a0_4, .string a2, .string a0_6, .string a0_7, .string a0_8, .string a0_9, .string a0_10] 23 (0, 0)) (by refine bY ?_; exact BK181.out)) (below_size belS)); have n1_ := Aside0.mk (blk_below (g := gb176) (o := .cells #[.int .i64 a0_0, .int .i64 a0_1, .int .i64 a0_2, .int .i64 a0_3, .string a0_4, .string a0_5, .string a0_6, .string a0_7, .string a0_8, .string a0_9, .string a0_10] 23 (0, 0)) (by refine bY ?_; exact BK176.out) hb); have n2_ := Aside0.mk (blk_below (g := gb180) (o := .cells #[.int .i64 a0_0, .int .i64 a0_1, .int .i64 a0_2, .int .i64 a0_3, .string a0_4, .string a1, .string a0_6, .string a0_7, .string a0_8, .string a0_9, .string a0_10] 23 (0, 0)) (by refine bY ?_; exact BK180.out) hb); have n3_ := Aside0.mk (blk_below (g := gb181) (o := .cells #[.int .i64 a0_0, .int .i64 a0_1, .int .i64 a0_2, .int .i64 a0_3, .string a0_4, .string a2, .string a0_6, .string a0_7, .string a0_8, .string a0_9, .string a0_10] 23 (0, 0)) (by refine bY ?_; exact BK181.out) hb); have n4_ := Aside0.mk (below_step belS hb); clear BK176; clear BK180; clear BK181; clear HB; have HO184 := n0_; have BK176 := n1_; have BK180 := n2_; have BK181 := n3_; have HB := n4_; clear n0_ n1_ n2_ n3_ n4_; clear hb ho56; obtain ⟨Ao57, co57, eo57⟩ := Kd.R_slice HO184.out; subst eo57) | ((with_reducible refine gate_callee (f := 8) rfl ?_); refine goesL_ (some 47) rfl rfl Tryd.func8 (by kernel_rfl) rfl #[.slice Ao57 y182.length co57] rfl (by (try simp only [List.map_toArray, List.map_cons, List.map_nil]); first | done | rfl | (simp only [List.length_drop, List.length_take]; rfl)) ?_; (with_reducible refine (laws_printed.calls kj15 _ _ y182 t185 t186 _ ?side1 ?side2 A21.out).mono ?_); (case side1 => repeat (first | exact (Kd.R_reads' HO184.out).2.2 | (with_reducible refine Kd.C_alloc ?_ _) | (with_reducible refine Kd.C_drewN ?_ _) | (with_reducible refine Kd.C_drew ?_))); (case side2 => exact (Kd.R_reads' HO184.out).2.1); rintro e w58 ⟨rfl, hb⟩; refine ⟨_, rfl, ?_⟩; have n0_ := Aside0.mk (Kd.R_below (by (with_reducible repeat (first | apply Kd.R_alloc | apply Kd.R_drewN | apply Kd.R_drew)); exact HO184.out) hb); have n1_ := Aside0.mk (blk_below (g := gb176) (o := .cells #[.int .i64 a0_0, .int .i64 a0_1, .int .i64 a0_2, .int .i64 a0_3, .string a0_4, .string a0_5, .string a0_6, .string a0_7, .string a0_8, .string a0_9, .string a0_10] 23 (0, 0)) (by refine bY ?_; exact BK176.out) hb); have n2_ := Aside0.mk (blk_below (g := gb180) (o := .cells #[.int .i64 a0_0, .int .i64 a0_1, .int .i64 a0_2, .int .i64 a0_3, .string a0_4, .string a1, .string a0_6, .string a0_7, .string a0_8, .string a0_9, .string a0_10] 23 (0, 0)) (by refine bY ?_; exact BK180.out) hb); have n3_ := Aside0.mk (blk_below (g := gb181) (o := .cells #[.int .i64 a0_0, .int .i64 a0_1, .int .i64 a0_2, .int .i64 a0_3, .string a0_4, .string a2, .string a0_6, .string a0_7, .string a0_8, .string a0_9, .string a0_10] 23 (0, 0)) (by refine bY ?_; exact BK181.out) hb); have n4_ := Aside0.mk (below_step belS hb); clear HO184; clear BK176; clear BK180; clear BK181; clear HB; have HO184 := n0_; have BK176 := n1_; have BK180 := n2_; have BK181 := n3_; have HB := n4_; clear n0_ n1_ n2_ n3_ n4_; (try clear hb); (try clear hb2); (try clear hk); (try clear hi); obtain ⟨hcz59_0, hcz59_1, hcz59_2, hcz59_3, hcz59_4, hcz59_5, hcz59_6, hcz59_7, hcz59_8, hcz59_9, hcz59_10, hfz59_0, hfz59_1, hfz59_2, hfz59_3, hfz59_4, hfz59_5, hfz59_6, hfz59_7, hfz59_8, hfz59_9, hfz59_10⟩ := rows11 (w := w58) BK181) | ((with_reducible refine gate_dst (N := 52) rfl ?_); (try (refine gate_guard (by rfl) ?_; dsimp only)); refine Kd.R_lit k23 _ 23 ?hg (N := 52) ?hd (xs := ([(⟨a0_0, a0_1, a0_2, a0_3, a0_4, a2, a0_6, a0_7, a0_8, a0_9, a0_10⟩ : S23)] : List (S23))) (inner := [.int .i64 a0_0, .int .i64 a0_1, .int .i64 a0_2, .int .i64 a0_3, .string a0_4, .string a2, .string a0_6, .string a0_7, .string a0_8, .string a0_9, .string a0_10]) (ok := fun _ => True) (okp := fun _ => True) ?hr ?hp (fun _ hk => hk) trivial (Below.refl _ _) (Nat.le_refl _) (by simp) ?_; (case hd => rfl); (case hg => rfl); (case hr => first | (go_simp; done) | (go_simp; rfl)); (case hp => exact (Reps.front (show Kd.M k23 _ _ _ (⟨a0_0, a0_1, a0_2, a0_3, a0_4, a2, a0_6, a0_7, a0_8, a0_9, a0_10⟩ : S23) [.int .i64 a0_0, .int .i64 a0_1, .int .i64 a0_2, .int .i64 a0_3, .string a0_4, .string a2, .string a0_6, .string a0_7, .string a0_8, .string a0_9, .string a0_10] from (k23_mkM _ _ _ (⟨a0_0, a0_1, a0_2, a0_3, a0_4, a2, a0_6, a0_7, a0_8, a0_9, a0_10⟩ : S23) )) rfl (Reps.none _ _) rfl)); intro v188 w60 ho61 hb hg_ hnew_; clear hg_ hnew_; (first | rw [← Ny187.out] at ho61 | (simp only [Int.reduceToNat] at ho61; rw [← Ny187.out] at ho61)); have n0_ := Aside0.mk (Kd.R_elder' (by (with_reducible repeat (first | apply Kd.R_alloc | apply Kd.R_drewN | apply Kd.R_drew)); exact HO184.out) (Kd.R_base ho61) hb); have n1_ := Aside0.mk (Kd.R_lower (Kd.R_newB (Kd.R_newB (Kd.R_newB (Kd.R_new' ho61 (Kd.R_lt (by (with_reducible repeat (first | apply Kd.R_alloc | apply Kd.R_drewN | apply Kd.R_drew)); exact HO184.out))) (g := gb176) (o := .cells #[.int .i64 a0_0, .int .i64 a0_1, .int .i64 a0_2, .int .i64 a0_3, .string a0_4, .string a0_5, .string a0_6, .string a0_7, .string a0_8, .string a0_9, .string a0_10] 23 (0, 0)) (by refine bY ?_; exact BK176.out)) (g := gb180) (o := .cells #[.int .i64 a0_0, .int .i64 a0_1, .int .i64 a0_2, .int .i64 a0_3, .string a0_4, .string a1, .string a0_6, .string a0_7, .string a0_8, .string a0_9, .string a0_10] 23 (0, 0)) (by refine bY ?_; exact BK180.out)) (g := gb181) (o := .cells #[.int .i64 a0_0, .int .i64 a0_1, .int .i64 a0_2, .int .i64 a0_3, .string a0_4, .string a2, .string a0_6, .string a0_7, .string a0_8, .string a0_9, .string a0_10] 23 (0, 0)) (by refine bY ?_; exact BK181.out)) (below_size belS)); have n2_ := Aside0.mk (blk_below (g := gb176) (o := .cells #[.int .i64 a0_0, .int .i64 a0_1, .int .i64 a0_2, .int .i64 a0_3, .string a0_4, .string a0_5, .string a0_6, .string a0_7, .string a0_8, .string a0_9, .string a0_10] 23 (0, 0)) (by refine bY ?_; exact BK176.out) hb); have n3_ := Aside0.mk (blk_below (g := gb180) (o := .cells #[.int .i64 a0_0, .int .i64 a0_1, .int .i64 a0_2, .int .i64 a0_3, .string a0_4, .string a1, .string a0_6, .string a0_7, .string a0_8, .string a0_9, .string a0_10] 23 (0, 0)) (by refine bY ?_; exact BK180.out) hb); have n4_ := Aside0.mk (blk_below (g := gb181) (o := .cells #[.int .i64 a0_0, .int .i64 a0_1, .int .i64 a0_2, .int .i64 a0_3, .string a0_4, .string a2, .string a0_6, .string a0_7, .string a0_8, .string a0_9, .string a0_10] 23 (0, 0)) (by refine bY ?_; exact BK181.out) hb); have n5_ := Aside0.mk (below_step belS hb); clear HO184; clear BK176; clear BK180; clear BK181; clear HB; have HO184 := n0_; have HO189 := n1_; have BK176 := n2_; have BK180 := n3_; have BK181 := n4_; have HB := n5_; clear n0_ n1_ n2_ n3_ n4_ n5_; clear hb ho61; obtain ⟨Ao62, co62, eo62⟩ := Kd.R_slice HO189.out; subst eo62) | ((with_reducible refine gate_callee (f := 8) rfl ?_); refine goesL_ (some 53) rfl rfl Tryd.func8 (by kernel_rfl) rfl #[.slice Ao62 y187.length co62] rfl (by (try simp only [List.map_toArray, List.map_cons, List.map_nil]); first | done | rfl | (simp only [List.length_drop, List.length_take]; rfl)) ?_; (with_reducible refine (laws_printed.calls kj15 _ _ y187 t190 t191 _ ?side1 ?side2 A22.out).mono ?_); (case side1 => repeat (first | exact (Kd.R_reads' HO189.out).2.2 | (with_reducible refine Kd.C_alloc ?_ _) | (with_reducible refine Kd.C_drewN ?_ _) | (with_reducible refine Kd.C_drew ?_))); (case side2 => exact (Kd.R_reads' HO189.out).2.1); rintro e w63 ⟨rfl, hb⟩; refine ⟨_, rfl, ?_⟩; have n0_ := Aside0.mk (Kd.R_below (by (with_reducible repeat (first | apply Kd.R_alloc | apply Kd.R_drewN | apply Kd.R_drew)); exact HO184.out) hb); have n1_ := Aside0.mk (Kd.R_below (by (with_reducible repeat (first | apply Kd.R_alloc | apply Kd.R_drewN | apply Kd.R_drew)); exact HO189.out) hb); have n2_ := Aside0.mk (blk_below (g := gb176) (o := .cells #[.int .i64 a0_0, .int .i64 a0_1, .int .i64 a0_2, .int .i64 a0_3, .string a0_4, .string a0_5, .string a0_6, .string a0_7, .string a0_8, .string a0_9, .string a0_10] 23 (0, 0)) (by refine bY ?_; exact BK176.out) hb); have n3_ := Aside0.mk (blk_below (g := gb180) (o := .cells #[.int .i64 a0_0, .int .i64 a0_1, .int .i64 a0_2, .int .i64 a0_3, .string a0_4, .string a1, .string a0_6, .string a0_7, .string a0_8, .string a0_9, .string a0_10] 23 (0, 0)) (by refine bY ?_; exact BK180.out) hb); have n4_ := Aside0.mk (blk_below (g := gb181) (o := .cells #[.int .i64 a0_0, .int .i64 a0_1, .int .i64 a0_2, .int .i64 a0_3, .string a0_4, .string a2, .string a0_6, .string a0_7, .string a0_8, .string a0_9, .string a0_10] 23 (0, 0)) (by refine bY ?_; exact BK181.out) hb); have n5_ := Aside0.mk (below_step belS hb); clear HO184; clear HO189; clear BK176; clear BK180; clear BK181; clear HB; have HO184 := n0_; have HO189 := n1_; have BK176 := n2_; have BK180 := n3_; have BK181 := n4_; have HB := n5_; clear n0_ n1_ n2_ n3_ n4_ n5_; (try clear hb); (try clear hb2); (try clear hk); (try clear hi)))
       (try simp only [Act.put, List.setIfInBounds_toArray, List.set_cons_zero, List.set_cons_succ])
       go_cut [61] (fun v61 wc => ∃ (kq : Nat) (x61_22 : Bool), v61 = .bool x61_22 ∧ Aside0 (laws_FnMountsBoth.j2 kq a1 a2 t185 t190 x61_22 = some r) ∧ Aside0 (kq ≤ kj15) ∧ Aside0 (wc.heap[gb176]? = some (.cells #[.int .i64 a0_0, .int .i64 a0_1, .int .i64 a0_2, .int .i64 a0_3, .string a0_4, .string a0_5, .string a0_6, .string a0_7, .string a0_8, .string a0_9, .string a0_10] 23 (0, 0))) ∧ Aside0 (wc.heap[gb180]? = some (.cells #[.int .i64 a0_0, .int .i64 a0_1, .int .i64 a0_2, .int .i64 a0_3, .string a0_4, .string a1, .string a0_6, .string a0_7, .string a0_8, .string a0_9, .string a0_10] 23 (0, 0))) ∧ Aside0 (wc.heap[gb181]? = some (.cells #[.int .i64 a0_0, .int .i64 a0_1, .int .i64 a0_2, .int .i64 a0_3, .string a0_4, .string a2, .string a0_6, .string a0_7, .string a0_8, .string a0_9, .string a0_10] 23 (0, 0))) ∧ Aside0 (Below w.heap.size w wc))
       case first =>
        have H := HC23.out
        clear HC23
        by_cases c64 : t186 = true
        ·subst c64
         have H1 : (laws_FnMountsBoth.j2 kj15 a1 a2 t185 t190 (!t191)) = some r := by rw [if_pos rfl] at H; exact H
         clear H
         have H := H1
         clear H1
         have H' := Aside0.mk H
         clear H
         go_wp2
         go_meet
         case rel => exact ⟨_, (!t191), (by first | rfl | (simp; done) | (simp [*]; done) | (simp [bne_nil]; done) | (simp [bne_nil, *]; done)), H', ⟨by have := HJ3.out; have := HJ15.out; first | omega | exact Nat.le_refl _⟩, ⟨by refine bY ?_; exact BK176.out⟩, ⟨by refine bY ?_; exact BK180.out⟩, ⟨by refine bY ?_; exact BK181.out⟩, ⟨by repeat (first | (with_reducible first | exact HB.out | apply below_alloc | apply pw_below_drewN | apply below_drew1 | refine below_set ?_ GE176.out | refine below_set ?_ GE180.out | refine below_set ?_ GE181.out) | exact HB.out)⟩⟩
        ·replace c64 := Bool.eq_false_iff.mpr c64
         subst c64
         have H1 : (laws_FnMountsBoth.j2 kj15 a1 a2 t185 t190 true) = some r := by rw [if_neg (show ¬ (false = true) by decide)] at H; exact H
         clear H
         have H := H1
         clear H1
         have H' := Aside0.mk H
         clear H
         go_wp2
         go_meet
         case rel => exact ⟨_, (true), (by first | rfl | (simp; done) | (simp [*]; done) | (simp [bne_nil]; done) | (simp [bne_nil, *]; done)), H', ⟨by have := HJ3.out; have := HJ15.out; first | omega | exact Nat.le_refl _⟩, ⟨by refine bY ?_; exact BK176.out⟩, ⟨by refine bY ?_; exact BK180.out⟩, ⟨by refine bY ?_; exact BK181.out⟩, ⟨by repeat (first | (with_reducible first | exact HB.out | apply below_alloc | apply pw_below_drewN | apply below_drew1 | refine below_set ?_ GE176.out | refine below_set ?_ GE180.out | refine below_set ?_ GE181.out) | exact HB.out)⟩⟩
       case rest =>
        clear HC23
        try clear c1
        try clear c2
        try clear p2
        try clear c3
        try clear c5
        try clear c6
        try clear c7
        try clear c8
        try clear c8b0
        try clear c8b1
        try clear c15
        try clear c18
        try clear c20
        try clear c50
        try clear c51
        try clear c53
        try clear c64
        try clear hcz11_0
        try clear hcz11_1
        try clear hcz11_10
        try clear hcz11_2
        try clear hcz11_3
        try clear hcz11_4
        try clear hcz11_5
        try clear hcz11_6
        try clear hcz11_7
        try clear hcz11_8
        try clear hcz11_9
        try clear hcz13_0
        try clear hcz13_1
        try clear hcz13_10
        try clear hcz13_2
        try clear hcz13_3
        try clear hcz13_4
        try clear hcz13_5
        try clear hcz13_6
        try clear hcz13_7
        try clear hcz13_8
        try clear hcz13_9
        try clear hcz52_0
        try clear hcz52_1
        try clear hcz52_10
        try clear hcz52_2
        try clear hcz52_3
        try clear hcz52_4
        try clear hcz52_5
        try clear hcz52_6
        try clear hcz52_7
        try clear hcz52_8
        try clear hcz52_9
        try clear hcz54_0
        try clear hcz54_1
        try clear hcz54_10
        try clear hcz54_2
        try clear hcz54_3
        try clear hcz54_4
        try clear hcz54_5
        try clear hcz54_6
        try clear hcz54_7
        try clear hcz54_8
        try clear hcz54_9
        try clear hcz59_0
        try clear hcz59_1
        try clear hcz59_10
        try clear hcz59_2
        try clear hcz59_3
        try clear hcz59_4
        try clear hcz59_5
        try clear hcz59_6
        try clear hcz59_7
        try clear hcz59_8
        try clear hcz59_9
        try clear hcz9_0
        try clear hcz9_1
        try clear hcz9_10
        try clear hcz9_2
        try clear hcz9_3
        try clear hcz9_4
        try clear hcz9_5
        try clear hcz9_6
        try clear hcz9_7
        try clear hcz9_8
        try clear hcz9_9
        try clear hfz11_0
        try clear hfz11_1
        try clear hfz11_10
        try clear hfz11_2
        try clear hfz11_3
        try clear hfz11_4
        try clear hfz11_5
        try clear hfz11_6
        try clear hfz11_7
        try clear hfz11_8
        try clear hfz11_9
        try clear hfz13_0
        try clear hfz13_1
        try clear hfz13_10
        try clear hfz13_2
        try clear hfz13_3
        try clear hfz13_4
        try clear hfz13_5
        try clear hfz13_6
        try clear hfz13_7
        try clear hfz13_8
        try clear hfz13_9
        try clear hfz52_0
        try clear hfz52_1
        try clear hfz52_10
        try clear hfz52_2
        try clear hfz52_3
        try clear hfz52_4
        try clear hfz52_5
        try clear hfz52_6
        try clear hfz52_7
        try clear hfz52_8
        try clear hfz52_9
        try clear hfz54_0
        try clear hfz54_1
        try clear hfz54_10
        try clear hfz54_2
        try clear hfz54_3
        try clear hfz54_4
        try clear hfz54_5
        try clear hfz54_6
        try clear hfz54_7
        try clear hfz54_8
        try clear hfz54_9
        try clear hfz59_0
        try clear hfz59_1
        try clear hfz59_10
        try clear hfz59_2
        try clear hfz59_3
        try clear hfz59_4
        try clear hfz59_5
        try clear hfz59_6
        try clear hfz59_7
        try clear hfz59_8
        try clear hfz59_9
        try clear hfz9_0
        try clear hfz9_1
        try clear hfz9_10
        try clear hfz9_2
        try clear hfz9_3
        try clear hfz9_4
        try clear hfz9_5
        try clear hfz9_6
        try clear hfz9_7
        try clear hfz9_8
        try clear hfz9_9
        try clear p2
        obtain ⟨kq, x61_22, rfl, HA, HJ22, BK176, BK180, BK181, HB⟩ := hcut
        cases kq with
        | zero => exact absurd HA.out (by simp [laws_FnMountsBoth.j2])
        | succ kj22 =>
         have H := HA.out
         clear HA
         simp only [laws_FnMountsBoth.j2] at H
         by_cases c65 : x61_22 = true
         ·subst c65
          have H1 : (some true) = some r := by rw [if_pos rfl] at H; exact H
          clear H
          have H := H1
          clear H1
          obtain rfl := Option.some.inj H
          go_wp2
          go_ret
          exact ⟨by first | rfl | (simp [errW_none, errW_some] <;> rfl) | (simp [*, errW_none, errW_some] <;> rfl), by repeat (first | (with_reducible first | exact HB.out | apply below_alloc | apply pw_below_drewN | apply below_drew1 | refine below_set ?_ GE176.out | refine below_set ?_ GE180.out | refine below_set ?_ GE181.out) | exact HB.out)⟩
         ·replace c65 := Bool.eq_false_iff.mpr c65
          subst c65
          have H1 : ((impl_Mounts.f t185 3 (([a2] : List ByteArray))).bind fun bt195 => ((impl_Mounts.f t190 2 (([a1] : List ByteArray))).bind fun bt202 => (if bt195.2 = 0 then (if bt202.2 = 0 then (if (bt195.1.length : Int) = (bt202.1.length : Int) then ((laws_mounts.f).bind fun t206 => (some t206)) else (some false)) else (some false)) else (some false)))) = some r := by rw [if_neg (show ¬ (false = true) by decide)] at H; exact H
          clear H
          have H := H1
          clear H1
          obtain ⟨y192, hy192⟩ : ∃ y_ : List ByteArray, y_ = (([a2] : List ByteArray)) := ⟨_, rfl⟩
          replace H : ((impl_Mounts.f t185 3 y192).bind fun bt195 => ((impl_Mounts.f t190 2 (([a1] : List ByteArray))).bind fun bt202 => (if bt195.2 = 0 then (if bt202.2 = 0 then (if (bt195.1.length : Int) = (bt202.1.length : Int) then ((laws_mounts.f).bind fun t206 => (some t206)) else (some false)) else (some false)) else (some false)))) = some r := by first | (rw [hy192]; with_reducible exact H) | (have H2_ := (Option.bind_some _ _).symm.trans H; rw [hy192]; with_reducible exact H2_) | (have H2_ := (Option.bind_some _ _).symm.trans H; with_reducible exact H2_) | with_reducible exact H | (rw [hy192]; exact H) | exact H
          have Ny192 := Aside0.mk hy192
          clear hy192
          replace H := Option.bind_eq_some_iff.mp H
          obtain ⟨⟨t195, t198⟩, A660, H⟩ := H
          have A66 := Aside0.mk A660
          clear A660
          obtain ⟨y199, hy199⟩ : ∃ y_ : List ByteArray, y_ = (([a1] : List ByteArray)) := ⟨_, rfl⟩
          replace H : ((impl_Mounts.f t190 2 y199).bind fun bt202 => (if t198 = 0 then (if bt202.2 = 0 then (if (t195.length : Int) = (bt202.1.length : Int) then ((laws_mounts.f).bind fun t206 => (some t206)) else (some false)) else (some false)) else (some false))) = some r := by first | (rw [hy199]; with_reducible exact H) | (have H2_ := (Option.bind_some _ _).symm.trans H; rw [hy199]; with_reducible exact H2_) | (have H2_ := (Option.bind_some _ _).symm.trans H; with_reducible exact H2_) | with_reducible exact H | (rw [hy199]; exact H) | exact H
          have Ny199 := Aside0.mk hy199
          clear hy199
          replace H := Option.bind_eq_some_iff.mp H
          obtain ⟨⟨t202, t205⟩, A670, H⟩ := H
          have A67 := Aside0.mk A670
          clear A670
          by_cases c68 : t198 = 0
          ·rw [if_pos c68] at H
           have c68b0 : (t198 == 0) = true := beq_iff_eq.mpr c68
           have c68b1 : (t198 != 0) = false := bne_eq_false_iff_eq.mpr c68
           clear c68
           by_cases c69 : t205 = 0
           ·rw [if_pos c69] at H
            have c69b0 : (t205 == 0) = true := beq_iff_eq.mpr c69
            have c69b1 : (t205 != 0) = false := bne_eq_false_iff_eq.mpr c69
            clear c69
            by_cases c70 : (t195.length : Int) = (t202.length : Int)
            ·rw [if_pos c70] at H
             have c70b0 : ((t195.length : Int) == (t202.length : Int)) = true := beq_iff_eq.mpr c70
             have c70b1 : ((t195.length : Int) != (t202.length : Int)) = false := bne_eq_false_iff_eq.mpr c70
             have c70b2 : (t195.length == t202.length) = true := by first | simpa using c70 | (simp at c70 ⊢; omega)
             clear c70
             replace H := Option.bind_eq_some_iff.mp H
             obtain ⟨t206, A710, H⟩ := H
             have A71 := Aside0.mk A710
             clear A710
             obtain rfl := Option.some.inj H
             go_wp2_with (first | ((with_reducible refine gate_dst (N := 65) rfl ?_); (try (refine gate_guard (by rfl) ?_; dsimp only)); refine Kd.R_lit Kd.string _ 9 ?hg (N := 65) ?hd (xs := ([a2] : List ByteArray)) (inner := [.string a2]) (ok := fun _ => True) (okp := fun _ => True) ?hr ?hp (fun _ hk => hk) trivial (Below.refl _ _) (Nat.le_refl _) (by simp) ?_; (case hd => rfl); (case hg => rfl); (case hr => first | (go_simp; done) | (go_simp; rfl)); (case hp => exact (Reps.one (show Kd.M Kd.string _ _ _ a2 [.string a2] from rfl) (Reps.none _ _))); intro v193 w72 ho73 hb hg_ hnew_; clear hg_ hnew_; (first | rw [← Ny192.out] at ho73 | (simp only [Int.reduceToNat] at ho73; rw [← Ny192.out] at ho73)); have n0_ := Aside0.mk (Kd.R_lower ho73 (below_size belS)); have n1_ := Aside0.mk (blk_below (g := gb176) (o := .cells #[.int .i64 a0_0, .int .i64 a0_1, .int .i64 a0_2, .int .i64 a0_3, .string a0_4, .string a0_5, .string a0_6, .string a0_7, .string a0_8, .string a0_9, .string a0_10] 23 (0, 0)) (by refine bY ?_; exact BK176.out) hb); have n2_ := Aside0.mk (blk_below (g := gb180) (o := .cells #[.int .i64 a0_0, .int .i64 a0_1, .int .i64 a0_2, .int .i64 a0_3, .string a0_4, .string a1, .string a0_6, .string a0_7, .string a0_8, .string a0_9, .string a0_10] 23 (0, 0)) (by refine bY ?_; exact BK180.out) hb); have n3_ := Aside0.mk (blk_below (g := gb181) (o := .cells #[.int .i64 a0_0, .int .i64 a0_1, .int .i64 a0_2, .int .i64 a0_3, .string a0_4, .string a2, .string a0_6, .string a0_7, .string a0_8, .string a0_9, .string a0_10] 23 (0, 0)) (by refine bY ?_; exact BK181.out) hb); have n4_ := Aside0.mk (below_step belS hb); clear BK176; clear BK180; clear BK181; clear HB; have HO194 := n0_; have BK176 := n1_; have BK180 := n2_; have BK181 := n3_; have HB := n4_; clear n0_ n1_ n2_ n3_ n4_; clear hb ho73; obtain ⟨Ao74, co74, eo74⟩ := Kd.R_slice HO194.out; subst eo74) | ((with_reducible refine gate_callee (f := 9) rfl ?_); refine goesL_ (some 67) rfl rfl Tryd.func9 (by kernel_rfl) rfl #[.string t185, .agg #[.int .i64 3, .slice Ao74 y192.length co74]] rfl (by (try simp only [List.map_toArray, List.map_cons, List.map_nil]); first | done | rfl | (simp only [List.length_drop, List.length_take]; rfl)) ?_; (with_reducible refine (impl_Mounts.calls t185 3 _ _ y192 t195 t198 _ ?side1 ?side2 A66.out).mono ?_); (case side1 => repeat (first | exact (Kd.R_reads' HO194.out).2.2 | (with_reducible refine Kd.C_alloc ?_ _) | (with_reducible refine Kd.C_drewN ?_ _) | (with_reducible refine Kd.C_drew ?_))); (case side2 => exact (Kd.R_reads' HO194.out).2.1); rintro e w75 ⟨v196, rfl, ho0, hb⟩; refine ⟨_, rfl, ?_⟩; have n0_ := Aside0.mk (Kd.R_below (by (with_reducible repeat (first | apply Kd.R_alloc | apply Kd.R_drewN | apply Kd.R_drew)); exact HO194.out) hb); have n1_ := Aside0.mk (Kd.R_lower (Kd.R_newB (Kd.R_newB (Kd.R_newB ho0 (g := gb176) (o := .cells #[.int .i64 a0_0, .int .i64 a0_1, .int .i64 a0_2, .int .i64 a0_3, .string a0_4, .string a0_5, .string a0_6, .string a0_7, .string a0_8, .string a0_9, .string a0_10] 23 (0, 0)) (by refine bY ?_; exact BK176.out)) (g := gb180) (o := .cells #[.int .i64 a0_0, .int .i64 a0_1, .int .i64 a0_2, .int .i64 a0_3, .string a0_4, .string a1, .string a0_6, .string a0_7, .string a0_8, .string a0_9, .string a0_10] 23 (0, 0)) (by refine bY ?_; exact BK180.out)) (g := gb181) (o := .cells #[.int .i64 a0_0, .int .i64 a0_1, .int .i64 a0_2, .int .i64 a0_3, .string a0_4, .string a2, .string a0_6, .string a0_7, .string a0_8, .string a0_9, .string a0_10] 23 (0, 0)) (by refine bY ?_; exact BK181.out)) (below_size belS)); have n2_ := Aside0.mk (blk_below (g := gb176) (o := .cells #[.int .i64 a0_0, .int .i64 a0_1, .int .i64 a0_2, .int .i64 a0_3, .string a0_4, .string a0_5, .string a0_6, .string a0_7, .string a0_8, .string a0_9, .string a0_10] 23 (0, 0)) (by refine bY ?_; exact BK176.out) hb); have n3_ := Aside0.mk (blk_below (g := gb180) (o := .cells #[.int .i64 a0_0, .int .i64 a0_1, .int .i64 a0_2, .int .i64 a0_3, .string a0_4, .string a1, .string a0_6, .string a0_7, .string a0_8, .string a0_9, .string a0_10] 23 (0, 0)) (by refine bY ?_; exact BK180.out) hb); have n4_ := Aside0.mk (blk_below (g := gb181) (o := .cells #[.int .i64 a0_0, .int .i64 a0_1, .int .i64 a0_2, .int .i64 a0_3, .string a0_4, .string a2, .string a0_6, .string a0_7, .string a0_8, .string a0_9, .string a0_10] 23 (0, 0)) (by refine bY ?_; exact BK181.out) hb); have n5_ := Aside0.mk (below_step belS hb); clear HO194; clear BK176; clear BK180; clear BK181; clear HB; have HO194 := n0_; have HO197 := n1_; have BK176 := n2_; have BK180 := n3_; have BK181 := n4_; have HB := n5_; clear n0_ n1_ n2_ n3_ n4_ n5_; (try clear hb); (try clear hb2); (try clear hk); (try clear hi); (try clear ho0)) | ((with_reducible refine gate_dst (N := 73) rfl ?_); (try (refine gate_guard (by rfl) ?_; dsimp only)); refine Kd.R_lit Kd.string _ 9 ?hg (N := 73) ?hd (xs := ([a1] : List ByteArray)) (inner := [.string a1]) (ok := fun _ => True) (okp := fun _ => True) ?hr ?hp (fun _ hk => hk) trivial (Below.refl _ _) (Nat.le_refl _) (by simp) ?_; (case hd => rfl); (case hg => rfl); (case hr => first | (go_simp; done) | (go_simp; rfl)); (case hp => exact (Reps.one (show Kd.M Kd.string _ _ _ a1 [.string a1] from rfl) (Reps.none _ _))); intro v200 w76 ho77 hb hg_ hnew_; clear hg_ hnew_; (first | rw [← Ny199.out] at ho77 | (simp only [Int.reduceToNat] at ho77; rw [← Ny199.out] at ho77)); have n0_ := Aside0.mk (Kd.R_elder' (by (with_reducible repeat (first | apply Kd.R_alloc | apply Kd.R_drewN | apply Kd.R_drew)); exact HO194.out) (Kd.R_base ho77) hb); have n1_ := Aside0.mk (Kd.R_below (by (with_reducible repeat (first | apply Kd.R_alloc | apply Kd.R_drewN | apply Kd.R_drew)); exact HO197.out) hb); have n2_ := Aside0.mk (Kd.R_lower (Kd.R_new' ho77 (Kd.R_lt (by (with_reducible repeat (first | apply Kd.R_alloc | apply Kd.R_drewN | apply Kd.R_drew)); exact HO194.out))) (below_size belS)); have n3_ := Aside0.mk (blk_below (g := gb176) (o := .cells #[.int .i64 a0_0, .int .i64 a0_1, .int .i64 a0_2, .int .i64 a0_3, .string a0_4, .string a0_5, .string a0_6, .string a0_7, .string a0_8, .string a0_9, .string a0_10] 23 (0, 0)) (by refine bY ?_; exact BK176.out) hb); have n4_ := Aside0.mk (blk_below (g := gb180) (o := .cells #[.int .i64 a0_0, .int .i64 a0_1, .int .i64 a0_2, .int .i64 a0_3, .string a0_4, .string a1, .string a0_6, .string a0_7, .string a0_8, .string a0_9, .string a0_10] 23 (0, 0)) (by refine bY ?_; exact BK180.out) hb); have n5_ := Aside0.mk (blk_below (g := gb181) (o := .cells #[.int .i64 a0_0, .int .i64 a0_1, .int .i64 a0_2, .int .i64 a0_3, .string a0_4, .string a2, .string a0_6, .string a0_7, .string a0_8, .string a0_9, .string a0_10] 23 (0, 0)) (by refine bY ?_; exact BK181.out) hb); have n6_ := Aside0.mk (below_step belS hb); clear HO194; clear HO197; clear BK176; clear BK180; clear BK181; clear HB; have HO194 := n0_; have HO197 := n1_; have HO201 := n2_; have BK176 := n3_; have BK180 := n4_; have BK181 := n5_; have HB := n6_; clear n0_ n1_ n2_ n3_ n4_ n5_ n6_; clear hb ho77; obtain ⟨Ao78, co78, eo78⟩ := Kd.R_slice HO201.out; subst eo78) | ((with_reducible refine gate_callee (f := 9) rfl ?_); refine goesL_ (some 75) rfl rfl Tryd.func9 (by kernel_rfl) rfl #[.string t190, .agg #[.int .i64 2, .slice Ao78 y199.length co78]] rfl (by (try simp only [List.map_toArray, List.map_cons, List.map_nil]); first | done | rfl | (simp only [List.length_drop, List.length_take]; rfl)) ?_; (with_reducible refine (impl_Mounts.calls t190 2 _ _ y199 t202 t205 _ ?side1 ?side2 A67.out).mono ?_); (case side1 => repeat (first | exact (Kd.R_reads' HO201.out).2.2 | (with_reducible refine Kd.C_alloc ?_ _) | (with_reducible refine Kd.C_drewN ?_ _) | (with_reducible refine Kd.C_drew ?_))); (case side2 => exact (Kd.R_reads' HO201.out).2.1); rintro e w79 ⟨v203, rfl, ho0, hb⟩; refine ⟨_, rfl, ?_⟩; have n0_ := Aside0.mk (Kd.R_below (by (with_reducible repeat (first | apply Kd.R_alloc | apply Kd.R_drewN | apply Kd.R_drew)); exact HO194.out) hb); have n1_ := Aside0.mk (Kd.R_elder' (by (with_reducible repeat (first | apply Kd.R_alloc | apply Kd.R_drewN | apply Kd.R_drew)); exact HO197.out) (Kd.R_base ho0) hb); have n2_ := Aside0.mk (Kd.R_below (by (with_reducible repeat (first | apply Kd.R_alloc | apply Kd.R_drewN | apply Kd.R_drew)); exact HO201.out) hb); have n3_ := Aside0.mk (Kd.R_lower (Kd.R_newB (Kd.R_newB (Kd.R_newB (Kd.R_new' ho0 (Kd.R_lt (by (with_reducible repeat (first | apply Kd.R_alloc | apply Kd.R_drewN | apply Kd.R_drew)); exact HO197.out))) (g := gb176) (o := .cells #[.int .i64 a0_0, .int .i64 a0_1, .int .i64 a0_2, .int .i64 a0_3, .string a0_4, .string a0_5, .string a0_6, .string a0_7, .string a0_8, .string a0_9, .string a0_10] 23 (0, 0)) (by refine bY ?_; exact BK176.out)) (g := gb180) (o := .cells #[.int .i64 a0_0, .int .i64 a0_1, .int .i64 a0_2, .int .i64 a0_3, .string a0_4, .string a1, .string a0_6, .string a0_7, .string a0_8, .string a0_9, .string a0_10] 23 (0, 0)) (by refine bY ?_; exact BK180.out)) (g := gb181) (o := .cells #[.int .i64 a0_0, .int .i64 a0_1, .int .i64 a0_2, .int .i64 a0_3, .string a0_4, .string a2, .string a0_6, .string a0_7, .string a0_8, .string a0_9, .string a0_10] 23 (0, 0)) (by refine bY ?_; exact BK181.out)) (below_size belS)); have n4_ := Aside0.mk (blk_below (g := gb176) (o := .cells #[.int .i64 a0_0, .int .i64 a0_1, .int .i64 a0_2, .int .i64 a0_3, .string a0_4, .string a0_5, .string a0_6, .string a0_7, .string a0_8, .string a0_9, .string a0_10] 23 (0, 0)) (by refine bY ?_; exact BK176.out) hb); have n5_ := Aside0.mk (blk_below (g := gb180) (o := .cells #[.int .i64 a0_0, .int .i64 a0_1, .int .i64 a0_2, .int .i64 a0_3, .string a0_4, .string a1, .string a0_6, .string a0_7, .string a0_8, .string a0_9, .string a0_10] 23 (0, 0)) (by refine bY ?_; exact BK180.out) hb); have n6_ := Aside0.mk (blk_below (g := gb181) (o := .cells #[.int .i64 a0_0, .int .i64 a0_1, .int .i64 a0_2, .int .i64 a0_3, .string a0_4, .string a2, .string a0_6, .string a0_7, .string a0_8, .string a0_9, .string a0_10] 23 (0, 0)) (by refine bY ?_; exact BK181.out) hb); have n7_ := Aside0.mk (below_step belS hb); clear HO194; clear HO197; clear HO201; clear BK176; clear BK180; clear BK181; clear HB; have HO194 := n0_; have HO197 := n1_; have HO201 := n2_; have HO204 := n3_; have BK176 := n4_; have BK180 := n5_; have BK181 := n6_; have HB := n7_; clear n0_ n1_ n2_ n3_ n4_ n5_ n6_ n7_; (try clear hb); (try clear hb2); (try clear hk); (try clear hi); (try clear ho0); obtain ⟨Ao80, co80, eo80⟩ := Kd.R_slice HO197.out; subst eo80; obtain ⟨Ao81, co81, eo81⟩ := Kd.R_slice HO204.out; subst eo81) | (go_at_call 10; (with_reducible refine (laws_mounts.calls  t206 _ A71.out).mono ?_); rintro e w82 ⟨rfl, hb⟩; have n0_ := Aside0.mk (Kd.R_below (by (with_reducible repeat (first | apply Kd.R_alloc | apply Kd.R_drewN | apply Kd.R_drew)); exact HO194.out) hb); have n1_ := Aside0.mk (Kd.R_below (by (with_reducible repeat (first | apply Kd.R_alloc | apply Kd.R_drewN | apply Kd.R_drew)); exact HO197.out) hb); have n2_ := Aside0.mk (Kd.R_below (by (with_reducible repeat (first | apply Kd.R_alloc | apply Kd.R_drewN | apply Kd.R_drew)); exact HO201.out) hb); have n3_ := Aside0.mk (Kd.R_below (by (with_reducible repeat (first | apply Kd.R_alloc | apply Kd.R_drewN | apply Kd.R_drew)); exact HO204.out) hb); have n4_ := Aside0.mk (blk_below (g := gb176) (o := .cells #[.int .i64 a0_0, .int .i64 a0_1, .int .i64 a0_2, .int .i64 a0_3, .string a0_4, .string a0_5, .string a0_6, .string a0_7, .string a0_8, .string a0_9, .string a0_10] 23 (0, 0)) (by refine bY ?_; exact BK176.out) hb); have n5_ := Aside0.mk (blk_below (g := gb180) (o := .cells #[.int .i64 a0_0, .int .i64 a0_1, .int .i64 a0_2, .int .i64 a0_3, .string a0_4, .string a1, .string a0_6, .string a0_7, .string a0_8, .string a0_9, .string a0_10] 23 (0, 0)) (by refine bY ?_; exact BK180.out) hb); have n6_ := Aside0.mk (blk_below (g := gb181) (o := .cells #[.int .i64 a0_0, .int .i64 a0_1, .int .i64 a0_2, .int .i64 a0_3, .string a0_4, .string a2, .string a0_6, .string a0_7, .string a0_8, .string a0_9, .string a0_10] 23 (0, 0)) (by refine bY ?_; exact BK181.out) hb); have n7_ := Aside0.mk (below_step belS hb); clear HO194; clear HO197; clear HO201; clear HO204; clear BK176; clear BK180; clear BK181; clear HB; have HO194 := n0_; have HO197 := n1_; have HO201 := n2_; have HO204 := n3_; have BK176 := n4_; have BK180 := n5_; have BK181 := n6_; have HB := n7_; clear n0_ n1_ n2_ n3_ n4_ n5_ n6_ n7_; (try clear hb); (try clear hb2); (try clear hk); (try clear hi)))
             go_ret
             exact ⟨by first | rfl | (simp [errW_none, errW_some] <;> rfl) | (simp [*, errW_none, errW_some] <;> rfl), by repeat (first | (with_reducible first | exact HB.out | apply below_alloc | apply pw_below_drewN | apply below_drew1 | refine below_set ?_ GE176.out | refine below_set ?_ GE180.out | refine below_set ?_ GE181.out) | exact HB.out)⟩
            ·rw [if_neg c70] at H
             have c70b0 : ((t195.length : Int) == (t202.length : Int)) = false := beq_eq_false_iff_ne.mpr c70
             have c70b1 : ((t195.length : Int) != (t202.length : Int)) = true := bne_iff_ne.mpr c70
             have c70b2 : (t195.length == t202.length) = false := by first | simpa using c70 | (simp at c70 ⊢; omega)
             obtain rfl := Option.some.inj H
             go_wp2_with (first | ((with_reducible refine gate_dst (N := 65) rfl ?_); (try (refine gate_guard (by rfl) ?_; dsimp only)); refine Kd.R_lit Kd.string _ 9 ?hg (N := 65) ?hd (xs := ([a2] : List ByteArray)) (inner := [.string a2]) (ok := fun _ => True) (okp := fun _ => True) ?hr ?hp (fun _ hk => hk) trivial (Below.refl _ _) (Nat.le_refl _) (by simp) ?_; (case hd => rfl); (case hg => rfl); (case hr => first | (go_simp; done) | (go_simp; rfl)); (case hp => exact (Reps.one (show Kd.M Kd.string _ _ _ a2 [.string a2] from rfl) (Reps.none _ _))); intro v193 w83 ho84 hb hg_ hnew_; clear hg_ hnew_; (first | rw [← Ny192.out] at ho84 | (simp only [Int.reduceToNat] at ho84; rw [← Ny192.out] at ho84)); have n0_ := Aside0.mk (Kd.R_lower ho84 (below_size belS)); have n1_ := Aside0.mk (blk_below (g := gb176) (o := .cells #[.int .i64 a0_0, .int .i64 a0_1, .int .i64 a0_2, .int .i64 a0_3, .string a0_4, .string a0_5, .string a0_6, .string a0_7, .string a0_8, .string a0_9, .string a0_10] 23 (0, 0)) (by refine bY ?_; exact BK176.out) hb); have n2_ := Aside0.mk (blk_below (g := gb180) (o := .cells #[.int .i64 a0_0, .int .i64 a0_1, .int .i64 a0_2, .int .i64 a0_3, .string a0_4, .string a1, .string a0_6, .string a0_7, .string a0_8, .string a0_9, .string a0_10] 23 (0, 0)) (by refine bY ?_; exact BK180.out) hb); have n3_ := Aside0.mk (blk_below (g := gb181) (o := .cells #[.int .i64 a0_0, .int .i64 a0_1, .int .i64 a0_2, .int .i64 a0_3, .string a0_4, .string a2, .string a0_6, .string a0_7, .string a0_8, .string a0_9, .string a0_10] 23 (0, 0)) (by refine bY ?_; exact BK181.out) hb); have n4_ := Aside0.mk (below_step belS hb); clear BK176; clear BK180; clear BK181; clear HB; have HO194 := n0_; have BK176 := n1_; have BK180 := n2_; have BK181 := n3_; have HB := n4_; clear n0_ n1_ n2_ n3_ n4_; clear hb ho84; obtain ⟨Ao85, co85, eo85⟩ := Kd.R_slice HO194.out; subst eo85) | ((with_reducible refine gate_callee (f := 9) rfl ?_); refine goesL_ (some 67) rfl rfl Tryd.func9 (by kernel_rfl) rfl #[.string t185, .agg #[.int .i64 3, .slice Ao85 y192.length co85]] rfl (by (try simp only [List.map_toArray, List.map_cons, List.map_nil]); first | done | rfl | (simp only [List.length_drop, List.length_take]; rfl)) ?_; (with_reducible refine (impl_Mounts.calls t185 3 _ _ y192 t195 t198 _ ?side1 ?side2 A66.out).mono ?_); (case side1 => repeat (first | exact (Kd.R_reads' HO194.out).2.2 | (with_reducible refine Kd.C_alloc ?_ _) | (with_reducible refine Kd.C_drewN ?_ _) | (with_reducible refine Kd.C_drew ?_))); (case side2 => exact (Kd.R_reads' HO194.out).2.1); rintro e w86 ⟨v196, rfl, ho0, hb⟩; refine ⟨_, rfl, ?_⟩; have n0_ := Aside0.mk (Kd.R_below (by (with_reducible repeat (first | apply Kd.R_alloc | apply Kd.R_drewN | apply Kd.R_drew)); exact HO194.out) hb); have n1_ := Aside0.mk (Kd.R_lower (Kd.R_newB (Kd.R_newB (Kd.R_newB ho0 (g := gb176) (o := .cells #[.int .i64 a0_0, .int .i64 a0_1, .int .i64 a0_2, .int .i64 a0_3, .string a0_4, .string a0_5, .string a0_6, .string a0_7, .string a0_8, .string a0_9, .string a0_10] 23 (0, 0)) (by refine bY ?_; exact BK176.out)) (g := gb180) (o := .cells #[.int .i64 a0_0, .int .i64 a0_1, .int .i64 a0_2, .int .i64 a0_3, .string a0_4, .string a1, .string a0_6, .string a0_7, .string a0_8, .string a0_9, .string a0_10] 23 (0, 0)) (by refine bY ?_; exact BK180.out)) (g := gb181) (o := .cells #[.int .i64 a0_0, .int .i64 a0_1, .int .i64 a0_2, .int .i64 a0_3, .string a0_4, .string a2, .string a0_6, .string a0_7, .string a0_8, .string a0_9, .string a0_10] 23 (0, 0)) (by refine bY ?_; exact BK181.out)) (below_size belS)); have n2_ := Aside0.mk (blk_below (g := gb176) (o := .cells #[.int .i64 a0_0, .int .i64 a0_1, .int .i64 a0_2, .int .i64 a0_3, .string a0_4, .string a0_5, .string a0_6, .string a0_7, .string a0_8, .string a0_9, .string a0_10] 23 (0, 0)) (by refine bY ?_; exact BK176.out) hb); have n3_ := Aside0.mk (blk_below (g := gb180) (o := .cells #[.int .i64 a0_0, .int .i64 a0_1, .int .i64 a0_2, .int .i64 a0_3, .string a0_4, .string a1, .string a0_6, .string a0_7, .string a0_8, .string a0_9, .string a0_10] 23 (0, 0)) (by refine bY ?_; exact BK180.out) hb); have n4_ := Aside0.mk (blk_below (g := gb181) (o := .cells #[.int .i64 a0_0, .int .i64 a0_1, .int .i64 a0_2, .int .i64 a0_3, .string a0_4, .string a2, .string a0_6, .string a0_7, .string a0_8, .string a0_9, .string a0_10] 23 (0, 0)) (by refine bY ?_; exact BK181.out) hb); have n5_ := Aside0.mk (below_step belS hb); clear HO194; clear BK176; clear BK180; clear BK181; clear HB; have HO194 := n0_; have HO197 := n1_; have BK176 := n2_; have BK180 := n3_; have BK181 := n4_; have HB := n5_; clear n0_ n1_ n2_ n3_ n4_ n5_; (try clear hb); (try clear hb2); (try clear hk); (try clear hi); (try clear ho0)) | ((with_reducible refine gate_dst (N := 73) rfl ?_); (try (refine gate_guard (by rfl) ?_; dsimp only)); refine Kd.R_lit Kd.string _ 9 ?hg (N := 73) ?hd (xs := ([a1] : List ByteArray)) (inner := [.string a1]) (ok := fun _ => True) (okp := fun _ => True) ?hr ?hp (fun _ hk => hk) trivial (Below.refl _ _) (Nat.le_refl _) (by simp) ?_; (case hd => rfl); (case hg => rfl); (case hr => first | (go_simp; done) | (go_simp; rfl)); (case hp => exact (Reps.one (show Kd.M Kd.string _ _ _ a1 [.string a1] from rfl) (Reps.none _ _))); intro v200 w87 ho88 hb hg_ hnew_; clear hg_ hnew_; (first | rw [← Ny199.out] at ho88 | (simp only [Int.reduceToNat] at ho88; rw [← Ny199.out] at ho88)); have n0_ := Aside0.mk (Kd.R_elder' (by (with_reducible repeat (first | apply Kd.R_alloc | apply Kd.R_drewN | apply Kd.R_drew)); exact HO194.out) (Kd.R_base ho88) hb); have n1_ := Aside0.mk (Kd.R_below (by (with_reducible repeat (first | apply Kd.R_alloc | apply Kd.R_drewN | apply Kd.R_drew)); exact HO197.out) hb); have n2_ := Aside0.mk (Kd.R_lower (Kd.R_new' ho88 (Kd.R_lt (by (with_reducible repeat (first | apply Kd.R_alloc | apply Kd.R_drewN | apply Kd.R_drew)); exact HO194.out))) (below_size belS)); have n3_ := Aside0.mk (blk_below (g := gb176) (o := .cells #[.int .i64 a0_0, .int .i64 a0_1, .int .i64 a0_2, .int .i64 a0_3, .string a0_4, .string a0_5, .string a0_6, .string a0_7, .string a0_8, .string a0_9, .string a0_10] 23 (0, 0)) (by refine bY ?_; exact BK176.out) hb); have n4_ := Aside0.mk (blk_below (g := gb180) (o := .cells #[.int .i64 a0_0, .int .i64 a0_1, .int .i64 a0_2, .int .i64 a0_3, .string a0_4, .string a1, .string a0_6, .string a0_7, .string a0_8, .string a0_9, .string a0_10] 23 (0, 0)) (by refine bY ?_; exact BK180.out) hb); have n5_ := Aside0.mk (blk_below (g := gb181) (o := .cells #[.int .i64 a0_0, .int .i64 a0_1, .int .i64 a0_2, .int .i64 a0_3, .string a0_4, .string a2, .string a0_6, .string a0_7, .string a0_8, .string a0_9, .string a0_10] 23 (0, 0)) (by refine bY ?_; exact BK181.out) hb); have n6_ := Aside0.mk (below_step belS hb); clear HO194; clear HO197; clear BK176; clear BK180; clear BK181; clear HB; have HO194 := n0_; have HO197 := n1_; have HO201 := n2_; have BK176 := n3_; have BK180 := n4_; have BK181 := n5_; have HB := n6_; clear n0_ n1_ n2_ n3_ n4_ n5_ n6_; clear hb ho88; obtain ⟨Ao89, co89, eo89⟩ := Kd.R_slice HO201.out; subst eo89) | ((with_reducible refine gate_callee (f := 9) rfl ?_); refine goesL_ (some 75) rfl rfl Tryd.func9 (by kernel_rfl) rfl #[.string t190, .agg #[.int .i64 2, .slice Ao89 y199.length co89]] rfl (by (try simp only [List.map_toArray, List.map_cons, List.map_nil]); first | done | rfl | (simp only [List.length_drop, List.length_take]; rfl)) ?_; (with_reducible refine (impl_Mounts.calls t190 2 _ _ y199 t202 t205 _ ?side1 ?side2 A67.out).mono ?_); (case side1 => repeat (first | exact (Kd.R_reads' HO201.out).2.2 | (with_reducible refine Kd.C_alloc ?_ _) | (with_reducible refine Kd.C_drewN ?_ _) | (with_reducible refine Kd.C_drew ?_))); (case side2 => exact (Kd.R_reads' HO201.out).2.1); rintro e w90 ⟨v203, rfl, ho0, hb⟩; refine ⟨_, rfl, ?_⟩; have n0_ := Aside0.mk (Kd.R_below (by (with_reducible repeat (first | apply Kd.R_alloc | apply Kd.R_drewN | apply Kd.R_drew)); exact HO194.out) hb); have n1_ := Aside0.mk (Kd.R_elder' (by (with_reducible repeat (first | apply Kd.R_alloc | apply Kd.R_drewN | apply Kd.R_drew)); exact HO197.out) (Kd.R_base ho0) hb); have n2_ := Aside0.mk (Kd.R_below (by (with_reducible repeat (first | apply Kd.R_alloc | apply Kd.R_drewN | apply Kd.R_drew)); exact HO201.out) hb); have n3_ := Aside0.mk (Kd.R_lower (Kd.R_newB (Kd.R_newB (Kd.R_newB (Kd.R_new' ho0 (Kd.R_lt (by (with_reducible repeat (first | apply Kd.R_alloc | apply Kd.R_drewN | apply Kd.R_drew)); exact HO197.out))) (g := gb176) (o := .cells #[.int .i64 a0_0, .int .i64 a0_1, .int .i64 a0_2, .int .i64 a0_3, .string a0_4, .string a0_5, .string a0_6, .string a0_7, .string a0_8, .string a0_9, .string a0_10] 23 (0, 0)) (by refine bY ?_; exact BK176.out)) (g := gb180) (o := .cells #[.int .i64 a0_0, .int .i64 a0_1, .int .i64 a0_2, .int .i64 a0_3, .string a0_4, .string a1, .string a0_6, .string a0_7, .string a0_8, .string a0_9, .string a0_10] 23 (0, 0)) (by refine bY ?_; exact BK180.out)) (g := gb181) (o := .cells #[.int .i64 a0_0, .int .i64 a0_1, .int .i64 a0_2, .int .i64 a0_3, .string a0_4, .string a2, .string a0_6, .string a0_7, .string a0_8, .string a0_9, .string a0_10] 23 (0, 0)) (by refine bY ?_; exact BK181.out)) (below_size belS)); have n4_ := Aside0.mk (blk_below (g := gb176) (o := .cells #[.int .i64 a0_0, .int .i64 a0_1, .int .i64 a0_2, .int .i64 a0_3, .string a0_4, .string a0_5, .string a0_6, .string a0_7, .string a0_8, .string a0_9, .string a0_10] 23 (0, 0)) (by refine bY ?_; exact BK176.out) hb); have n5_ := Aside0.mk (blk_below (g := gb180) (o := .cells #[.int .i64 a0_0, .int .i64 a0_1, .int .i64 a0_2, .int .i64 a0_3, .string a0_4, .string a1, .string a0_6, .string a0_7, .string a0_8, .string a0_9, .string a0_10] 23 (0, 0)) (by refine bY ?_; exact BK180.out) hb); have n6_ := Aside0.mk (blk_below (g := gb181) (o := .cells #[.int .i64 a0_0, .int .i64 a0_1, .int .i64 a0_2, .int .i64 a0_3, .string a0_4, .string a2, .string a0_6, .string a0_7, .string a0_8, .string a0_9, .string a0_10] 23 (0, 0)) (by refine bY ?_; exact BK181.out) hb); have n7_ := Aside0.mk (below_step belS hb); clear HO194; clear HO197; clear HO201; clear BK176; clear BK180; clear BK181; clear HB; have HO194 := n0_; have HO197 := n1_; have HO201 := n2_; have HO204 := n3_; have BK176 := n4_; have BK180 := n5_; have BK181 := n6_; have HB := n7_; clear n0_ n1_ n2_ n3_ n4_ n5_ n6_ n7_; (try clear hb); (try clear hb2); (try clear hk); (try clear hi); (try clear ho0); obtain ⟨Ao91, co91, eo91⟩ := Kd.R_slice HO197.out; subst eo91; obtain ⟨Ao92, co92, eo92⟩ := Kd.R_slice HO204.out; subst eo92))
             go_ret
             exact ⟨by first | rfl | (simp [errW_none, errW_some] <;> rfl) | (simp [*, errW_none, errW_some] <;> rfl), by repeat (first | (with_reducible first | exact HB.out | apply below_alloc | apply pw_below_drewN | apply below_drew1 | refine below_set ?_ GE176.out | refine below_set ?_ GE180.out | refine below_set ?_ GE181.out) | exact HB.out)⟩
           ·rw [if_neg c69] at H
            have c69b0 : (t205 == 0) = false := beq_eq_false_iff_ne.mpr c69
            have c69b1 : (t205 != 0) = true := bne_iff_ne.mpr c69
            obtain rfl := Option.some.inj H
            go_wp2_with (first | ((with_reducible refine gate_dst (N := 65) rfl ?_); (try (refine gate_guard (by rfl) ?_; dsimp only)); refine Kd.R_lit Kd.string _ 9 ?hg (N := 65) ?hd (xs := ([a2] : List ByteArray)) (inner := [.string a2]) (ok := fun _ => True) (okp := fun _ => True) ?hr ?hp (fun _ hk => hk) trivial (Below.refl _ _) (Nat.le_refl _) (by simp) ?_; (case hd => rfl); (case hg => rfl); (case hr => first | (go_simp; done) | (go_simp; rfl)); (case hp => exact (Reps.one (show Kd.M Kd.string _ _ _ a2 [.string a2] from rfl) (Reps.none _ _))); intro v193 w93 ho94 hb hg_ hnew_; clear hg_ hnew_; (first | rw [← Ny192.out] at ho94 | (simp only [Int.reduceToNat] at ho94; rw [← Ny192.out] at ho94)); have n0_ := Aside0.mk (Kd.R_lower ho94 (below_size belS)); have n1_ := Aside0.mk (blk_below (g := gb176) (o := .cells #[.int .i64 a0_0, .int .i64 a0_1, .int .i64 a0_2, .int .i64 a0_3, .string a0_4, .string a0_5, .string a0_6, .string a0_7, .string a0_8, .string a0_9, .string a0_10] 23 (0, 0)) (by refine bY ?_; exact BK176.out) hb); have n2_ := Aside0.mk (blk_below (g := gb180) (o := .cells #[.int .i64 a0_0, .int .i64 a0_1, .int .i64 a0_2, .int .i64 a0_3, .string a0_4, .string a1, .string a0_6, .string a0_7, .string a0_8, .string a0_9, .string a0_10] 23 (0, 0)) (by refine bY ?_; exact BK180.out) hb); have n3_ := Aside0.mk (blk_below (g := gb181) (o := .cells #[.int .i64 a0_0, .int .i64 a0_1, .int .i64 a0_2, .int .i64 a0_3, .string a0_4, .string a2, .string a0_6, .string a0_7, .string a0_8, .string a0_9, .string a0_10] 23 (0, 0)) (by refine bY ?_; exact BK181.out) hb); have n4_ := Aside0.mk (below_step belS hb); clear BK176; clear BK180; clear BK181; clear HB; have HO194 := n0_; have BK176 := n1_; have BK180 := n2_; have BK181 := n3_; have HB := n4_; clear n0_ n1_ n2_ n3_ n4_; clear hb ho94; obtain ⟨Ao95, co95, eo95⟩ := Kd.R_slice HO194.out; subst eo95) | ((with_reducible refine gate_callee (f := 9) rfl ?_); refine goesL_ (some 67) rfl rfl Tryd.func9 (by kernel_rfl) rfl #[.string t185, .agg #[.int .i64 3, .slice Ao95 y192.length co95]] rfl (by (try simp only [List.map_toArray, List.map_cons, List.map_nil]); first | done | rfl | (simp only [List.length_drop, List.length_take]; rfl)) ?_; (with_reducible refine (impl_Mounts.calls t185 3 _ _ y192 t195 t198 _ ?side1 ?side2 A66.out).mono ?_); (case side1 => repeat (first | exact (Kd.R_reads' HO194.out).2.2 | (with_reducible refine Kd.C_alloc ?_ _) | (with_reducible refine Kd.C_drewN ?_ _) | (with_reducible refine Kd.C_drew ?_))); (case side2 => exact (Kd.R_reads' HO194.out).2.1); rintro e w96 ⟨v196, rfl, ho0, hb⟩; refine ⟨_, rfl, ?_⟩; have n0_ := Aside0.mk (Kd.R_below (by (with_reducible repeat (first | apply Kd.R_alloc | apply Kd.R_drewN | apply Kd.R_drew)); exact HO194.out) hb); have n1_ := Aside0.mk (Kd.R_lower (Kd.R_newB (Kd.R_newB (Kd.R_newB ho0 (g := gb176) (o := .cells #[.int .i64 a0_0, .int .i64 a0_1, .int .i64 a0_2, .int .i64 a0_3, .string a0_4, .string a0_5, .string a0_6, .string a0_7, .string a0_8, .string a0_9, .string a0_10] 23 (0, 0)) (by refine bY ?_; exact BK176.out)) (g := gb180) (o := .cells #[.int .i64 a0_0, .int .i64 a0_1, .int .i64 a0_2, .int .i64 a0_3, .string a0_4, .string a1, .string a0_6, .string a0_7, .string a0_8, .string a0_9, .string a0_10] 23 (0, 0)) (by refine bY ?_; exact BK180.out)) (g := gb181) (o := .cells #[.int .i64 a0_0, .int .i64 a0_1, .int .i64 a0_2, .int .i64 a0_3, .string a0_4, .string a2, .string a0_6, .string a0_7, .string a0_8, .string a0_9, .string a0_10] 23 (0, 0)) (by refine bY ?_; exact BK181.out)) (below_size belS)); have n2_ := Aside0.mk (blk_below (g := gb176) (o := .cells #[.int .i64 a0_0, .int .i64 a0_1, .int .i64 a0_2, .int .i64 a0_3, .string a0_4, .string a0_5, .string a0_6, .string a0_7, .string a0_8, .string a0_9, .string a0_10] 23 (0, 0)) (by refine bY ?_; exact BK176.out) hb); have n3_ := Aside0.mk (blk_below (g := gb180) (o := .cells #[.int .i64 a0_0, .int .i64 a0_1, .int .i64 a0_2, .int .i64 a0_3, .string a0_4, .string a1, .string a0_6, .string a0_7, .string a0_8, .string a0_9, .string a0_10] 23 (0, 0)) (by refine bY ?_; exact BK180.out) hb); have n4_ := Aside0.mk (blk_below (g := gb181) (o := .cells #[.int .i64 a0_0, .int .i64 a0_1, .int .i64 a0_2, .int .i64 a0_3, .string a0_4, .string a2, .string a0_6, .string a0_7, .string a0_8, .string a0_9, .string a0_10] 23 (0, 0)) (by refine bY ?_; exact BK181.out) hb); have n5_ := Aside0.mk (below_step belS hb); clear HO194; clear BK176; clear BK180; clear BK181; clear HB; have HO194 := n0_; have HO197 := n1_; have BK176 := n2_; have BK180 := n3_; have BK181 := n4_; have HB := n5_; clear n0_ n1_ n2_ n3_ n4_ n5_; (try clear hb); (try clear hb2); (try clear hk); (try clear hi); (try clear ho0)) | ((with_reducible refine gate_dst (N := 73) rfl ?_); (try (refine gate_guard (by rfl) ?_; dsimp only)); refine Kd.R_lit Kd.string _ 9 ?hg (N := 73) ?hd (xs := ([a1] : List ByteArray)) (inner := [.string a1]) (ok := fun _ => True) (okp := fun _ => True) ?hr ?hp (fun _ hk => hk) trivial (Below.refl _ _) (Nat.le_refl _) (by simp) ?_; (case hd => rfl); (case hg => rfl); (case hr => first | (go_simp; done) | (go_simp; rfl)); (case hp => exact (Reps.one (show Kd.M Kd.string _ _ _ a1 [.string a1] from rfl) (Reps.none _ _))); intro v200 w97 ho98 hb hg_ hnew_; clear hg_ hnew_; (first | rw [← Ny199.out] at ho98 | (simp only [Int.reduceToNat] at ho98; rw [← Ny199.out] at ho98)); have n0_ := Aside0.mk (Kd.R_elder' (by (with_reducible repeat (first | apply Kd.R_alloc | apply Kd.R_drewN | apply Kd.R_drew)); exact HO194.out) (Kd.R_base ho98) hb); have n1_ := Aside0.mk (Kd.R_below (by (with_reducible repeat (first | apply Kd.R_alloc | apply Kd.R_drewN | apply Kd.R_drew)); exact HO197.out) hb); have n2_ := Aside0.mk (Kd.R_lower (Kd.R_new' ho98 (Kd.R_lt (by (with_reducible repeat (first | apply Kd.R_alloc | apply Kd.R_drewN | apply Kd.R_drew)); exact HO194.out))) (below_size belS)); have n3_ := Aside0.mk (blk_below (g := gb176) (o := .cells #[.int .i64 a0_0, .int .i64 a0_1, .int .i64 a0_2, .int .i64 a0_3, .string a0_4, .string a0_5, .string a0_6, .string a0_7, .string a0_8, .string a0_9, .string a0_10] 23 (0, 0)) (by refine bY ?_; exact BK176.out) hb); have n4_ := Aside0.mk (blk_below (g := gb180) (o := .cells #[.int .i64 a0_0, .int .i64 a0_1, .int .i64 a0_2, .int .i64 a0_3, .string a0_4, .string a1, .string a0_6, .string a0_7, .string a0_8, .string a0_9, .string a0_10] 23 (0, 0)) (by refine bY ?_; exact BK180.out) hb); have n5_ := Aside0.mk (blk_below (g := gb181) (o := .cells #[.int .i64 a0_0, .int .i64 a0_1, .int .i64 a0_2, .int .i64 a0_3, .string a0_4, .string a2, .string a0_6, .string a0_7, .string a0_8, .string a0_9, .string a0_10] 23 (0, 0)) (by refine bY ?_; exact BK181.out) hb); have n6_ := Aside0.mk (below_step belS hb); clear HO194; clear HO197; clear BK176; clear BK180; clear BK181; clear HB; have HO194 := n0_; have HO197 := n1_; have HO201 := n2_; have BK176 := n3_; have BK180 := n4_; have BK181 := n5_; have HB := n6_; clear n0_ n1_ n2_ n3_ n4_ n5_ n6_; clear hb ho98; obtain ⟨Ao99, co99, eo99⟩ := Kd.R_slice HO201.out; subst eo99) | ((with_reducible refine gate_callee (f := 9) rfl ?_); refine goesL_ (some 75) rfl rfl Tryd.func9 (by kernel_rfl) rfl #[.string t190, .agg #[.int .i64 2, .slice Ao99 y199.length co99]] rfl (by (try simp only [List.map_toArray, List.map_cons, List.map_nil]); first | done | rfl | (simp only [List.length_drop, List.length_take]; rfl)) ?_; (with_reducible refine (impl_Mounts.calls t190 2 _ _ y199 t202 t205 _ ?side1 ?side2 A67.out).mono ?_); (case side1 => repeat (first | exact (Kd.R_reads' HO201.out).2.2 | (with_reducible refine Kd.C_alloc ?_ _) | (with_reducible refine Kd.C_drewN ?_ _) | (with_reducible refine Kd.C_drew ?_))); (case side2 => exact (Kd.R_reads' HO201.out).2.1); rintro e w100 ⟨v203, rfl, ho0, hb⟩; refine ⟨_, rfl, ?_⟩; have n0_ := Aside0.mk (Kd.R_below (by (with_reducible repeat (first | apply Kd.R_alloc | apply Kd.R_drewN | apply Kd.R_drew)); exact HO194.out) hb); have n1_ := Aside0.mk (Kd.R_elder' (by (with_reducible repeat (first | apply Kd.R_alloc | apply Kd.R_drewN | apply Kd.R_drew)); exact HO197.out) (Kd.R_base ho0) hb); have n2_ := Aside0.mk (Kd.R_below (by (with_reducible repeat (first | apply Kd.R_alloc | apply Kd.R_drewN | apply Kd.R_drew)); exact HO201.out) hb); have n3_ := Aside0.mk (Kd.R_lower (Kd.R_newB (Kd.R_newB (Kd.R_newB (Kd.R_new' ho0 (Kd.R_lt (by (with_reducible repeat (first | apply Kd.R_alloc | apply Kd.R_drewN | apply Kd.R_drew)); exact HO197.out))) (g := gb176) (o := .cells #[.int .i64 a0_0, .int .i64 a0_1, .int .i64 a0_2, .int .i64 a0_3, .string a0_4, .string a0_5, .string a0_6, .string a0_7, .string a0_8, .string a0_9, .string a0_10] 23 (0, 0)) (by refine bY ?_; exact BK176.out)) (g := gb180) (o := .cells #[.int .i64 a0_0, .int .i64 a0_1, .int .i64 a0_2, .int .i64 a0_3, .string a0_4, .string a1, .string a0_6, .string a0_7, .string a0_8, .string a0_9, .string a0_10] 23 (0, 0)) (by refine bY ?_; exact BK180.out)) (g := gb181) (o := .cells #[.int .i64 a0_0, .int .i64 a0_1, .int .i64 a0_2, .int .i64 a0_3, .string a0_4, .string a2, .string a0_6, .string a0_7, .string a0_8, .string a0_9, .string a0_10] 23 (0, 0)) (by refine bY ?_; exact BK181.out)) (below_size belS)); have n4_ := Aside0.mk (blk_below (g := gb176) (o := .cells #[.int .i64 a0_0, .int .i64 a0_1, .int .i64 a0_2, .int .i64 a0_3, .string a0_4, .string a0_5, .string a0_6, .string a0_7, .string a0_8, .string a0_9, .string a0_10] 23 (0, 0)) (by refine bY ?_; exact BK176.out) hb); have n5_ := Aside0.mk (blk_below (g := gb180) (o := .cells #[.int .i64 a0_0, .int .i64 a0_1, .int .i64 a0_2, .int .i64 a0_3, .string a0_4, .string a1, .string a0_6, .string a0_7, .string a0_8, .string a0_9, .string a0_10] 23 (0, 0)) (by refine bY ?_; exact BK180.out) hb); have n6_ := Aside0.mk (blk_below (g := gb181) (o := .cells #[.int .i64 a0_0, .int .i64 a0_1, .int .i64 a0_2, .int .i64 a0_3, .string a0_4, .string a2, .string a0_6, .string a0_7, .string a0_8, .string a0_9, .string a0_10] 23 (0, 0)) (by refine bY ?_; exact BK181.out) hb); have n7_ := Aside0.mk (below_step belS hb); clear HO194; clear HO197; clear HO201; clear BK176; clear BK180; clear BK181; clear HB; have HO194 := n0_; have HO197 := n1_; have HO201 := n2_; have HO204 := n3_; have BK176 := n4_; have BK180 := n5_; have BK181 := n6_; have HB := n7_; clear n0_ n1_ n2_ n3_ n4_ n5_ n6_ n7_; (try clear hb); (try clear hb2); (try clear hk); (try clear hi); (try clear ho0)))
            go_ret
            exact ⟨by first | rfl | (simp [errW_none, errW_some] <;> rfl) | (simp [*, errW_none, errW_some] <;> rfl), by repeat (first | (with_reducible first | exact HB.out | apply below_alloc | apply pw_below_drewN | apply below_drew1 | refine below_set ?_ GE176.out | refine below_set ?_ GE180.out | refine below_set ?_ GE181.out) | exact HB.out)⟩
          ·rw [if_neg c68] at H
           have c68b0 : (t198 == 0) = false := beq_eq_false_iff_ne.mpr c68
           have c68b1 : (t198 != 0) = true := bne_iff_ne.mpr c68
           obtain rfl := Option.some.inj H
           go_wp2_with (first | ((with_reducible refine gate_dst (N := 65) rfl ?_); (try (refine gate_guard (by rfl) ?_; dsimp only)); refine Kd.R_lit Kd.string _ 9 ?hg (N := 65) ?hd (xs := ([a2] : List ByteArray)) (inner := [.string a2]) (ok := fun _ => True) (okp := fun _ => True) ?hr ?hp (fun _ hk => hk) trivial (Below.refl _ _) (Nat.le_refl _) (by simp) ?_; (case hd => rfl); (case hg => rfl); (case hr => first | (go_simp; done) | (go_simp; rfl)); (case hp => exact (Reps.one (show Kd.M Kd.string _ _ _ a2 [.string a2] from rfl) (Reps.none _ _))); intro v193 w101 ho102 hb hg_ hnew_; clear hg_ hnew_; (first | rw [← Ny192.out] at ho102 | (simp only [Int.reduceToNat] at ho102; rw [← Ny192.out] at ho102)); have n0_ := Aside0.mk (Kd.R_lower ho102 (below_size belS)); have n1_ := Aside0.mk (blk_below (g := gb176) (o := .cells #[.int .i64 a0_0, .int .i64 a0_1, .int .i64 a0_2, .int .i64 a0_3, .string a0_4, .string a0_5, .string a0_6, .string a0_7, .string a0_8, .string a0_9, .string a0_10] 23 (0, 0)) (by refine bY ?_; exact BK176.out) hb); have n2_ := Aside0.mk (blk_below (g := gb180) (o := .cells #[.int .i64 a0_0, .int .i64 a0_1, .int .i64 a0_2, .int .i64 a0_3, .string a0_4, .string a1, .string a0_6, .string a0_7, .string a0_8, .string a0_9, .string a0_10] 23 (0, 0)) (by refine bY ?_; exact BK180.out) hb); have n3_ := Aside0.mk (blk_below (g := gb181) (o := .cells #[.int .i64 a0_0, .int .i64 a0_1, .int .i64 a0_2, .int .i64 a0_3, .string a0_4, .string a2, .string a0_6, .string a0_7, .string a0_8, .string a0_9, .string a0_10] 23 (0, 0)) (by refine bY ?_; exact BK181.out) hb); have n4_ := Aside0.mk (below_step belS hb); clear BK176; clear BK180; clear BK181; clear HB; have HO194 := n0_; have BK176 := n1_; have BK180 := n2_; have BK181 := n3_; have HB := n4_; clear n0_ n1_ n2_ n3_ n4_; clear hb ho102; obtain ⟨Ao103, co103, eo103⟩ := Kd.R_slice HO194.out; subst eo103) | ((with_reducible refine gate_callee (f := 9) rfl ?_); refine goesL_ (some 67) rfl rfl Tryd.func9 (by kernel_rfl) rfl #[.string t185, .agg #[.int .i64 3, .slice Ao103 y192.length co103]] rfl (by (try simp only [List.map_toArray, List.map_cons, List.map_nil]); first | done | rfl | (simp only [List.length_drop, List.length_take]; rfl)) ?_; (with_reducible refine (impl_Mounts.calls t185 3 _ _ y192 t195 t198 _ ?side1 ?side2 A66.out).mono ?_); (case side1 => repeat (first | exact (Kd.R_reads' HO194.out).2.2 | (with_reducible refine Kd.C_alloc ?_ _) | (with_reducible refine Kd.C_drewN ?_ _) | (with_reducible refine Kd.C_drew ?_))); (case side2 => exact (Kd.R_reads' HO194.out).2.1); rintro e w104 ⟨v196, rfl, ho0, hb⟩; refine ⟨_, rfl, ?_⟩; have n0_ := Aside0.mk (Kd.R_below (by (with_reducible repeat (first | apply Kd.R_alloc | apply Kd.R_drewN | apply Kd.R_drew)); exact HO194.out) hb); have n1_ := Aside0.mk (Kd.R_lower (Kd.R_newB (Kd.R_newB (Kd.R_newB ho0 (g := gb176) (o := .cells #[.int .i64 a0_0, .int .i64 a0_1, .int .i64 a0_2, .int .i64 a0_3, .string a0_4, .string a0_5, .string a0_6, .string a0_7, .string a0_8, .string a0_9, .string a0_10] 23 (0, 0)) (by refine bY ?_; exact BK176.out)) (g := gb180) (o := .cells #[.int .i64 a0_0, .int .i64 a0_1, .int .i64 a0_2, .int .i64 a0_3, .string a0_4, .string a1, .string a0_6, .string a0_7, .string a0_8, .string a0_9, .string a0_10] 23 (0, 0)) (by refine bY ?_; exact BK180.out)) (g := gb181) (o := .cells #[.int .i64 a0_0, .int .i64 a0_1, .int .i64 a0_2, .int .i64 a0_3, .string a0_4, .string a2, .string a0_6, .string a0_7, .string a0_8, .string a0_9, .string a0_10] 23 (0, 0)) (by refine bY ?_; exact BK181.out)) (below_size belS)); have n2_ := Aside0.mk (blk_below (g := gb176) (o := .cells #[.int .i64 a0_0, .int .i64 a0_1, .int .i64 a0_2, .int .i64 a0_3, .string a0_4, .string a0_5, .string a0_6, .string a0_7, .string a0_8, .string a0_9, .string a0_10] 23 (0, 0)) (by refine bY ?_; exact BK176.out) hb); have n3_ := Aside0.mk (blk_below (g := gb180) (o := .cells #[.int .i64 a0_0, .int .i64 a0_1, .int .i64 a0_2, .int .i64 a0_3, .string a0_4, .string a1, .string a0_6, .string a0_7, .string a0_8, .string a0_9, .string a0_10] 23 (0, 0)) (by refine bY ?_; exact BK180.out) hb); have n4_ := Aside0.mk (blk_below (g := gb181) (o := .cells #[.int .i64 a0_0, .int .i64 a0_1, .int .i64 a0_2, .int .i64 a0_3, .string a0_4, .string a2, .string a0_6, .string a0_7, .string a0_8, .string a0_9, .string a0_10] 23 (0, 0)) (by refine bY ?_; exact BK181.out) hb); have n5_ := Aside0.mk (below_step belS hb); clear HO194; clear BK176; clear BK180; clear BK181; clear HB; have HO194 := n0_; have HO197 := n1_; have BK176 := n2_; have BK180 := n3_; have BK181 := n4_; have HB := n5_; clear n0_ n1_ n2_ n3_ n4_ n5_; (try clear hb); (try clear hb2); (try clear hk); (try clear hi); (try clear ho0)) | ((with_reducible refine gate_dst (N := 73) rfl ?_); (try (refine gate_guard (by rfl) ?_; dsimp only)); refine Kd.R_lit Kd.string _ 9 ?hg (N := 73) ?hd (xs := ([a1] : List ByteArray)) (inner := [.string a1]) (ok := fun _ => True) (okp := fun _ => True) ?hr ?hp (fun _ hk => hk) trivial (Below.refl _ _) (Nat.le_refl _) (by simp) ?_; (case hd => rfl); (case hg => rfl); (case hr => first | (go_simp; done) | (go_simp; rfl)); (case hp => exact (Reps.one (show Kd.M Kd.string _ _ _ a1 [.string a1] from rfl) (Reps.none _ _))); intro v200 w105 ho106 hb hg_ hnew_; clear hg_ hnew_; (first | rw [← Ny199.out] at ho106 | (simp only [Int.reduceToNat] at ho106; rw [← Ny199.out] at ho106)); have n0_ := Aside0.mk (Kd.R_elder' (by (with_reducible repeat (first | apply Kd.R_alloc | apply Kd.R_drewN | apply Kd.R_drew)); exact HO194.out) (Kd.R_base ho106) hb); have n1_ := Aside0.mk (Kd.R_below (by (with_reducible repeat (first | apply Kd.R_alloc | apply Kd.R_drewN | apply Kd.R_drew)); exact HO197.out) hb); have n2_ := Aside0.mk (Kd.R_lower (Kd.R_new' ho106 (Kd.R_lt (by (with_reducible repeat (first | apply Kd.R_alloc | apply Kd.R_drewN | apply Kd.R_drew)); exact HO194.out))) (below_size belS)); have n3_ := Aside0.mk (blk_below (g := gb176) (o := .cells #[.int .i64 a0_0, .int .i64 a0_1, .int .i64 a0_2, .int .i64 a0_3, .string a0_4, .string a0_5, .string a0_6, .string a0_7, .string a0_8, .string a0_9, .string a0_10] 23 (0, 0)) (by refine bY ?_; exact BK176.out) hb); have n4_ := Aside0.mk (blk_below (g := gb180) (o := .cells #[.int .i64 a0_0, .int .i64 a0_1, .int .i64 a0_2, .int .i64 a0_3, .string a0_4, .string a1, .string a0_6, .string a0_7, .string a0_8, .string a0_9, .string a0_10] 23 (0, 0)) (by refine bY ?_; exact BK180.out) hb); have n5_ := Aside0.mk (blk_below (g := gb181) (o := .cells #[.int .i64 a0_0, .int .i64 a0_1, .int .i64 a0_2, .int .i64 a0_3, .string a0_4, .string a2, .string a0_6, .string a0_7, .string a0_8, .string a0_9, .string a0_10] 23 (0, 0)) (by refine bY ?_; exact BK181.out) hb); have n6_ := Aside0.mk (below_step belS hb); clear HO194; clear HO197; clear BK176; clear BK180; clear BK181; clear HB; have HO194 := n0_; have HO197 := n1_; have HO201 := n2_; have BK176 := n3_; have BK180 := n4_; have BK181 := n5_; have HB := n6_; clear n0_ n1_ n2_ n3_ n4_ n5_ n6_; clear hb ho106; obtain ⟨Ao107, co107, eo107⟩ := Kd.R_slice HO201.out; subst eo107) | ((with_reducible refine gate_callee (f := 9) rfl ?_); refine goesL_ (some 75) rfl rfl Tryd.func9 (by kernel_rfl) rfl #[.string t190, .agg #[.int .i64 2, .slice Ao107 y199.length co107]] rfl (by (try simp only [List.map_toArray, List.map_cons, List.map_nil]); first | done | rfl | (simp only [List.length_drop, List.length_take]; rfl)) ?_; (with_reducible refine (impl_Mounts.calls t190 2 _ _ y199 t202 t205 _ ?side1 ?side2 A67.out).mono ?_); (case side1 => repeat (first | exact (Kd.R_reads' HO201.out).2.2 | (with_reducible refine Kd.C_alloc ?_ _) | (with_reducible refine Kd.C_drewN ?_ _) | (with_reducible refine Kd.C_drew ?_))); (case side2 => exact (Kd.R_reads' HO201.out).2.1); rintro e w108 ⟨v203, rfl, ho0, hb⟩; refine ⟨_, rfl, ?_⟩; have n0_ := Aside0.mk (Kd.R_below (by (with_reducible repeat (first | apply Kd.R_alloc | apply Kd.R_drewN | apply Kd.R_drew)); exact HO194.out) hb); have n1_ := Aside0.mk (Kd.R_elder' (by (with_reducible repeat (first | apply Kd.R_alloc | apply Kd.R_drewN | apply Kd.R_drew)); exact HO197.out) (Kd.R_base ho0) hb); have n2_ := Aside0.mk (Kd.R_below (by (with_reducible repeat (first | apply Kd.R_alloc | apply Kd.R_drewN | apply Kd.R_drew)); exact HO201.out) hb); have n3_ := Aside0.mk (Kd.R_lower (Kd.R_newB (Kd.R_newB (Kd.R_newB (Kd.R_new' ho0 (Kd.R_lt (by (with_reducible repeat (first | apply Kd.R_alloc | apply Kd.R_drewN | apply Kd.R_drew)); exact HO197.out))) (g := gb176) (o := .cells #[.int .i64 a0_0, .int .i64 a0_1, .int .i64 a0_2, .int .i64 a0_3, .string a0_4, .string a0_5, .string a0_6, .string a0_7, .string a0_8, .string a0_9, .string a0_10] 23 (0, 0)) (by refine bY ?_; exact BK176.out)) (g := gb180) (o := .cells #[.int .i64 a0_0, .int .i64 a0_1, .int .i64 a0_2, .int .i64 a0_3, .string a0_4, .string a1, .string a0_6, .string a0_7, .string a0_8, .string a0_9, .string a0_10] 23 (0, 0)) (by refine bY ?_; exact BK180.out)) (g := gb181) (o := .cells #[.int .i64 a0_0, .int .i64 a0_1, .int .i64 a0_2, .int .i64 a0_3, .string a0_4, .string a2, .string a0_6, .string a0_7, .string a0_8, .string a0_9, .string a0_10] 23 (0, 0)) (by refine bY ?_; exact BK181.out)) (below_size belS)); have n4_ := Aside0.mk (blk_below (g := gb176) (o := .cells #[.int .i64 a0_0, .int .i64 a0_1, .int .i64 a0_2, .int .i64 a0_3, .string a0_4, .string a0_5, .string a0_6, .string a0_7, .string a0_8, .string a0_9, .string a0_10] 23 (0, 0)) (by refine bY ?_; exact BK176.out) hb); have n5_ := Aside0.mk (blk_below (g := gb180) (o := .cells #[.int .i64 a0_0, .int .i64 a0_1, .int .i64 a0_2, .int .i64 a0_3, .string a0_4, .string a1, .string a0_6, .string a0_7, .string a0_8, .string a0_9, .string a0_10] 23 (0, 0)) (by refine bY ?_; exact BK180.out) hb); have n6_ := Aside0.mk (blk_below (g := gb181) (o := .cells #[.int .i64 a0_0, .int .i64 a0_1, .int .i64 a0_2, .int .i64 a0_3, .string a0_4, .string a2, .string a0_6, .string a0_7, .string a0_8, .string a0_9, .string a0_10] 23 (0, 0)) (by refine bY ?_; exact BK181.out) hb); have n7_ := Aside0.mk (below_step belS hb); clear HO194; clear HO197; clear HO201; clear BK176; clear BK180; clear BK181; clear HB; have HO194 := n0_; have HO197 := n1_; have HO201 := n2_; have HO204 := n3_; have BK176 := n4_; have BK180 := n5_; have BK181 := n6_; have HB := n7_; clear n0_ n1_ n2_ n3_ n4_ n5_ n6_ n7_; (try clear hb); (try clear hb2); (try clear hk); (try clear hi); (try clear ho0)))
           go_ret
           exact ⟨by first | rfl | (simp [errW_none, errW_some] <;> rfl) | (simp [*, errW_none, errW_some] <;> rfl), by repeat (first | (with_reducible first | exact HB.out | apply below_alloc | apply pw_below_drewN | apply below_drew1 | refine below_set ?_ GE176.out | refine below_set ?_ GE180.out | refine below_set ?_ GE181.out) | exact HB.out)⟩

end Go.Proofs.YtokojamaigebaaaDoor.L
