-- written by a program of this session (wip/tools/pp.py)
import Derived.Test.YtdmpbaanonafbaaGreatDoorB0
import Derived.Test.YtdmpbaanonafbaaGreatDoorB1
namespace Go.Proofs.YtdmpbaanonafbaaGreatDoor.B
open Go.RowKit Go.Proofs.YtdmpbaanonafbaaGreatDoorW.PrintWords Go.Proofs.YtdmpbaanonafbaaGreatDoorW.PrintLast Go.Proofs.YtdmpbaanonafbaaGreatDoor.Flt Go.Proofs.YtdmpbaanonafbaaGreatDoor.GivZ Go.Proofs.YtdmpbaanonafbaaGreatDoor.E Go.Proofs.YtdmpbaanonafbaaGreatDoor.GivPW Go.Proofs.YtdmpbaanonafbaaGreatDoorW.PrintMore
attribute [local go_sem] max2_int min2_int max_two min_two max_three min_three max_four min_four   -- for this text's walks alone
set_option linter.unusedVariables false
set_option linter.unusedSimpArgs false

/-! ### procfs_BuddyInfo___BuddyInfo: function 63 -/
def procfs_BuddyInfo___BuddyInfo.l0 : Nat → List (S79) → Int → Int → ByteArray → Int → Bool → Int → Int → Nat → ByteArray → List (S35) → Option (ByteArray × Int × Bool × Int × Int × Nat × ByteArray × (List (S35)))
 | 0, _, _, _, _, _, _, _, _, _, _, _ => none
 | k + 1, x12, x13, x14, x156000, x156001, x156002, x156003, x156004, x156005, x156006, x156007 => if x14 < x13 then (if 0 ≤ x14 then (if x14 < (x12.length : Int) then ((impl_Buddyinfo_1_1.f k ((rd_T79 x12 x14).f0) ((rd_T79 x12 x14).f1) ((rd_T79 x12 x14).f2)).bind fun bt158 => (if x156007.length < 1466015503701 then (procfs_BuddyInfo___BuddyInfo.l0 k x12 x13 (wrap64 (x14 + 1)) x156000 x156001 x156002 x156003 x156004 x156005 x156006 (x156007 ++ [(⟨bt158.1, bt158.2.1, bt158.2.2.1, bt158.2.2.2.1, bt158.2.2.2.2.1, bt158.2.2.2.2.2.1, bt158.2.2.2.2.2.2.1, bt158.2.2.2.2.2.2.2⟩ : S35)])) else (none))) else (none)) else (none)) else (some (x156000, x156001, x156002, x156003, x156004, x156005, x156006, x156007))
def procfs_BuddyInfo___BuddyInfo.f (k : Nat) (a0 : ByteArray) (l1 : List (S79))  : Option (ByteArray × Int × Bool × Int × Int × Nat × ByteArray × (List (S35))) := procfs_BuddyInfo___BuddyInfo.l0 k l1 (l1.length : Int) 0 a0 6 false 0 0 0 (⟨#[]⟩ : ByteArray) ([] : List (S35))
theorem procfs_BuddyInfo___BuddyInfo.mono_l : ∀ k, (∀ y0 y1 y2 y3 y4 y5 y6 y7 y8 y9 y10, LeO (procfs_BuddyInfo___BuddyInfo.l0 k y0 y1 y2 y3 y4 y5 y6 y7 y8 y9 y10) (procfs_BuddyInfo___BuddyInfo.l0 (k + 1) y0 y1 y2 y3 y4 y5 y6 y7 y8 y9 y10))
 | 0 => fun _ _ _ _ _ _ _ _ _ _ _ r h => by simp [procfs_BuddyInfo___BuddyInfo.l0] at h
 | k + 1 => by
  have ih0 := procfs_BuddyInfo___BuddyInfo.mono_l k
  ·intro y0 y1 y2 y3 y4 y5 y6 y7 y8 y9 y10
   unfold procfs_BuddyInfo___BuddyInfo.l0
   repeat' first
   | (with_reducible exact ih0 _ _ _ _ _ _ _ _ _ _ _)
   | (with_reducible exact impl_Buddyinfo_1_1.mono _ _ _ _)
   | (with_reducible exact LeO.refl _)
   | (with_reducible exact LeO.none _)
   | (with_reducible refine LeO.ite ?_ ?_)
   | (with_reducible refine LeO.bind ?_ (fun _ => ?_))
   | exact ih0 _ _ _ _ _ _ _ _ _ _ _
   | exact impl_Buddyinfo_1_1.mono _ _ _ _
   | exact LeO.none _
   | refine LeO.ite ?_ ?_
   | refine LeO.bind ?_ (fun _ => ?_)
theorem procfs_BuddyInfo___BuddyInfo.mono : ∀ a0 a1 k, LeO (procfs_BuddyInfo___BuddyInfo.f k a0 a1) (procfs_BuddyInfo___BuddyInfo.f (k + 1) a0 a1) := by
 intro a0 a1 k
 have ih0 := procfs_BuddyInfo___BuddyInfo.mono_l k
 unfold procfs_BuddyInfo___BuddyInfo.f
 repeat' first
   | (with_reducible exact ih0 _ _ _ _ _ _ _ _ _ _ _)
   | (with_reducible exact impl_Buddyinfo_1_1.mono _ _ _ _)
   | (with_reducible exact LeO.refl _)
   | (with_reducible exact LeO.none _)
   | (with_reducible refine LeO.ite ?_ ?_)
   | (with_reducible refine LeO.bind ?_ (fun _ => ?_))
   | exact ih0 _ _ _ _ _ _ _ _ _ _ _
   | exact impl_Buddyinfo_1_1.mono _ _ _ _
   | exact LeO.none _
   | refine LeO.ite ?_ ?_
   | refine LeO.bind ?_ (fun _ => ?_)
def procfs_BuddyInfo___BuddyInfo.T5 : Bool × List (List Nat × List Nat) := (true, [([], []), ([0], [0]), ([], []), ([], []), ([2, 3], [2, 3]), ([4], [4]), ([1, 5, 4], [1, 5]), ([0, 1, 2, 3, 4, 5, 6], []), ([7, 6, 6, 0, 1, 2, 3, 4, 5, 6], [6, 7])])
def procfs_BuddyInfo___BuddyInfo.B5 : List Nat := [0, 1, 0, 0, 12, 28, 63, 127, 255]
theorem procfs_BuddyInfo___BuddyInfo.tab5 : rtab .any (opsOf Tryz.f63 5) = procfs_BuddyInfo___BuddyInfo.T5 := by kernel_rfl
theorem procfs_BuddyInfo___BuddyInfo.bits5 : waitsOk procfs_BuddyInfo___BuddyInfo.T5.2 procfs_BuddyInfo___BuddyInfo.B5 = true := by kernel_rfl
set_option maxHeartbeats 8000000 in
set_option maxRecDepth 100000 in
theorem procfs_BuddyInfo___BuddyInfo.calls (k : Nat) (a0 : ByteArray) (A1 : Option Addr) (c1 : Nat) (l1 : List (S79))  (r1 : ByteArray) (r2 : Int) (r3 : Bool) (r4 : Int) (r5 : Int) (r6 : Nat) (r7 : ByteArray) (r8 : List (S35)) (w : World) (hr1 : Kd.C k79 w A1 l1.length l1) (hc1 : l1.length ≤ c1) (h : procfs_BuddyInfo___BuddyInfo.f k a0 l1 = some (r1, r2, r3, r4, r5, r6, r7, r8)) :
  Calls Tryz.prog 63 #[.string a0, .slice A1 l1.length c1, .func (.func 64) #[] #[]] w fun e w' => ∃ v7_ : Value, e = .returned (.agg #[.string r1, .int .i64 r2, .bool r3, .int .i64 r4, .int .u64 r5, .float .f64 r6, .string r7, v7_]) ∧ Kd.R k35 35 w' w.heap.size (fun _ => True) v7_ r8 ∧ Below w.heap.size w w' := by
 have hu35 := Tryz.underlying35
 have hu79 := Tryz.underlying79
 have HR1 := Aside0.mk hr1
 have HC1 := Aside0.mk hc1
 clear hr1 hc1
 have HB := Aside0.mk (Below.refl w.heap.size w)
 have H : (procfs_BuddyInfo___BuddyInfo.l0 k l1 (l1.length : Int) 0 a0 6 false 0 0 0 (⟨#[]⟩ : ByteArray) ([] : List (S35))) = some (r1, r2, r3, r4, r5, r6, r7, r8) := h
 clear h
 have H' := Aside0.mk H
 clear H
 go_enter Tryz.func63, Tryz.ntmps63
 go_wp2_with (first | ((with_reducible refine gate_dst (N := 6) rfl ?_); refine box_event ?hg (N := 6) ?hd (cs := #[.string (⟨#[]⟩ : ByteArray), .int .i64 0, .bool false, .int .i64 0, .int .u64 0, .float .f64 0, .string (⟨#[]⟩ : ByteArray), .slice none 0 0]) (t := 35) ?hr ?_; (case hd => rfl); (case hg => rfl); (case hr => first | (go_simp; done) | (go_simp; rfl)); intro gb154 hg w4 hbox hb; have n0_ := Aside0.mk (below_step belH hb); have n1_ := Aside0.mk (hbox); have n2_ := Aside0.mk ((by rw [hg]; exact (below_size belH) : w.heap.size ≤ gb154)); have n3_ := Aside0.mk ((by rw [hg]; exact (below_size belH) : w.heap.size ≤ gb154)); clear HB; have HB := n0_; have BK154 := n1_; have GW154 := n2_; have GE154 := n3_; clear n0_ n1_ n2_ n3_; clear hb hbox hg) | ((with_reducible refine gate_dst (N := 7) rfl ?_); refine box_event ?hg (N := 7) ?hd (cs := #[.string (⟨#[]⟩ : ByteArray), .int .i64 0, .bool false, .int .i64 0, .int .u64 0, .float .f64 0, .string (⟨#[]⟩ : ByteArray), .slice none 0 0]) (t := 35) ?hr ?_; (case hd => rfl); (case hg => rfl); (case hr => first | (go_simp; done) | (go_simp; rfl)); intro gb155 hg w5 hbox hb; have n0_ := Aside0.mk (blk_below (g := gb154) (o := .cells #[.string (⟨#[]⟩ : ByteArray), .int .i64 0, .bool false, .int .i64 0, .int .u64 0, .float .f64 0, .string (⟨#[]⟩ : ByteArray), .slice none 0 0] 35 (0, 0)) (by refine bY ?_; exact BK154.out) hb); have n1_ := Aside0.mk (below_step belS hb); have n2_ := Aside0.mk (hbox); have n3_ := Aside0.mk ((by rw [hg]; exact (below_size belS) : w.heap.size ≤ gb155)); have n4_ := Aside0.mk ((by rw [hg]; exact (below_size belS) : w.heap.size ≤ gb155)); have n5_ := Aside0.mk ((by rw [hg]; exact Nat.ne_of_lt (blk_lt (g := gb154) (o := .cells #[.string (⟨#[]⟩ : ByteArray), .int .i64 0, .bool false, .int .i64 0, .int .u64 0, .float .f64 0, .string (⟨#[]⟩ : ByteArray), .slice none 0 0] 35 (0, 0)) (by refine bY ?_; exact BK154.out)) : gb154 ≠ gb155)); have n6_ := Aside0.mk ((by rw [hg]; exact Nat.ne_of_gt (blk_lt (g := gb154) (o := .cells #[.string (⟨#[]⟩ : ByteArray), .int .i64 0, .bool false, .int .i64 0, .int .u64 0, .float .f64 0, .string (⟨#[]⟩ : ByteArray), .slice none 0 0] 35 (0, 0)) (by refine bY ?_; exact BK154.out)) : gb155 ≠ gb154)); clear BK154; clear HB; have BK154 := n0_; have HB := n1_; have BK155 := n2_; have GW155 := n3_; have GE155 := n4_; have NB154_155 := n5_; have NB155_154 := n6_; clear n0_ n1_ n2_ n3_ n4_ n5_ n6_; clear hb hbox hg; have hnb6 := NB155_154.out; have hnc6 := NB154_155.out; obtain ⟨hcz7_0, hcz7_1, hcz7_2, hcz7_3, hcz7_4, hcz7_5, hcz7_6, hcz7_7, hfz7_0, hfz7_1, hfz7_2, hfz7_3, hfz7_4, hfz7_5, hfz7_6, hfz7_7⟩ := rows8 (w := w5) BK155))
 go_loopg [14] k (fun kq v14 w' => ∃ (x14_1 : Int) (x156007_1 : List (S35)) (u156007 : Value), v14 = .int .i64 x14_1 ∧ Aside0 (procfs_BuddyInfo___BuddyInfo.l0 kq l1 (l1.length : Int) x14_1 a0 6 false 0 0 0 (⟨#[]⟩ : ByteArray) x156007_1 = some (r1, r2, r3, r4, r5, r6, r7, r8)) ∧ Aside0 (kq ≤ k) ∧ Aside0 (Kd.R k35 35 w' w.heap.size (fun k_ => k_ ≠ gb154 ∧ k_ ≠ gb155) u156007 x156007_1) ∧ Aside0 (w'.heap[gb154]? = some (.cells #[.string (⟨#[]⟩ : ByteArray), .int .i64 0, .bool false, .int .i64 0, .int .u64 0, .float .f64 0, .string (⟨#[]⟩ : ByteArray), (.slice none 0 0)] 35 (0, 0))) ∧ Aside0 (w'.heap[gb155]? = some (.cells #[.string a0, .int .i64 6, .bool false, .int .i64 0, .int .u64 0, .float .f64 0, .string (⟨#[]⟩ : ByteArray), u156007] 35 (0, 0))) ∧ Aside0 (Below w.heap.size w w'))
 case atStart => exact ⟨(0), (([] : List (S35))), (.slice none 0 0), (by first | rfl | (simp; done) | (simp [*]; done) | (simp [bne_nil]; done) | (simp [bne_nil, *]; done)), H', ⟨Nat.le_refl _⟩, ⟨by first | exact Kd.R_nil _ _ _ _ _ | exact Kd.N_nil _ _ _ _ _ | exact Kd.V_nil _ _ _ _ _ | exact Kd.Q_nil _ _ _ _ _ | exact Kd.S_nil _ _ _ _ _⟩, ⟨by refine bY ?_; refine blk_far ?_ NB154_155.out _; refine bY ?_; refine blk_far ?_ NB154_155.out _; refine bY ?_; refine blk_far ?_ NB154_155.out _; refine bY ?_; refine blk_far ?_ NB154_155.out _; refine bY ?_; refine blk_far ?_ NB154_155.out _; refine bY ?_; refine blk_far ?_ NB154_155.out _; refine bY ?_; refine blk_far ?_ NB154_155.out _; refine bY ?_; refine blk_far ?_ NB154_155.out _; refine bY ?_; exact BK154.out⟩, ⟨by refine bY ?_; exact blk_put8 BK155.out⟩, ⟨by repeat (first | (with_reducible first | exact HB.out | apply below_alloc | apply pw_below_drewN | apply below_drew1 | refine below_set ?_ GE154.out | refine below_set ?_ GE155.out) | exact HB.out)⟩⟩
 case round =>
  clear H'
  try clear c1
  try clear p2
  try clear c6
  try clear hcz7_0
  try clear hcz7_1
  try clear hcz7_2
  try clear hcz7_3
  try clear hcz7_4
  try clear hcz7_5
  try clear hcz7_6
  try clear hcz7_7
  try clear hfz7_0
  try clear hfz7_1
  try clear hfz7_2
  try clear hfz7_3
  try clear hfz7_4
  try clear hfz7_5
  try clear hfz7_6
  try clear hfz7_7
  obtain ⟨x14_1, x156007_1, u156007, rfl, HA, HK1, HO_156007, BK154, BK155, HB⟩ := hrel
  cases gk with
  | zero => exact absurd HA.out (by simp [procfs_BuddyInfo___BuddyInfo.l0])
  | succ k1 =>
   have H := HA.out
   clear HA
   simp only [procfs_BuddyInfo___BuddyInfo.l0] at H
   by_cases c8 : x14_1 < (l1.length : Int)
   ·rw [if_pos c8] at H
    have c8b0 : decide (x14_1 < (l1.length : Int)) = true := decide_eq_true c8
    clear c8
    by_cases c9 : 0 ≤ x14_1
    ·rw [if_pos c9] at H
     have c9b0 : decide (0 ≤ x14_1) = true := decide_eq_true c9
     clear c9
     by_cases c10 : x14_1 < (l1.length : Int)
     ·rw [if_pos c10] at H
      have c10b0 : decide (x14_1 < (l1.length : Int)) = true := decide_eq_true c10
      clear c10
      replace H := Option.bind_eq_some_iff.mp H
      obtain ⟨⟨t158, t159, t160, t161, t162, t163, t164, t165⟩, A110, H⟩ := H
      have A11 := Aside0.mk A110
      clear A110
      by_cases c12 : x156007_1.length < 1466015503701
      ·rw [if_pos c12] at H
       have LMc12 := Aside0.mk c12
       clear c12
       obtain ⟨y168, hy168⟩ : ∃ y_ : List (S35), y_ = (x156007_1 ++ [(⟨t158, t159, t160, t161, t162, t163, t164, t165⟩ : S35)]) := ⟨_, rfl⟩
       replace H : (procfs_BuddyInfo___BuddyInfo.l0 k1 l1 (l1.length : Int) (wrap64 (x14_1 + 1)) a0 6 false 0 0 0 (⟨#[]⟩ : ByteArray) y168) = some (r1, r2, r3, r4, r5, r6, r7, r8) := by first | (rw [hy168]; with_reducible exact H) | (have H2_ := (Option.bind_some _ _).symm.trans H; rw [hy168]; with_reducible exact H2_) | (have H2_ := (Option.bind_some _ _).symm.trans H; with_reducible exact H2_) | with_reducible exact H | (rw [hy168]; exact H) | exact H
       have Ny168 := Aside0.mk hy168
       clear hy168
       have H' := Aside0.mk H
       clear H
       have p156 : 0 ≤ (x14_1 : Int) := of_decide_eq_true (by first | (with_reducible assumption) | assumption)
       have q156 : x14_1 < (l1.length : Int) := of_decide_eq_true (by first | (with_reducible assumption) | assumption)
       obtain ⟨ad156, A156_2, c156_2, e156, hx156_0, hx156_1, hx156_2, hl156_2, hi156_2⟩ := at_T79 HR1.out x14_1 p156 q156
       cases e156
       replace hx156_0 := (HB.out.cell (World.block_lt_of_cell? w _ hx156_0)).trans hx156_0
       replace hx156_1 := (HB.out.cell (World.block_lt_of_cell? w _ hx156_1)).trans hx156_1
       replace hx156_2 := (HB.out.cell (World.block_lt_of_cell? w _ hx156_2)).trans hx156_2
       have HR156_2 := Aside0.mk hi156_2
       have HC156_2 := Aside0.mk hl156_2
       clear hi156_2 hl156_2
       replace p156 := eq_true p156
       replace q156 := eq_true q156
       try go_wp2_with (first | ((with_reducible refine gate_dst (N := 9) rfl ?_); refine box_event ?hg (N := 9) ?hd (cs := #[.string (⟨#[]⟩ : ByteArray), .string (⟨#[]⟩ : ByteArray), .slice none 0 0]) (t := 79) ?hr ?_; (case hd => rfl); (case hg => rfl); (case hr => first | (go_simp; done) | (go_simp; rfl)); intro gb157 hg w13 hbox hb; have n0_ := Aside0.mk (Kd.R_below (by (with_reducible repeat (first | apply Kd.R_alloc | apply Kd.R_drewN | apply Kd.R_drew)); exact HO_156007.out) hb); have n1_ := Aside0.mk (blk_below (g := gb154) (o := .cells #[.string (⟨#[]⟩ : ByteArray), .int .i64 0, .bool false, .int .i64 0, .int .u64 0, .float .f64 0, .string (⟨#[]⟩ : ByteArray), .slice none 0 0] 35 (0, 0)) (by refine bY ?_; exact BK154.out) hb); have n2_ := Aside0.mk (blk_below (g := gb155) (o := .cells #[.string a0, .int .i64 6, .bool false, .int .i64 0, .int .u64 0, .float .f64 0, .string (⟨#[]⟩ : ByteArray), u156007] 35 (0, 0)) (by refine bY ?_; exact BK155.out) hb); have n3_ := Aside0.mk (below_step belS hb); have n4_ := Aside0.mk (hbox); have n5_ := Aside0.mk ((by rw [hg]; exact (below_size belS) : w.heap.size ≤ gb157)); have n6_ := Aside0.mk ((by rw [hg]; exact (below_size belS) : w.heap.size ≤ gb157)); have n7_ := Aside0.mk ((by rw [hg]; exact Nat.ne_of_lt (blk_lt (g := gb154) (o := .cells #[.string (⟨#[]⟩ : ByteArray), .int .i64 0, .bool false, .int .i64 0, .int .u64 0, .float .f64 0, .string (⟨#[]⟩ : ByteArray), .slice none 0 0] 35 (0, 0)) (by refine bY ?_; exact BK154.out)) : gb154 ≠ gb157)); have n8_ := Aside0.mk ((by rw [hg]; exact Nat.ne_of_gt (blk_lt (g := gb154) (o := .cells #[.string (⟨#[]⟩ : ByteArray), .int .i64 0, .bool false, .int .i64 0, .int .u64 0, .float .f64 0, .string (⟨#[]⟩ : ByteArray), .slice none 0 0] 35 (0, 0)) (by refine bY ?_; exact BK154.out)) : gb157 ≠ gb154)); have n9_ := Aside0.mk ((by rw [hg]; exact Nat.ne_of_lt (blk_lt (g := gb155) (o := .cells #[.string a0, .int .i64 6, .bool false, .int .i64 0, .int .u64 0, .float .f64 0, .string (⟨#[]⟩ : ByteArray), u156007] 35 (0, 0)) (by refine bY ?_; exact BK155.out)) : gb155 ≠ gb157)); have n10_ := Aside0.mk ((by rw [hg]; exact Nat.ne_of_gt (blk_lt (g := gb155) (o := .cells #[.string a0, .int .i64 6, .bool false, .int .i64 0, .int .u64 0, .float .f64 0, .string (⟨#[]⟩ : ByteArray), u156007] 35 (0, 0)) (by refine bY ?_; exact BK155.out)) : gb157 ≠ gb155)); clear HO_156007; clear BK154; clear BK155; clear HB; have HO_156007 := n0_; have BK154 := n1_; have BK155 := n2_; have HB := n3_; have BK157 := n4_; have GW157 := n5_; have GE157 := n6_; have NB154_157 := n7_; have NB157_154 := n8_; have NB155_157 := n9_; have NB157_155 := n10_; clear n0_ n1_ n2_ n3_ n4_ n5_ n6_ n7_ n8_ n9_ n10_; clear hb hbox hg; have hnb14 := NB157_154.out; have hnc14 := NB154_157.out; have hnb15 := NB157_155.out; have hnc15 := NB155_157.out; obtain ⟨hcz16_0, hcz16_1, hcz16_2, hfz16_0, hfz16_1, hfz16_2⟩ := rows3 (w := w13) BK157))
       have n0_ : Aside0 (Kd.R k35 35 (((w13.setCell ⟨gb157, 0, none⟩ (.string ((rd_T79 l1 x14_1).f0))).setCell ⟨gb157, 1, none⟩ (.string ((rd_T79 l1 x14_1).f1))).setCell ⟨gb157, 2, none⟩ (.slice A156_2 ((rd_T79 l1 x14_1).f2).length c156_2)) w.heap.size (fun k_ => k_ ≠ gb154 ∧ k_ ≠ gb155) u156007 x156007_1) := ⟨by (with_reducible repeat (first | apply Kd.R_alloc | apply Kd.R_drewN | apply Kd.R_drew)); exact Kd.R_mono (Kd.R_far (p := ⟨gb157, 2, none⟩) (Kd.R_far (p := ⟨gb157, 1, none⟩) (Kd.R_far (p := ⟨gb157, 0, none⟩) (Kd.R_types HO_156007.out BK157.out (by decide)) (fun _ hk => hk.2) (.string ((rd_T79 l1 x14_1).f0))) (fun _ hk => hk.2) (.string ((rd_T79 l1 x14_1).f1))) (fun _ hk => hk.2) (.slice A156_2 ((rd_T79 l1 x14_1).f2).length c156_2)) (fun _ hk => ⟨hk.1.1, hk.1.2⟩)⟩
       have n1_ : Aside0 ((((w13.setCell ⟨gb157, 0, none⟩ (.string ((rd_T79 l1 x14_1).f0))).setCell ⟨gb157, 1, none⟩ (.string ((rd_T79 l1 x14_1).f1))).setCell ⟨gb157, 2, none⟩ (.slice A156_2 ((rd_T79 l1 x14_1).f2).length c156_2)).heap[gb154]? = some (.cells #[.string (⟨#[]⟩ : ByteArray), .int .i64 0, .bool false, .int .i64 0, .int .u64 0, .float .f64 0, .string (⟨#[]⟩ : ByteArray), .slice none 0 0] 35 (0, 0))) := ⟨by refine bY ?_; refine blk_far ?_ NB154_157.out _; refine bY ?_; refine blk_far ?_ NB154_157.out _; refine bY ?_; refine blk_far ?_ NB154_157.out _; refine bY ?_; exact BK154.out⟩
       have n2_ : Aside0 ((((w13.setCell ⟨gb157, 0, none⟩ (.string ((rd_T79 l1 x14_1).f0))).setCell ⟨gb157, 1, none⟩ (.string ((rd_T79 l1 x14_1).f1))).setCell ⟨gb157, 2, none⟩ (.slice A156_2 ((rd_T79 l1 x14_1).f2).length c156_2)).heap[gb155]? = some (.cells #[.string a0, .int .i64 6, .bool false, .int .i64 0, .int .u64 0, .float .f64 0, .string (⟨#[]⟩ : ByteArray), u156007] 35 (0, 0))) := ⟨by refine bY ?_; refine blk_far ?_ NB155_157.out _; refine bY ?_; refine blk_far ?_ NB155_157.out _; refine bY ?_; refine blk_far ?_ NB155_157.out _; refine bY ?_; exact BK155.out⟩
       have n3_ : Aside0 ((((w13.setCell ⟨gb157, 0, none⟩ (.string ((rd_T79 l1 x14_1).f0))).setCell ⟨gb157, 1, none⟩ (.string ((rd_T79 l1 x14_1).f1))).setCell ⟨gb157, 2, none⟩ (.slice A156_2 ((rd_T79 l1 x14_1).f2).length c156_2)).heap[gb157]? = some (.cells #[.string ((rd_T79 l1 x14_1).f0), .string ((rd_T79 l1 x14_1).f1), .slice A156_2 ((rd_T79 l1 x14_1).f2).length c156_2] 79 (0, 0))) := ⟨by refine bY ?_; refine blk_put (cs := #[.string ((rd_T79 l1 x14_1).f0), .string ((rd_T79 l1 x14_1).f1), .slice none 0 0]) ?_ 2 _ rfl; refine bY ?_; refine blk_put (cs := #[.string ((rd_T79 l1 x14_1).f0), .string (⟨#[]⟩ : ByteArray), .slice none 0 0]) ?_ 1 _ rfl; refine bY ?_; refine blk_put (cs := #[.string (⟨#[]⟩ : ByteArray), .string (⟨#[]⟩ : ByteArray), .slice none 0 0]) ?_ 0 _ rfl; refine bY ?_; exact BK157.out⟩
       have n4_ : Aside0 (Below w.heap.size w (((w13.setCell ⟨gb157, 0, none⟩ (.string ((rd_T79 l1 x14_1).f0))).setCell ⟨gb157, 1, none⟩ (.string ((rd_T79 l1 x14_1).f1))).setCell ⟨gb157, 2, none⟩ (.slice A156_2 ((rd_T79 l1 x14_1).f2).length c156_2))) := ⟨by repeat (first | (with_reducible first | exact HB.out | apply below_alloc | apply pw_below_drewN | apply below_drew1 | refine below_set ?_ GE154.out | refine below_set ?_ GE155.out | refine below_set ?_ GE157.out) | exact HB.out)⟩
       (try clear HO_156007)
       (try clear BK154)
       (try clear BK155)
       (try clear BK157)
       (try clear HB)
       generalize (((w13.setCell ⟨gb157, 0, none⟩ (.string ((rd_T79 l1 x14_1).f0))).setCell ⟨gb157, 1, none⟩ (.string ((rd_T79 l1 x14_1).f1))).setCell ⟨gb157, 2, none⟩ (.slice A156_2 ((rd_T79 l1 x14_1).f2).length c156_2)) = w17 at n0_ n1_ n2_ n3_ n4_ ⊢
       have HO_156007 := n0_
       have BK154 := n1_
       have BK155 := n2_
       have BK157 := n3_
       have HB := n4_
       clear n0_ n1_ n2_ n3_ n4_
       have n0_ := Aside0.mk (Kd.R_drew HO_156007.out)
       have n1_ := Aside0.mk (blk_drew BK154.out)
       have n2_ := Aside0.mk (blk_drew BK155.out)
       have n3_ := Aside0.mk (blk_drew BK157.out)
       have n4_ := Aside0.mk (below_drew1 HB.out)
       clear HO_156007
       clear BK154
       clear BK155
       clear BK157
       clear HB
       have HO_156007 := n0_
       have BK154 := n1_
       have BK155 := n2_
       have BK157 := n3_
       have HB := n4_
       clear n0_ n1_ n2_ n3_ n4_
       refine start_ (n := 9) (S := fun w' => w'.cell? ⟨gb155, 0, none⟩ = some (.string a0) ∧ w'.cell? ⟨gb155, 1, none⟩ = some (.int .i64 6) ∧ w'.cell? ⟨gb155, 2, none⟩ = some (.bool false) ∧ w'.cell? ⟨gb155, 3, none⟩ = some (.int .i64 0) ∧ w'.cell? ⟨gb155, 4, none⟩ = some (.int .u64 0) ∧ w'.cell? ⟨gb155, 5, none⟩ = some (.float .f64 0) ∧ w'.cell? ⟨gb155, 6, none⟩ = some (.string (⟨#[]⟩ : ByteArray)) ∧ w'.cell? ⟨gb155, 7, none⟩ = some (u156007) ∧ w'.cell? ⟨gb157, 0, none⟩ = some (.string ((rd_T79 l1 x14_1).f0)) ∧ w'.cell? ⟨gb157, 1, none⟩ = some (.string ((rd_T79 l1 x14_1).f1)) ∧ w'.cell? ⟨gb157, 2, none⟩ = some (.slice A156_2 ((rd_T79 l1 x14_1).f2).length c156_2)) (ds := [8]) (tfA 0 9) (by kernel_rfl) rfl rfl ⟨(blk_cell BK155.out 0).trans rfl, (blk_cell BK155.out 1).trans rfl, (blk_cell BK155.out 2).trans rfl, (blk_cell BK155.out 3).trans rfl, (blk_cell BK155.out 4).trans rfl, (blk_cell BK155.out 5).trans rfl, (blk_cell BK155.out 6).trans rfl, (blk_cell BK155.out 7).trans rfl, (blk_cell BK157.out 0).trans rfl, (blk_cell BK157.out 1).trans rfl, (blk_cell BK157.out 2).trans rfl⟩ (fun hHeld => ?_); refine with_tabW procfs_BuddyInfo___BuddyInfo.tab5 procfs_BuddyInfo___BuddyInfo.bits5 (fun HT_ HW_ => ?_)
       generalize w17.drew = w18 at HO_156007 BK154 BK155 BK157 HB hHeld ⊢
       refine pure_ (i := 0) (N := some 18) (v := ?_) (a' := ?_) (tfA 1 8) rfl rfl (any_of HT_.out (by kernel_rfl)) (fun _ _ _ h => h) (Or.inl ⟨by rfl, ?_⟩) ?_ ?_
       rotate_left
       ·intro w'
        go_simp
        with_reducible rfl
       rotate_left
       ·simp only [Act.put, sA, s0, s1, i64_w, i32_w]
        rfl
       refine pure_ (i := 2) (N := some 20) (v := ?_) (a' := ?_) (bnA 9 5) rfl rfl (any_of HT_.out (by kernel_rfl)) (fun _ _ _ h => h) (Or.inl ⟨by rfl, ?_⟩) ?_ ?_
       rotate_left
       ·intro w'
        go_simp
        with_reducible rfl
       rotate_left
       ·simp only [Act.put, sA, s0, s1, i64_w, i32_w]
        rfl
       refine take_ (i := 1) (N := some 19) (v := ?_) (a' := ?_) (tfA 3 6) rfl rfl (take_ofW HT_.out HW_.out (by kernel_rfl)) (fun _ _ _ h => h) (Or.inl ⟨by rfl, ?_⟩) hHeld ?_ ?_
       rotate_left
       ·rintro w' ⟨s0, s1, s2, s3, s4, s5, s6, s7, s8, s9, s10⟩
        go_simp
        with_reducible rfl
       rotate_left
       ·simp only [Act.put, sA, s0, s1, i64_w, i32_w]
        rfl
       refine take_ (i := 3) (N := some 21) (v := ?_) (a' := ?_) (tfA 4 5) rfl rfl (take_ofW HT_.out HW_.out (by kernel_rfl)) (fun _ _ _ h => h) (Or.inl ⟨by rfl, ?_⟩) hHeld ?_ ?_
       rotate_left
       ·rintro w' ⟨s0, s1, s2, s3, s4, s5, s6, s7, s8, s9, s10⟩
        go_simp
        with_reducible rfl
       rotate_left
       ·simp only [Act.put, sA, s0, s1, i64_w, i32_w]
        rfl
       refine one_ (i := 4) (N := some 22) (tfA 5 4) rfl rfl (one_of HT_.out (by kernel_rfl)) (by decide) (fun K hK => ?_)
       refine goesV_ Tryz.func64 (by kernel_rfl) rfl #[.agg #[.string ((rd_T79 l1 x14_1).f0), .string ((rd_T79 l1 x14_1).f1), .slice A156_2 ((rd_T79 l1 x14_1).f2).length c156_2]] (by rfl) rfl rfl (by (try simp only [List.map_toArray, List.map_cons, List.map_nil]); first | done | rfl | (simp only [List.length_drop, List.length_take]; rfl)) ?_
       with_reducible refine (impl_Buddyinfo_1_1.calls k1 ((rd_T79 l1 x14_1).f0) ((rd_T79 l1 x14_1).f1) _ _ ((rd_T79 l1 x14_1).f2) t158 t159 t160 t161 t162 t163 t164 t165 _ ?side1 ?side2 A11.out).mono ?_
       (case side1 => repeat (first | exact (Kd.C_below HR156_2.out HB.out) | (with_reducible refine Kd.C_alloc ?_ _) | (with_reducible refine Kd.C_drewN ?_ _) | (with_reducible refine Kd.C_drew ?_)))
       (case side2 => exact HC156_2.out)
       rintro e w19 ⟨v166, rfl, ho0, hb⟩
       refine ⟨_, rfl, ?_⟩
       have n0_ := Aside0.mk (Kd.R_elder' (by (with_reducible repeat (first | apply Kd.R_alloc | apply Kd.R_drewN | apply Kd.R_drew)); exact HO_156007.out) (Kd.R_base ho0) hb)
       have n1_ := Aside0.mk (Kd.R_lower (Kd.R_newB (Kd.R_newB (Kd.R_new' ho0 (Kd.R_lt (by (with_reducible repeat (first | apply Kd.R_alloc | apply Kd.R_drewN | apply Kd.R_drew)); exact HO_156007.out))) (g := gb154) (o := .cells #[.string (⟨#[]⟩ : ByteArray), .int .i64 0, .bool false, .int .i64 0, .int .u64 0, .float .f64 0, .string (⟨#[]⟩ : ByteArray), .slice none 0 0] 35 (0, 0)) (by refine bY ?_; exact BK154.out)) (g := gb155) (o := .cells #[.string a0, .int .i64 6, .bool false, .int .i64 0, .int .u64 0, .float .f64 0, .string (⟨#[]⟩ : ByteArray), u156007] 35 (0, 0)) (by refine bY ?_; exact BK155.out)) (below_size belS))
       have n2_ := Aside0.mk (blk_below (g := gb154) (o := .cells #[.string (⟨#[]⟩ : ByteArray), .int .i64 0, .bool false, .int .i64 0, .int .u64 0, .float .f64 0, .string (⟨#[]⟩ : ByteArray), .slice none 0 0] 35 (0, 0)) (by refine bY ?_; exact BK154.out) hb)
       have n3_ := Aside0.mk (blk_below (g := gb155) (o := .cells #[.string a0, .int .i64 6, .bool false, .int .i64 0, .int .u64 0, .float .f64 0, .string (⟨#[]⟩ : ByteArray), u156007] 35 (0, 0)) (by refine bY ?_; exact BK155.out) hb)
       have n4_ := Aside0.mk (blk_below (g := gb157) (o := .cells #[.string ((rd_T79 l1 x14_1).f0), .string ((rd_T79 l1 x14_1).f1), .slice A156_2 ((rd_T79 l1 x14_1).f2).length c156_2] 79 (0, 0)) (by refine bY ?_; exact BK157.out) hb)
       have n5_ := Aside0.mk (below_step belS hb)
       clear HO_156007
       clear BK154
       clear BK155
       clear BK157
       clear HB
       have HO_156007 := n0_
       have HO167 := n1_
       have BK154 := n2_
       have BK155 := n3_
       have BK157 := n4_
       have HB := n5_
       clear n0_ n1_ n2_ n3_ n4_ n5_
       (try clear hb)
       (try clear hb2)
       (try clear hk)
       (try clear hi)
       (try clear ho0)
       obtain ⟨Ao21, co21, eo21⟩ := Kd.R_slice HO167.out
       (first | subst eo21 | (injection eo21 with f1_ f2_ f3_; have f4_ := f1_.symm; have f5_ := f3_.symm; clear f1_ f2_ f3_; subst f4_; subst f5_))
       refine hK.out _ _ ⟨(blk_cell BK155.out 0).trans rfl, (blk_cell BK155.out 1).trans rfl, (blk_cell BK155.out 2).trans rfl, (blk_cell BK155.out 3).trans rfl, (blk_cell BK155.out 4).trans rfl, (blk_cell BK155.out 5).trans rfl, (blk_cell BK155.out 6).trans rfl, (blk_cell BK155.out 7).trans rfl, (blk_cell BK157.out 0).trans rfl, (blk_cell BK157.out 1).trans rfl, (blk_cell BK157.out 2).trans rfl⟩ (fun hHeld => ?_)
       clear hK K
       refine norm_ (a' := ?_) ?_ ?_
       rotate_left
       ·show Act.put _ (some 22) _ = _
        simp only [Act.put, sA, s0, s1, i64_w, i32_w]
        rfl
       refine one_ (i := 5) (N := some 23) (tfA 6 3) rfl rfl (one_of HT_.out (by kernel_rfl)) (by decide) (fun K hK => ?_)
       refine value_ (w1 := ?_) (v := ?_) (by rfl) rfl ?_ ?_
       rotate_left 2
       ·go_simp
        constructor
        ·rfl
        ·rfl
       refine hK.out _ _ ⟨(blk_cell (blk_alloc BK155.out _) 0).trans rfl, (blk_cell (blk_alloc BK155.out _) 1).trans rfl, (blk_cell (blk_alloc BK155.out _) 2).trans rfl, (blk_cell (blk_alloc BK155.out _) 3).trans rfl, (blk_cell (blk_alloc BK155.out _) 4).trans rfl, (blk_cell (blk_alloc BK155.out _) 5).trans rfl, (blk_cell (blk_alloc BK155.out _) 6).trans rfl, (blk_cell (blk_alloc BK155.out _) 7).trans rfl, (blk_cell (blk_alloc BK157.out _) 0).trans rfl, (blk_cell (blk_alloc BK157.out _) 1).trans rfl, (blk_cell (blk_alloc BK157.out _) 2).trans rfl⟩ (fun hHeld => ?_)
       clear hK K
       refine norm_ (a' := ?_) ?_ ?_
       rotate_left
       ·show Act.put _ (some 23) _ = _
        simp only [Act.put, sA, s0, s1, i64_w, i32_w]
        rfl
       refine one_ (i := 6) (N := some 24) (tfA 7 2) rfl rfl (one_of HT_.out (by kernel_rfl)) (by decide) (fun K hK => ?_)
       refine Kd.R_append_step k35 (w0 := w) w.heap.size (by rfl) (.tmp 19) (.tmp 23) 33 35 (.agg #[(.string ⟨#[]⟩), (.int .i64 0), (.bool false), (.int .i64 0), (.int .u64 0), (.float .f64 0), (.string ⟨#[]⟩), (.slice none 0 0)]) 96 rfl Tryz.underlying33 info35 rfl (by decide) (by omega) u156007 x156007_1 (⟨t158, t159, t160, t161, t162, t163, t164, t165⟩ : S35) [.string t158, .int .i64 t159, .bool t160, .int .i64 t161, .int .u64 t162, .float .f64 t163, .string t164, .slice Ao21 t165.length co21] (fun k_ => k_ ≠ gb154 ∧ k_ ≠ gb155) (fun k_ => ((fun k_ => k_ ≠ gb154 ∧ k_ ≠ gb155)) k_ ∧ some k_ ≠ (u156007 : Value).ownBlock) rfl rfl ?aP (fun _ hk => hk) ?aF ?aO ?aB ?aS ?aL ?_
       (case aP => exact k35_mkM _ _ _ (⟨t158, t159, t160, t161, t162, t163, t164, t165⟩ : S35) (Kd.R_mono (HO167.out) (fun k_ hk => ⟨⟨hk.1.2, hk.2⟩, hk.1.1.2⟩)))
       (case aB => exact belS)
       (case aF => exact (fun k_ hk => ⟨Kd.freshB (g := gb154) (o := .cells #[.string (⟨#[]⟩ : ByteArray), .int .i64 0, .bool false, .int .i64 0, .int .u64 0, .float .f64 0, .string (⟨#[]⟩ : ByteArray), .slice none 0 0] 35 (0, 0)) (by refine bY ?_; exact BK154.out) k_ hk, Kd.freshB (g := gb155) (o := .cells #[.string a0, .int .i64 6, .bool false, .int .i64 0, .int .u64 0, .float .f64 0, .string (⟨#[]⟩ : ByteArray), u156007] 35 (0, 0)) (by refine bY ?_; exact BK155.out) k_ hk⟩))
       (case aO => exact (by (with_reducible repeat (first | apply Kd.R_alloc | apply Kd.R_drewN | apply Kd.R_drew)); exact Kd.R_mono HO_156007.out (fun _ hk => ⟨hk.1.1, hk.1.2⟩)))
       (case aS => exact (below_size belS))
       (case aL => have := LMc12.out; omega)
       intro v169 w20 ho hb hg hat
       rw [← Ny168.out] at ho
       have n0_ := Aside0.mk (blk_grown (g := gb154) (o := .cells #[.string (⟨#[]⟩ : ByteArray), .int .i64 0, .bool false, .int .i64 0, .int .u64 0, .float .f64 0, .string (⟨#[]⟩ : ByteArray), .slice none 0 0] 35 (0, 0)) (by refine bY ?_; exact BK154.out) hg (Kd.R_away HO_156007.out (fun _ hk => hk.1.1)))
       have n1_ := Aside0.mk (blk_grown (g := gb155) (o := .cells #[.string a0, .int .i64 6, .bool false, .int .i64 0, .int .u64 0, .float .f64 0, .string (⟨#[]⟩ : ByteArray), u156007] 35 (0, 0)) (by refine bY ?_; exact BK155.out) hg (Kd.R_away HO_156007.out (fun _ hk => hk.1.2)))
       have n2_ := Aside0.mk (blk_grown (g := gb157) (o := .cells #[.string ((rd_T79 l1 x14_1).f0), .string ((rd_T79 l1 x14_1).f1), .slice A156_2 ((rd_T79 l1 x14_1).f2).length c156_2] 79 (0, 0)) (by refine bY ?_; exact BK157.out) hg (Kd.R_ne HO_156007.out BK157.out (by decide)))
       have n3_ := Aside0.mk (hb)
       have n4_ := Aside0.mk (ho)
       clear BK154
       clear BK155
       clear BK157
       clear HB
       clear HO_156007
       clear HO167
       have BK154 := n0_
       have BK155 := n1_
       have BK157 := n2_
       have HB := n3_
       have HO170 := n4_
       clear n0_ n1_ n2_ n3_ n4_
       clear ho hb hg hat
       obtain ⟨Ao22, co22, eo22⟩ := Kd.R_slice HO170.out
       (first | subst eo22 | (injection eo22 with f1_ f2_ f3_; have f4_ := f1_.symm; have f5_ := f3_.symm; clear f1_ f2_ f3_; subst f4_; subst f5_))
       refine hK.out _ _ ⟨(blk_cell BK155.out 0).trans rfl, (blk_cell BK155.out 1).trans rfl, (blk_cell BK155.out 2).trans rfl, (blk_cell BK155.out 3).trans rfl, (blk_cell BK155.out 4).trans rfl, (blk_cell BK155.out 5).trans rfl, (blk_cell BK155.out 6).trans rfl, (blk_cell BK155.out 7).trans rfl, (blk_cell BK157.out 0).trans rfl, (blk_cell BK157.out 1).trans rfl, (blk_cell BK157.out 2).trans rfl⟩ (fun hHeld => ?_)
       clear hK K
       refine norm_ (a' := ?_) ?_ ?_
       rotate_left
       ·show Act.put _ (some 24) _ = _
        simp only [Act.put, sA, s0, s1, i64_w, i32_w]
        rfl
       refine pure_ (i := 7) (N := some 25) (v := ?_) (a' := ?_) (tfA 8 1) rfl rfl (any_of HT_.out (by kernel_rfl)) (fun _ _ _ h => h) (Or.inl ⟨by rfl, ?_⟩) ?_ ?_
       rotate_left
       ·intro w'
        go_simp
        with_reducible rfl
       rotate_left
       ·simp only [Act.put, sA, s0, s1, i64_w, i32_w]
        rfl
       refine last_ (i := 8) (N := none) (tfA 9 0) rfl rfl (one_of HT_.out (by kernel_rfl)) (by decide) (fun K hK => ?_)
       have hs23 : w20.cell? ⟨gb155, 7, none⟩ = some (u156007) := (blk_cell BK155.out 7).trans rfl
       have hfs23 := blk_frozen BK155.out 7
       have hns23_0 := NB154_155.out
       have hns23_2 := NB157_155.out
       have hms23_0 := NB155_154.out
       have hms23_2 := NB155_157.out
       refine skip_ (w1 := ?_) (by rfl) rfl ?_ ?_
       rotate_left
       ·go_simp
        rfl
       refine hK.out _ _ ?_
       clear hK K
       refine done_ (done_of HT_.out (by kernel_rfl)) ?_
       try go_wp2
       go_roundg k1
       case measure => have := HK1.out; omega
       case rel => exact ⟨(wrap64 (x14_1 + 1)), (y168), (.slice Ao22 y168.length co22), (by first | rfl | (simp; done) | (simp [*]; done) | (simp [bne_nil]; done) | (simp [bne_nil, *]; done)), H', ⟨by have := HK1.out; omega⟩, ⟨by (with_reducible repeat (first | apply Kd.R_alloc | apply Kd.R_drewN | apply Kd.R_drew)); exact Kd.R_mono (Kd.R_far (p := ⟨gb155, 7, none⟩) (Kd.R_mono HO170.out (fun k_ hk => (⟨hk, hk.2⟩ : _ ∧ k_ ≠ gb155))) (fun _ hk => hk.2) (.slice Ao22 y168.length co22)) (fun _ hk => ⟨hk.1.1, hk.1.2⟩)⟩, ⟨by refine bY ?_; refine blk_far ?_ NB154_155.out _; refine bY ?_; exact BK154.out⟩, ⟨by refine bY ?_; refine blk_put (cs := #[.string a0, .int .i64 6, .bool false, .int .i64 0, .int .u64 0, .float .f64 0, .string (⟨#[]⟩ : ByteArray), u156007]) ?_ 7 _ rfl; refine bY ?_; exact BK155.out⟩, ⟨by repeat (first | (with_reducible first | exact HB.out | apply below_alloc | apply pw_below_drewN | apply below_drew1 | refine below_set ?_ GE154.out | refine below_set ?_ GE155.out | refine below_set ?_ GE157.out) | exact HB.out)⟩⟩
      ·rw [if_neg c12] at H
       exact absurd H (by simp)
     ·rw [if_neg c10] at H
      exact absurd H (by simp)
    ·rw [if_neg c9] at H
     exact absurd H (by simp)
   ·rw [if_neg c8] at H
    have c8b0 : decide (x14_1 < (l1.length : Int)) = false := decide_eq_false c8
    clear c8
    simp only [Option.some.injEq, Prod.mk.injEq] at H
    obtain ⟨rfl, rfl, rfl, rfl, rfl, rfl, rfl, rfl⟩ := H
    have hnb24 := NB155_154.out
    have hnc24 := NB154_155.out
    obtain ⟨hcz25_0, hcz25_1, hcz25_2, hcz25_3, hcz25_4, hcz25_5, hcz25_6, hcz25_7, hfz25_0, hfz25_1, hfz25_2, hfz25_3, hfz25_4, hfz25_5, hfz25_6, hfz25_7⟩ := rows8 (w := wr) BK155
    obtain ⟨hcz26_0, hcz26_1, hcz26_2, hcz26_3, hcz26_4, hcz26_5, hcz26_6, hcz26_7, hfz26_0, hfz26_1, hfz26_2, hfz26_3, hfz26_4, hfz26_5, hfz26_6, hfz26_7⟩ := rows8 (w := wr) BK154
    obtain ⟨Ao27, co27, eo27⟩ := Kd.R_slice HO_156007.out
    subst eo27
    go_wp2
    refine bodyPost_ret (results_cell_row rfl _ _ gb154 35 #[.string a0, .int .i64 6, .bool false, .int .i64 0, .int .u64 0, .float .f64 0, .string (⟨#[]⟩ : ByteArray), .slice Ao27 x156007_1.length co27] (0, 0) _ rfl (by refine bY ?_; exact blk_put8 BK154.out) Tryz.underlying35 rfl (by kernel_rfl)) rfl ?_
    exact ⟨_, by first | rfl | (simp [errW_none, errW_some] <;> rfl) | (simp [*, errW_none, errW_some] <;> rfl), by (with_reducible repeat (first | apply Kd.R_alloc | apply Kd.R_drewN | apply Kd.R_drew)); exact Kd.R_mono (Kd.R_far8 (g := gb154) (Kd.R_mono HO_156007.out (fun k_ hk => (⟨hk, hk.1⟩ : _ ∧ k_ ≠ gb154))) (fun _ hk => hk.2) (.string a0) (.int .i64 6) (.bool false) (.int .i64 0) (.int .u64 0) (.float .f64 0) (.string (⟨#[]⟩ : ByteArray)) (.slice Ao27 x156007_1.length co27)) (fun _ hk => trivial), by repeat (first | (with_reducible first | exact HB.out | apply below_alloc | apply pw_below_drewN | apply below_drew1 | refine below_set ?_ GE154.out | refine below_set ?_ GE155.out) | exact HB.out)⟩

/-! ### impl_Buddyinfo_1: function 62 -/
def impl_Buddyinfo_1.f (k : Nat) (l0 : List (S79)) : Option (ByteArray × Int × Bool × Int × Int × Nat × ByteArray × (List (S35))) := (procfs_BuddyInfo___BuddyInfo.f k (⟨#[]⟩ : ByteArray) l0).bind fun bt172 => (some (bt172.1, bt172.2.1, bt172.2.2.1, bt172.2.2.2.1, bt172.2.2.2.2.1, bt172.2.2.2.2.2.1, bt172.2.2.2.2.2.2.1, bt172.2.2.2.2.2.2.2))
theorem impl_Buddyinfo_1.mono : ∀ a0 k, LeO (impl_Buddyinfo_1.f k a0) (impl_Buddyinfo_1.f (k + 1) a0) := by
 intro a0 k
 unfold impl_Buddyinfo_1.f
 repeat' first
   | (with_reducible exact procfs_BuddyInfo___BuddyInfo.mono _ _ _)
   | (with_reducible exact LeO.refl _)
   | (with_reducible exact LeO.none _)
   | (with_reducible refine LeO.ite ?_ ?_)
   | (with_reducible refine LeO.bind ?_ (fun _ => ?_))
   | exact procfs_BuddyInfo___BuddyInfo.mono _ _ _
   | exact LeO.none _
   | refine LeO.ite ?_ ?_
   | refine LeO.bind ?_ (fun _ => ?_)
set_option maxHeartbeats 8000000 in
set_option maxRecDepth 100000 in
theorem impl_Buddyinfo_1.calls (k : Nat) (A0 : Option Addr) (c0 : Nat) (l0 : List (S79)) (r1 : ByteArray) (r2 : Int) (r3 : Bool) (r4 : Int) (r5 : Int) (r6 : Nat) (r7 : ByteArray) (r8 : List (S35)) (w : World) (hr0 : Kd.C k79 w A0 l0.length l0) (hc0 : l0.length ≤ c0) (h : impl_Buddyinfo_1.f k l0 = some (r1, r2, r3, r4, r5, r6, r7, r8)) :
  Calls Tryz.prog 62 #[.slice A0 l0.length c0] w fun e w' => ∃ v7_ : Value, e = .returned (.agg #[.string r1, .int .i64 r2, .bool r3, .int .i64 r4, .int .u64 r5, .float .f64 r6, .string r7, v7_]) ∧ Kd.R k35 35 w' w.heap.size (fun _ => True) v7_ r8 ∧ Below w.heap.size w w' := by
 have hu35 := Tryz.underlying35
 have HR0 := Aside0.mk hr0
 have HC0 := Aside0.mk hc0
 clear hr0 hc0
 have HB := Aside0.mk (Below.refl w.heap.size w)
 have H : ((procfs_BuddyInfo___BuddyInfo.f k (⟨#[]⟩ : ByteArray) l0).bind fun bt172 => (some (bt172.1, bt172.2.1, bt172.2.2.1, bt172.2.2.2.1, bt172.2.2.2.2.1, bt172.2.2.2.2.2.1, bt172.2.2.2.2.2.2.1, bt172.2.2.2.2.2.2.2))) = some (r1, r2, r3, r4, r5, r6, r7, r8) := h
 clear h
 replace H := Option.bind_eq_some_iff.mp H
 obtain ⟨⟨t172, t173, t174, t175, t176, t177, t178, t179⟩, A20, H⟩ := H
 have A2 := Aside0.mk A20
 clear A20
 simp only [Option.some.injEq, Prod.mk.injEq] at H
 obtain ⟨rfl, rfl, rfl, rfl, rfl, rfl, rfl, rfl⟩ := H
 go_enter Tryz.func62, Tryz.ntmps62
 go_wp2_with (first | ((with_reducible refine gate_dst (N := 2) rfl ?_); refine box_event ?hg (N := 2) ?hd (cs := #[.string (⟨#[]⟩ : ByteArray), .int .i64 0, .bool false, .int .i64 0, .int .u64 0, .float .f64 0, .string (⟨#[]⟩ : ByteArray), .slice none 0 0]) (t := 35) ?hr ?_; (case hd => rfl); (case hg => rfl); (case hr => first | (go_simp; done) | (go_simp; rfl)); intro gb171 hg w3 hbox hb; have n0_ := Aside0.mk (below_step belH hb); have n1_ := Aside0.mk (hbox); have n2_ := Aside0.mk ((by rw [hg]; exact (below_size belH) : w.heap.size ≤ gb171)); have n3_ := Aside0.mk ((by rw [hg]; exact (below_size belH) : w.heap.size ≤ gb171)); clear HB; have HB := n0_; have BK171 := n1_; have GW171 := n2_; have GE171 := n3_; clear n0_ n1_ n2_ n3_; clear hb hbox hg) | ((with_reducible refine gate_callee (f := 63) rfl ?_); refine goesL_ (some 4) rfl rfl Tryz.func63 (by kernel_rfl) rfl #[.string (⟨#[]⟩ : ByteArray), .slice A0 l0.length c0, .func (.func 64) #[] #[]] rfl (by (try simp only [List.map_toArray, List.map_cons, List.map_nil]); first | done | rfl | (simp only [List.length_drop, List.length_take]; rfl)) ?_; (with_reducible refine (procfs_BuddyInfo___BuddyInfo.calls k (⟨#[]⟩ : ByteArray) _ _ l0  t172 t173 t174 t175 t176 t177 t178 t179 _ ?side1 ?side2 A2.out).mono ?_); (case side1 => repeat (first | exact (Kd.C_below HR0.out HB.out) | (with_reducible refine Kd.C_alloc ?_ _) | (with_reducible refine Kd.C_drewN ?_ _) | (with_reducible refine Kd.C_drew ?_))); (case side2 => exact HC0.out); rintro e w4 ⟨v180, rfl, ho0, hb⟩; refine ⟨_, rfl, ?_⟩; have n0_ := Aside0.mk (Kd.R_lower (Kd.R_newB ho0 (g := gb171) (o := .cells #[.string (⟨#[]⟩ : ByteArray), .int .i64 0, .bool false, .int .i64 0, .int .u64 0, .float .f64 0, .string (⟨#[]⟩ : ByteArray), .slice none 0 0] 35 (0, 0)) (by refine bY ?_; exact BK171.out)) (below_size belS)); have n1_ := Aside0.mk (blk_below (g := gb171) (o := .cells #[.string (⟨#[]⟩ : ByteArray), .int .i64 0, .bool false, .int .i64 0, .int .u64 0, .float .f64 0, .string (⟨#[]⟩ : ByteArray), .slice none 0 0] 35 (0, 0)) (by refine bY ?_; exact BK171.out) hb); have n2_ := Aside0.mk (below_step belS hb); clear BK171; clear HB; have HO181 := n0_; have BK171 := n1_; have HB := n2_; clear n0_ n1_ n2_; (try clear hb); (try clear hb2); (try clear hk); (try clear hi); (try clear ho0); obtain ⟨hcz5_0, hcz5_1, hcz5_2, hcz5_3, hcz5_4, hcz5_5, hcz5_6, hcz5_7, hfz5_0, hfz5_1, hfz5_2, hfz5_3, hfz5_4, hfz5_5, hfz5_6, hfz5_7⟩ := rows8 (w := w4) BK171; obtain ⟨Ao6, co6, eo6⟩ := Kd.R_slice HO181.out; subst eo6))
 refine bodyPost_ret (results_cell_row rfl _ _ gb171 35 #[.string t172, .int .i64 t173, .bool t174, .int .i64 t175, .int .u64 t176, .float .f64 t177, .string t178, .slice Ao6 t179.length co6] (0, 0) _ rfl (by refine bY ?_; exact blk_put8 BK171.out) Tryz.underlying35 rfl (by kernel_rfl)) rfl ?_
 exact ⟨_, by first | rfl | (simp [errW_none, errW_some] <;> rfl) | (simp [*, errW_none, errW_some] <;> rfl), by (with_reducible repeat (first | apply Kd.R_alloc | apply Kd.R_drewN | apply Kd.R_drew)); exact Kd.R_mono (Kd.R_far8 (g := gb171) (Kd.R_mono HO181.out (fun k_ hk => (⟨hk, hk.2⟩ : _ ∧ k_ ≠ gb171))) (fun _ hk => hk.2) (.string t172) (.int .i64 t173) (.bool t174) (.int .i64 t175) (.int .u64 t176) (.float .f64 t177) (.string t178) (.slice Ao6 t179.length co6)) (fun _ hk => trivial), by repeat (first | (with_reducible first | exact HB.out | apply below_alloc | apply pw_below_drewN | apply below_drew1 | refine below_set ?_ GE171.out) | exact HB.out)⟩

end Go.Proofs.YtdmpbaanonafbaaGreatDoor.B
