-- written by a program of this session (wip/tools/pp.py)
import Derived.Test.YtdmpbaanonafbaaGreatDoorV1
namespace Go.Proofs.YtdmpbaanonafbaaGreatDoor.V
open Go.RowKit Go.Proofs.YtdmpbaanonafbaaGreatDoorW.PrintWords Go.Proofs.YtdmpbaanonafbaaGreatDoorW.PrintLast Go.Proofs.YtdmpbaanonafbaaGreatDoor.Flt Go.Proofs.YtdmpbaanonafbaaGreatDoor.GivZ Go.Proofs.YtdmpbaanonafbaaGreatDoor.E Go.Proofs.YtdmpbaanonafbaaGreatDoorW.PrintMore
attribute [local go_sem] max2_int min2_int max_two min_two max_three min_three max_four min_four   -- for this text's walks alone
set_option linter.unusedVariables false
set_option linter.unusedSimpArgs false

/-! ### laws_toNode: function 38 -/
mutual
def laws_toNode.l0 : Nat → List (S35) → Int → Int → ByteArray → Int → Bool → Int → Int → Nat → ByteArray → List (S40) → Option (ByteArray × Int × Bool × Int × Int × Nat × ByteArray × (List (S40)))
 | 0, _, _, _, _, _, _, _, _, _, _, _ => none
 | k + 1, x22, x23, x24, x109000, x109001, x109002, x109003, x109004, x109005, x109006, x109007 => if x24 < x23 then (if 0 ≤ x24 then (if x24 < (x22.length : Int) then ((laws_toNode.f k ((rd_T35 x22 x24).f0) ((rd_T35 x22 x24).f1) ((rd_T35 x22 x24).f2) ((rd_T35 x22 x24).f3) ((rd_T35 x22 x24).f4) ((rd_T35 x22 x24).f5) ((rd_T35 x22 x24).f6) ((rd_T35 x22 x24).f7)).bind fun bt111 => (if x109007.length < 1466015503701 then (laws_toNode.l0 k x22 x23 (wrap64 (x24 + 1)) x109000 x109001 x109002 x109003 x109004 x109005 x109006 (x109007 ++ [(⟨bt111.1, bt111.2.1, bt111.2.2.1, bt111.2.2.2.1, bt111.2.2.2.2.1, bt111.2.2.2.2.2.1, bt111.2.2.2.2.2.2.1, bt111.2.2.2.2.2.2.2⟩ : S40)])) else (none))) else (none)) else (none)) else (some (x109000, x109001, x109002, x109003, x109004, x109005, x109006, x109007))
def laws_toNode.f : Nat → ByteArray → Int → Bool → Int → Int → Nat → ByteArray → List (S35) → Option (ByteArray × Int × Bool × Int × Int × Nat × ByteArray × (List (S40)))
 | 0, _, _, _, _, _, _, _, _ => none
 | k + 1, a0_0, a0_1, a0_2, a0_3, a0_4, a0_5, a0_6, l0_7 => laws_toNode.l0 k l0_7 (l0_7.length : Int) 0 a0_0 a0_1 a0_2 a0_3 a0_4 a0_5 a0_6 ([] : List (S40))
end
theorem laws_toNode.mono_l : ∀ k, (∀ y0 y1 y2 y3 y4 y5 y6 y7, LeO (laws_toNode.f k y0 y1 y2 y3 y4 y5 y6 y7) (laws_toNode.f (k + 1) y0 y1 y2 y3 y4 y5 y6 y7)) ∧ (∀ y0 y1 y2 y3 y4 y5 y6 y7 y8 y9 y10, LeO (laws_toNode.l0 k y0 y1 y2 y3 y4 y5 y6 y7 y8 y9 y10) (laws_toNode.l0 (k + 1) y0 y1 y2 y3 y4 y5 y6 y7 y8 y9 y10))
 | 0 => ⟨fun _ _ _ _ _ _ _ _ r h => by simp [laws_toNode.f] at h, fun _ _ _ _ _ _ _ _ _ _ _ r h => by simp [laws_toNode.l0] at h⟩
 | k + 1 => by
  obtain ⟨ih0, ih1⟩ := laws_toNode.mono_l k
  refine ⟨?_, ?_⟩
  ·intro y0 y1 y2 y3 y4 y5 y6 y7
   unfold laws_toNode.f
   repeat' first
   | (with_reducible exact ih0 _ _ _ _ _ _ _ _)
   | (with_reducible exact ih1 _ _ _ _ _ _ _ _ _ _ _)
   | (with_reducible exact LeO.refl _)
   | (with_reducible exact LeO.none _)
   | (with_reducible refine LeO.ite ?_ ?_)
   | (with_reducible refine LeO.bind ?_ (fun _ => ?_))
   | exact ih0 _ _ _ _ _ _ _ _
   | exact ih1 _ _ _ _ _ _ _ _ _ _ _
   | exact LeO.none _
   | refine LeO.ite ?_ ?_
   | refine LeO.bind ?_ (fun _ => ?_)
  ·intro y0 y1 y2 y3 y4 y5 y6 y7 y8 y9 y10
   unfold laws_toNode.l0
   repeat' first
   | (with_reducible exact ih0 _ _ _ _ _ _ _ _)
   | (with_reducible exact ih1 _ _ _ _ _ _ _ _ _ _ _)
   | (with_reducible exact LeO.refl _)
   | (with_reducible exact LeO.none _)
   | (with_reducible refine LeO.ite ?_ ?_)
   | (with_reducible refine LeO.bind ?_ (fun _ => ?_))
   | exact ih0 _ _ _ _ _ _ _ _
   | exact ih1 _ _ _ _ _ _ _ _ _ _ _
   | exact LeO.none _
   | refine LeO.ite ?_ ?_
   | refine LeO.bind ?_ (fun _ => ?_)
theorem laws_toNode.mono : ∀ a0 a1 a2 a3 a4 a5 a6 a7 k, LeO (laws_toNode.f k a0 a1 a2 a3 a4 a5 a6 a7) (laws_toNode.f (k + 1) a0 a1 a2 a3 a4 a5 a6 a7) := by
 intro a0 a1 a2 a3 a4 a5 a6 a7 k
 obtain ⟨ih0, ih1⟩ := laws_toNode.mono_l k
 exact ih0 a0 a1 a2 a3 a4 a5 a6 a7
def laws_toNode.T5 : Bool × List (List Nat × List Nat) := (true, [([], []), ([0], [0]), ([], []), ([2], [2]), ([3], [3]), ([1, 4, 3], [1, 4]), ([0, 1, 2, 3, 4, 5], []), ([6, 5, 5, 0, 1, 2, 3, 4, 5], [5, 6])])
def laws_toNode.B5 : List Nat := [0, 1, 0, 4, 12, 31, 63, 127]
theorem laws_toNode.tab5 : rtab .any (opsOf Tryz.f38 5) = laws_toNode.T5 := by kernel_rfl
theorem laws_toNode.bits5 : waitsOk laws_toNode.T5.2 laws_toNode.B5 = true := by kernel_rfl
set_option maxHeartbeats 8000000 in
set_option maxRecDepth 100000 in
theorem laws_toNode.calls (k : Nat) : ∀ (a0_0 : ByteArray) (a0_1 : Int) (a0_2 : Bool) (a0_3 : Int) (a0_4 : Int) (a0_5 : Nat) (a0_6 : ByteArray) (A0_7 : Option Addr) (c0_7 : Nat) (l0_7 : List (S35)) (r1 : ByteArray) (r2 : Int) (r3 : Bool) (r4 : Int) (r5 : Int) (r6 : Nat) (r7 : ByteArray) (r8 : List (S40)) (w : World) (hr0_7 : Kd.C k35 w A0_7 l0_7.length l0_7) (hc0_7 : l0_7.length ≤ c0_7) (h : laws_toNode.f k a0_0 a0_1 a0_2 a0_3 a0_4 a0_5 a0_6 l0_7 = some (r1, r2, r3, r4, r5, r6, r7, r8)),
  Calls Tryz.prog 38 #[.agg #[.string a0_0, .int .i64 a0_1, .bool a0_2, .int .i64 a0_3, .int .u64 a0_4, .float .f64 a0_5, .string a0_6, .slice A0_7 l0_7.length c0_7]] w fun e w' => ∃ v7_ : Value, e = .returned (.agg #[.string r1, .int .i64 r2, .bool r3, .int .i64 r4, .int .u64 r5, .float .f64 r6, .string r7, v7_]) ∧ Kd.R k40 40 w' w.heap.size (fun _ => True) v7_ r8 ∧ Below w.heap.size w w' := by
 induction k using Nat.strongRecOn with
 | _ k ih =>
 intro a0_0 a0_1 a0_2 a0_3 a0_4 a0_5 a0_6 A0_7 c0_7 l0_7 r1 r2 r3 r4 r5 r6 r7 r8 w hr0_7 hc0_7 h
 cases k with
 | zero => exact absurd h (by simp [laws_toNode.f])
 | succ k =>
 simp only [laws_toNode.f] at h
 have hu35 := Tryz.underlying35
 have hu40 := Tryz.underlying40
 have HR0_7 := Aside0.mk hr0_7
 have HC0_7 := Aside0.mk hc0_7
 clear hr0_7 hc0_7
 have HB := Aside0.mk (Below.refl w.heap.size w)
 have H : (laws_toNode.l0 k l0_7 (l0_7.length : Int) 0 a0_0 a0_1 a0_2 a0_3 a0_4 a0_5 a0_6 ([] : List (S40))) = some (r1, r2, r3, r4, r5, r6, r7, r8) := h
 clear h
 have H' := Aside0.mk H
 clear H
 go_enter Tryz.func38, Tryz.ntmps38
 go_wp2_with (first | ((with_reducible refine gate_dst (N := 1) rfl ?_); refine box_event ?hg (N := 1) ?hd (cs := #[.string a0_0, .int .i64 a0_1, .bool a0_2, .int .i64 a0_3, .int .u64 a0_4, .float .f64 a0_5, .string a0_6, .slice A0_7 l0_7.length c0_7]) (t := 35) ?hr ?_; (case hd => rfl); (case hg => rfl); (case hr => first | (go_simp; done) | (go_simp; rfl)); intro gb106 hg w2 hbox hb; have n0_ := Aside0.mk (below_step belH hb); have n1_ := Aside0.mk (hbox); have n2_ := Aside0.mk ((by rw [hg]; exact (below_size belH) : w.heap.size ≤ gb106)); have n3_ := Aside0.mk ((by rw [hg]; exact (below_size belH) : w.heap.size ≤ gb106)); clear HB; have HB := n0_; have BK106 := n1_; have GW106 := n2_; have GE106 := n3_; clear n0_ n1_ n2_ n3_; clear hb hbox hg) | ((with_reducible refine gate_dst (N := 2) rfl ?_); refine box_event ?hg (N := 2) ?hd (cs := #[.string (⟨#[]⟩ : ByteArray), .int .i64 0, .bool false, .int .i64 0, .int .u64 0, .float .f64 0, .string (⟨#[]⟩ : ByteArray), .slice none 0 0]) (t := 40) ?hr ?_; (case hd => rfl); (case hg => rfl); (case hr => first | (go_simp; done) | (go_simp; rfl)); intro gb107 hg w3 hbox hb; have n0_ := Aside0.mk (blk_below (g := gb106) (o := .cells #[.string a0_0, .int .i64 a0_1, .bool a0_2, .int .i64 a0_3, .int .u64 a0_4, .float .f64 a0_5, .string a0_6, .slice A0_7 l0_7.length c0_7] 35 (0, 0)) (by refine bY ?_; exact BK106.out) hb); have n1_ := Aside0.mk (below_step belS hb); have n2_ := Aside0.mk (hbox); have n3_ := Aside0.mk ((by rw [hg]; exact (below_size belS) : w.heap.size ≤ gb107)); have n4_ := Aside0.mk ((by rw [hg]; exact (below_size belS) : w.heap.size ≤ gb107)); have n5_ := Aside0.mk ((by rw [hg]; exact Nat.ne_of_lt (blk_lt (g := gb106) (o := .cells #[.string a0_0, .int .i64 a0_1, .bool a0_2, .int .i64 a0_3, .int .u64 a0_4, .float .f64 a0_5, .string a0_6, .slice A0_7 l0_7.length c0_7] 35 (0, 0)) (by refine bY ?_; exact BK106.out)) : gb106 ≠ gb107)); have n6_ := Aside0.mk ((by rw [hg]; exact Nat.ne_of_gt (blk_lt (g := gb106) (o := .cells #[.string a0_0, .int .i64 a0_1, .bool a0_2, .int .i64 a0_3, .int .u64 a0_4, .float .f64 a0_5, .string a0_6, .slice A0_7 l0_7.length c0_7] 35 (0, 0)) (by refine bY ?_; exact BK106.out)) : gb107 ≠ gb106)); clear BK106; clear HB; have BK106 := n0_; have HB := n1_; have BK107 := n2_; have GW107 := n3_; have GE107 := n4_; have NB106_107 := n5_; have NB107_106 := n6_; clear n0_ n1_ n2_ n3_ n4_ n5_ n6_; clear hb hbox hg; have hnb4 := NB106_107.out; have hnc4 := NB107_106.out; obtain ⟨hcz5_0, hcz5_1, hcz5_2, hcz5_3, hcz5_4, hcz5_5, hcz5_6, hcz5_7, hfz5_0, hfz5_1, hfz5_2, hfz5_3, hfz5_4, hfz5_5, hfz5_6, hfz5_7⟩ := rows8 (w := w3) BK106) | ((with_reducible refine gate_dst (N := 3) rfl ?_); refine box_event ?hg (N := 3) ?hd (cs := #[.string (⟨#[]⟩ : ByteArray), .int .i64 0, .bool false, .int .i64 0, .int .u64 0, .float .f64 0, .string (⟨#[]⟩ : ByteArray), .slice none 0 0]) (t := 40) ?hr ?_; (case hd => rfl); (case hg => rfl); (case hr => first | (go_simp; done) | (go_simp; rfl)); intro gb108 hg w6 hbox hb; have n0_ := Aside0.mk (blk_below (g := gb106) (o := .cells #[.string a0_0, .int .i64 a0_1, .bool a0_2, .int .i64 a0_3, .int .u64 a0_4, .float .f64 a0_5, .string a0_6, .slice A0_7 l0_7.length c0_7] 35 (0, 0)) (by refine bY ?_; exact BK106.out) hb); have n1_ := Aside0.mk (blk_below (g := gb107) (o := .cells #[.string (⟨#[]⟩ : ByteArray), .int .i64 0, .bool false, .int .i64 0, .int .u64 0, .float .f64 0, .string (⟨#[]⟩ : ByteArray), .slice none 0 0] 40 (0, 0)) (by refine bY ?_; exact BK107.out) hb); have n2_ := Aside0.mk (below_step belS hb); have n3_ := Aside0.mk (hbox); have n4_ := Aside0.mk ((by rw [hg]; exact (below_size belS) : w.heap.size ≤ gb108)); have n5_ := Aside0.mk ((by rw [hg]; exact (below_size belS) : w.heap.size ≤ gb108)); have n6_ := Aside0.mk ((by rw [hg]; exact Nat.ne_of_lt (blk_lt (g := gb106) (o := .cells #[.string a0_0, .int .i64 a0_1, .bool a0_2, .int .i64 a0_3, .int .u64 a0_4, .float .f64 a0_5, .string a0_6, .slice A0_7 l0_7.length c0_7] 35 (0, 0)) (by refine bY ?_; exact BK106.out)) : gb106 ≠ gb108)); have n7_ := Aside0.mk ((by rw [hg]; exact Nat.ne_of_gt (blk_lt (g := gb106) (o := .cells #[.string a0_0, .int .i64 a0_1, .bool a0_2, .int .i64 a0_3, .int .u64 a0_4, .float .f64 a0_5, .string a0_6, .slice A0_7 l0_7.length c0_7] 35 (0, 0)) (by refine bY ?_; exact BK106.out)) : gb108 ≠ gb106)); have n8_ := Aside0.mk ((by rw [hg]; exact Nat.ne_of_lt (blk_lt (g := gb107) (o := .cells #[.string (⟨#[]⟩ : ByteArray), .int .i64 0, .bool false, .int .i64 0, .int .u64 0, .float .f64 0, .string (⟨#[]⟩ : ByteArray), .slice none 0 0] 40 (0, 0)) (by refine bY ?_; exact BK107.out)) : gb107 ≠ gb108)); have n9_ := Aside0.mk ((by rw [hg]; exact Nat.ne_of_gt (blk_lt (g := gb107) (o := .cells #[.string (⟨#[]⟩ : ByteArray), .int .i64 0, .bool false, .int .i64 0, .int .u64 0, .float .f64 0, .string (⟨#[]⟩ : ByteArray), .slice none 0 0] 40 (0, 0)) (by refine bY ?_; exact BK107.out)) : gb108 ≠ gb107)); clear BK106; clear BK107; clear HB; have BK106 := n0_; have BK107 := n1_; have HB := n2_; have BK108 := n3_; have GW108 := n4_; have GE108 := n5_; have NB106_108 := n6_; have NB108_106 := n7_; have NB107_108 := n8_; have NB108_107 := n9_; clear n0_ n1_ n2_ n3_ n4_ n5_ n6_ n7_ n8_ n9_; clear hb hbox hg; have hnb7 := NB108_106.out; have hnc7 := NB106_108.out; have hnb8 := NB108_107.out; have hnc8 := NB107_108.out; obtain ⟨hcz9_0, hcz9_1, hcz9_2, hcz9_3, hcz9_4, hcz9_5, hcz9_6, hcz9_7, hfz9_0, hfz9_1, hfz9_2, hfz9_3, hfz9_4, hfz9_5, hfz9_6, hfz9_7⟩ := rows8 (w := w6) BK108; obtain ⟨hcz10_0, hcz10_1, hcz10_2, hcz10_3, hcz10_4, hcz10_5, hcz10_6, hcz10_7, hfz10_0, hfz10_1, hfz10_2, hfz10_3, hfz10_4, hfz10_5, hfz10_6, hfz10_7⟩ := rows8 (w := w6) BK106))
 go_loopg [24] k (fun kq v24 w' => ∃ (x24_1 : Int) (x109007_1 : List (S40)) (u109007 : Value), v24 = .int .i64 x24_1 ∧ Aside0 (laws_toNode.l0 kq l0_7 (l0_7.length : Int) x24_1 a0_0 a0_1 a0_2 a0_3 a0_4 a0_5 a0_6 x109007_1 = some (r1, r2, r3, r4, r5, r6, r7, r8)) ∧ Aside0 (kq ≤ k) ∧ Aside0 (Kd.R k40 40 w' w.heap.size (fun k_ => k_ ≠ gb107 ∧ k_ ≠ gb108) u109007 x109007_1) ∧ Aside0 (w'.heap[gb106]? = some (.cells #[.string a0_0, .int .i64 a0_1, .bool a0_2, .int .i64 a0_3, .int .u64 a0_4, .float .f64 a0_5, .string a0_6, (.slice A0_7 l0_7.length c0_7)] 35 (0, 0))) ∧ Aside0 (w'.heap[gb107]? = some (.cells #[.string (⟨#[]⟩ : ByteArray), .int .i64 0, .bool false, .int .i64 0, .int .u64 0, .float .f64 0, .string (⟨#[]⟩ : ByteArray), (.slice none 0 0)] 40 (0, 0))) ∧ Aside0 (w'.heap[gb108]? = some (.cells #[.string a0_0, .int .i64 a0_1, .bool a0_2, .int .i64 a0_3, .int .u64 a0_4, .float .f64 a0_5, .string a0_6, u109007] 40 (0, 0))) ∧ Aside0 (Below w.heap.size w w'))
 case atStart => exact ⟨(0), (([] : List (S40))), (.slice none 0 0), (by first | rfl | (simp; done) | (simp [*]; done) | (simp [bne_nil]; done) | (simp [bne_nil, *]; done)), H', ⟨Nat.le_refl _⟩, ⟨by first | exact Kd.R_nil _ _ _ _ _ | exact Kd.N_nil _ _ _ _ _ | exact Kd.V_nil _ _ _ _ _ | exact Kd.Q_nil _ _ _ _ _ | exact Kd.S_nil _ _ _ _ _⟩, ⟨by refine bY ?_; refine blk_far ?_ NB106_108.out _; refine bY ?_; refine blk_far ?_ NB106_108.out _; refine bY ?_; refine blk_far ?_ NB106_108.out _; refine bY ?_; refine blk_far ?_ NB106_108.out _; refine bY ?_; refine blk_far ?_ NB106_108.out _; refine bY ?_; refine blk_far ?_ NB106_108.out _; refine bY ?_; refine blk_far ?_ NB106_108.out _; refine bY ?_; refine blk_far ?_ NB106_108.out _; refine bY ?_; exact BK106.out⟩, ⟨by refine bY ?_; refine blk_far ?_ NB107_108.out _; refine bY ?_; refine blk_far ?_ NB107_108.out _; refine bY ?_; refine blk_far ?_ NB107_108.out _; refine bY ?_; refine blk_far ?_ NB107_108.out _; refine bY ?_; refine blk_far ?_ NB107_108.out _; refine bY ?_; refine blk_far ?_ NB107_108.out _; refine bY ?_; refine blk_far ?_ NB107_108.out _; refine bY ?_; refine blk_far ?_ NB107_108.out _; refine bY ?_; exact BK107.out⟩, ⟨by refine bY ?_; exact blk_put8 BK108.out⟩, ⟨by repeat (first | (with_reducible first | exact HB.out | apply below_alloc | apply pw_below_drewN | apply below_drew1 | refine below_set ?_ GE106.out | refine below_set ?_ GE107.out | refine below_set ?_ GE108.out) | exact HB.out)⟩⟩
 case round =>
  clear H'
  try clear p2
  try clear c3
  try clear c4
  try clear c7
  try clear c8
  try clear hcz10_0
  try clear hcz10_1
  try clear hcz10_2
  try clear hcz10_3
  try clear hcz10_4
  try clear hcz10_5
  try clear hcz10_6
  try clear hcz10_7
  try clear hcz5_0
  try clear hcz5_1
  try clear hcz5_2
  try clear hcz5_3
  try clear hcz5_4
  try clear hcz5_5
  try clear hcz5_6
  try clear hcz5_7
  try clear hcz9_0
  try clear hcz9_1
  try clear hcz9_2
  try clear hcz9_3
  try clear hcz9_4
  try clear hcz9_5
  try clear hcz9_6
  try clear hcz9_7
  try clear hfz10_0
  try clear hfz10_1
  try clear hfz10_2
  try clear hfz10_3
  try clear hfz10_4
  try clear hfz10_5
  try clear hfz10_6
  try clear hfz10_7
  try clear hfz5_0
  try clear hfz5_1
  try clear hfz5_2
  try clear hfz5_3
  try clear hfz5_4
  try clear hfz5_5
  try clear hfz5_6
  try clear hfz5_7
  try clear hfz9_0
  try clear hfz9_1
  try clear hfz9_2
  try clear hfz9_3
  try clear hfz9_4
  try clear hfz9_5
  try clear hfz9_6
  try clear hfz9_7
  obtain ⟨x24_1, x109007_1, u109007, rfl, HA, HK1, HO_109007, BK106, BK107, BK108, HB⟩ := hrel
  cases gk with
  | zero => exact absurd HA.out (by simp [laws_toNode.l0])
  | succ k1 =>
   have H := HA.out
   clear HA
   simp only [laws_toNode.l0] at H
   by_cases c11 : x24_1 < (l0_7.length : Int)
   ·rw [if_pos c11] at H
    have c11b0 : decide (x24_1 < (l0_7.length : Int)) = true := decide_eq_true c11
    clear c11
    by_cases c12 : 0 ≤ x24_1
    ·rw [if_pos c12] at H
     have c12b0 : decide (0 ≤ x24_1) = true := decide_eq_true c12
     clear c12
     by_cases c13 : x24_1 < (l0_7.length : Int)
     ·rw [if_pos c13] at H
      have c13b0 : decide (x24_1 < (l0_7.length : Int)) = true := decide_eq_true c13
      clear c13
      replace H := Option.bind_eq_some_iff.mp H
      obtain ⟨⟨t111, t112, t113, t114, t115, t116, t117, t118⟩, A140, H⟩ := H
      have A14 := Aside0.mk A140
      clear A140
      by_cases c15 : x109007_1.length < 1466015503701
      ·rw [if_pos c15] at H
       have LMc15 := Aside0.mk c15
       clear c15
       obtain ⟨y121, hy121⟩ : ∃ y_ : List (S40), y_ = (x109007_1 ++ [(⟨t111, t112, t113, t114, t115, t116, t117, t118⟩ : S40)]) := ⟨_, rfl⟩
       replace H : (laws_toNode.l0 k1 l0_7 (l0_7.length : Int) (wrap64 (x24_1 + 1)) a0_0 a0_1 a0_2 a0_3 a0_4 a0_5 a0_6 y121) = some (r1, r2, r3, r4, r5, r6, r7, r8) := by first | (rw [hy121]; with_reducible exact H) | (have H2_ := (Option.bind_some _ _).symm.trans H; rw [hy121]; with_reducible exact H2_) | (have H2_ := (Option.bind_some _ _).symm.trans H; with_reducible exact H2_) | with_reducible exact H | (rw [hy121]; exact H) | exact H
       have Ny121 := Aside0.mk hy121
       clear hy121
       have H' := Aside0.mk H
       clear H
       have p109 : 0 ≤ (x24_1 : Int) := of_decide_eq_true (by first | (with_reducible assumption) | assumption)
       have q109 : x24_1 < (l0_7.length : Int) := of_decide_eq_true (by first | (with_reducible assumption) | assumption)
       obtain ⟨ad109, A109_7, c109_7, e109, hx109_0, hx109_1, hx109_2, hx109_3, hx109_4, hx109_5, hx109_6, hx109_7, hl109_7, hi109_7⟩ := at_T35 HR0_7.out x24_1 p109 q109
       cases e109
       replace hx109_0 := (HB.out.cell (World.block_lt_of_cell? w _ hx109_0)).trans hx109_0
       replace hx109_1 := (HB.out.cell (World.block_lt_of_cell? w _ hx109_1)).trans hx109_1
       replace hx109_2 := (HB.out.cell (World.block_lt_of_cell? w _ hx109_2)).trans hx109_2
       replace hx109_3 := (HB.out.cell (World.block_lt_of_cell? w _ hx109_3)).trans hx109_3
       replace hx109_4 := (HB.out.cell (World.block_lt_of_cell? w _ hx109_4)).trans hx109_4
       replace hx109_5 := (HB.out.cell (World.block_lt_of_cell? w _ hx109_5)).trans hx109_5
       replace hx109_6 := (HB.out.cell (World.block_lt_of_cell? w _ hx109_6)).trans hx109_6
       replace hx109_7 := (HB.out.cell (World.block_lt_of_cell? w _ hx109_7)).trans hx109_7
       have HR109_7 := Aside0.mk hi109_7
       have HC109_7 := Aside0.mk hl109_7
       clear hi109_7 hl109_7
       replace p109 := eq_true p109
       replace q109 := eq_true q109
       try go_wp2_with (first | ((with_reducible refine gate_dst (N := 5) rfl ?_); refine box_event ?hg (N := 5) ?hd (cs := #[.string (⟨#[]⟩ : ByteArray), .int .i64 0, .bool false, .int .i64 0, .int .u64 0, .float .f64 0, .string (⟨#[]⟩ : ByteArray), .slice none 0 0]) (t := 35) ?hr ?_; (case hd => rfl); (case hg => rfl); (case hr => first | (go_simp; done) | (go_simp; rfl)); intro gb110 hg w16 hbox hb; have n0_ := Aside0.mk (Kd.R_below (by (with_reducible repeat (first | apply Kd.R_alloc | apply Kd.R_drewN | apply Kd.R_drew)); exact HO_109007.out) hb); have n1_ := Aside0.mk (blk_below (g := gb106) (o := .cells #[.string a0_0, .int .i64 a0_1, .bool a0_2, .int .i64 a0_3, .int .u64 a0_4, .float .f64 a0_5, .string a0_6, .slice (some ad109) l0_7.length c0_7] 35 (0, 0)) (by refine bY ?_; exact BK106.out) hb); have n2_ := Aside0.mk (blk_below (g := gb107) (o := .cells #[.string (⟨#[]⟩ : ByteArray), .int .i64 0, .bool false, .int .i64 0, .int .u64 0, .float .f64 0, .string (⟨#[]⟩ : ByteArray), .slice none 0 0] 40 (0, 0)) (by refine bY ?_; exact BK107.out) hb); have n3_ := Aside0.mk (blk_below (g := gb108) (o := .cells #[.string a0_0, .int .i64 a0_1, .bool a0_2, .int .i64 a0_3, .int .u64 a0_4, .float .f64 a0_5, .string a0_6, u109007] 40 (0, 0)) (by refine bY ?_; exact BK108.out) hb); have n4_ := Aside0.mk (below_step belS hb); have n5_ := Aside0.mk (hbox); have n6_ := Aside0.mk ((by rw [hg]; exact (below_size belS) : w.heap.size ≤ gb110)); have n7_ := Aside0.mk ((by rw [hg]; exact (below_size belS) : w.heap.size ≤ gb110)); have n8_ := Aside0.mk ((by rw [hg]; exact Nat.ne_of_lt (blk_lt (g := gb106) (o := .cells #[.string a0_0, .int .i64 a0_1, .bool a0_2, .int .i64 a0_3, .int .u64 a0_4, .float .f64 a0_5, .string a0_6, .slice (some ad109) l0_7.length c0_7] 35 (0, 0)) (by refine bY ?_; exact BK106.out)) : gb106 ≠ gb110)); have n9_ := Aside0.mk ((by rw [hg]; exact Nat.ne_of_gt (blk_lt (g := gb106) (o := .cells #[.string a0_0, .int .i64 a0_1, .bool a0_2, .int .i64 a0_3, .int .u64 a0_4, .float .f64 a0_5, .string a0_6, .slice (some ad109) l0_7.length c0_7] 35 (0, 0)) (by refine bY ?_; exact BK106.out)) : gb110 ≠ gb106)); have n10_ := Aside0.mk ((by rw [hg]; exact Nat.ne_of_lt (blk_lt (g := gb107) (o := .cells #[.string (⟨#[]⟩ : ByteArray), .int .i64 0, .bool false, .int .i64 0, .int .u64 0, .float .f64 0, .string (⟨#[]⟩ : ByteArray), .slice none 0 0] 40 (0, 0)) (by refine bY ?_; exact BK107.out)) : gb107 ≠ gb110)); have n11_ := Aside0.mk ((by rw [hg]; exact Nat.ne_of_gt (blk_lt (g := gb107) (o := .cells #[.string (⟨#[]⟩ : ByteArray), .int .i64 0, .bool false, .int .i64 0, .int .u64 0, .float .f64 0, .string (⟨#[]⟩ : ByteArray), .slice none 0 0] 40 (0, 0)) (by refine bY ?_; exact BK107.out)) : gb110 ≠ gb107)); have n12_ := Aside0.mk ((by rw [hg]; exact Nat.ne_of_lt (blk_lt (g := gb108) (o := .cells #[.string a0_0, .int .i64 a0_1, .bool a0_2, .int .i64 a0_3, .int .u64 a0_4, .float .f64 a0_5, .string a0_6, u109007] 40 (0, 0)) (by refine bY ?_; exact BK108.out)) : gb108 ≠ gb110)); have n13_ := Aside0.mk ((by rw [hg]; exact Nat.ne_of_gt (blk_lt (g := gb108) (o := .cells #[.string a0_0, .int .i64 a0_1, .bool a0_2, .int .i64 a0_3, .int .u64 a0_4, .float .f64 a0_5, .string a0_6, u109007] 40 (0, 0)) (by refine bY ?_; exact BK108.out)) : gb110 ≠ gb108)); clear HO_109007; clear BK106; clear BK107; clear BK108; clear HB; have HO_109007 := n0_; have BK106 := n1_; have BK107 := n2_; have BK108 := n3_; have HB := n4_; have BK110 := n5_; have GW110 := n6_; have GE110 := n7_; have NB106_110 := n8_; have NB110_106 := n9_; have NB107_110 := n10_; have NB110_107 := n11_; have NB108_110 := n12_; have NB110_108 := n13_; clear n0_ n1_ n2_ n3_ n4_ n5_ n6_ n7_ n8_ n9_ n10_ n11_ n12_ n13_; clear hb hbox hg; have hnb17 := NB110_106.out; have hnc17 := NB106_110.out; have hnb18 := NB110_107.out; have hnc18 := NB107_110.out; have hnb19 := NB110_108.out; have hnc19 := NB108_110.out; obtain ⟨hcz20_0, hcz20_1, hcz20_2, hcz20_3, hcz20_4, hcz20_5, hcz20_6, hcz20_7, hfz20_0, hfz20_1, hfz20_2, hfz20_3, hfz20_4, hfz20_5, hfz20_6, hfz20_7⟩ := rows8 (w := w16) BK110))
       have n0_ : Aside0 (Kd.R k40 40 ((((((((w16.setCell ⟨gb110, 0, none⟩ (.string ((rd_T35 l0_7 x24_1).f0))).setCell ⟨gb110, 1, none⟩ (.int .i64 ((rd_T35 l0_7 x24_1).f1))).setCell ⟨gb110, 2, none⟩ (.bool ((rd_T35 l0_7 x24_1).f2))).setCell ⟨gb110, 3, none⟩ (.int .i64 ((rd_T35 l0_7 x24_1).f3))).setCell ⟨gb110, 4, none⟩ (.int .u64 ((rd_T35 l0_7 x24_1).f4))).setCell ⟨gb110, 5, none⟩ (.float .f64 ((rd_T35 l0_7 x24_1).f5))).setCell ⟨gb110, 6, none⟩ (.string ((rd_T35 l0_7 x24_1).f6))).setCell ⟨gb110, 7, none⟩ (.slice A109_7 ((rd_T35 l0_7 x24_1).f7).length c109_7)) w.heap.size (fun k_ => k_ ≠ gb107 ∧ k_ ≠ gb108) u109007 x109007_1) := ⟨by (with_reducible repeat (first | apply Kd.R_alloc | apply Kd.R_drewN | apply Kd.R_drew)); exact Kd.R_mono (Kd.R_far8 (g := gb110) (Kd.R_types HO_109007.out BK110.out (by decide)) (fun _ hk => hk.2) (.string ((rd_T35 l0_7 x24_1).f0)) (.int .i64 ((rd_T35 l0_7 x24_1).f1)) (.bool ((rd_T35 l0_7 x24_1).f2)) (.int .i64 ((rd_T35 l0_7 x24_1).f3)) (.int .u64 ((rd_T35 l0_7 x24_1).f4)) (.float .f64 ((rd_T35 l0_7 x24_1).f5)) (.string ((rd_T35 l0_7 x24_1).f6)) (.slice A109_7 ((rd_T35 l0_7 x24_1).f7).length c109_7)) (fun _ hk => ⟨hk.1.1, hk.1.2⟩)⟩
       have n1_ : Aside0 (((((((((w16.setCell ⟨gb110, 0, none⟩ (.string ((rd_T35 l0_7 x24_1).f0))).setCell ⟨gb110, 1, none⟩ (.int .i64 ((rd_T35 l0_7 x24_1).f1))).setCell ⟨gb110, 2, none⟩ (.bool ((rd_T35 l0_7 x24_1).f2))).setCell ⟨gb110, 3, none⟩ (.int .i64 ((rd_T35 l0_7 x24_1).f3))).setCell ⟨gb110, 4, none⟩ (.int .u64 ((rd_T35 l0_7 x24_1).f4))).setCell ⟨gb110, 5, none⟩ (.float .f64 ((rd_T35 l0_7 x24_1).f5))).setCell ⟨gb110, 6, none⟩ (.string ((rd_T35 l0_7 x24_1).f6))).setCell ⟨gb110, 7, none⟩ (.slice A109_7 ((rd_T35 l0_7 x24_1).f7).length c109_7)).heap[gb106]? = some (.cells #[.string a0_0, .int .i64 a0_1, .bool a0_2, .int .i64 a0_3, .int .u64 a0_4, .float .f64 a0_5, .string a0_6, .slice (some ad109) l0_7.length c0_7] 35 (0, 0))) := ⟨by refine bY ?_; refine blk_far ?_ NB106_110.out _; refine bY ?_; refine blk_far ?_ NB106_110.out _; refine bY ?_; refine blk_far ?_ NB106_110.out _; refine bY ?_; refine blk_far ?_ NB106_110.out _; refine bY ?_; refine blk_far ?_ NB106_110.out _; refine bY ?_; refine blk_far ?_ NB106_110.out _; refine bY ?_; refine blk_far ?_ NB106_110.out _; refine bY ?_; refine blk_far ?_ NB106_110.out _; refine bY ?_; exact BK106.out⟩
       have n2_ : Aside0 (((((((((w16.setCell ⟨gb110, 0, none⟩ (.string ((rd_T35 l0_7 x24_1).f0))).setCell ⟨gb110, 1, none⟩ (.int .i64 ((rd_T35 l0_7 x24_1).f1))).setCell ⟨gb110, 2, none⟩ (.bool ((rd_T35 l0_7 x24_1).f2))).setCell ⟨gb110, 3, none⟩ (.int .i64 ((rd_T35 l0_7 x24_1).f3))).setCell ⟨gb110, 4, none⟩ (.int .u64 ((rd_T35 l0_7 x24_1).f4))).setCell ⟨gb110, 5, none⟩ (.float .f64 ((rd_T35 l0_7 x24_1).f5))).setCell ⟨gb110, 6, none⟩ (.string ((rd_T35 l0_7 x24_1).f6))).setCell ⟨gb110, 7, none⟩ (.slice A109_7 ((rd_T35 l0_7 x24_1).f7).length c109_7)).heap[gb107]? = some (.cells #[.string (⟨#[]⟩ : ByteArray), .int .i64 0, .bool false, .int .i64 0, .int .u64 0, .float .f64 0, .string (⟨#[]⟩ : ByteArray), .slice none 0 0] 40 (0, 0))) := ⟨by refine bY ?_; refine blk_far ?_ NB107_110.out _; refine bY ?_; refine blk_far ?_ NB107_110.out _; refine bY ?_; refine blk_far ?_ NB107_110.out _; refine bY ?_; refine blk_far ?_ NB107_110.out _; refine bY ?_; refine blk_far ?_ NB107_110.out _; refine bY ?_; refine blk_far ?_ NB107_110.out _; refine bY ?_; refine blk_far ?_ NB107_110.out _; refine bY ?_; refine blk_far ?_ NB107_110.out _; refine bY ?_; exact BK107.out⟩
       have n3_ : Aside0 (((((((((w16.setCell ⟨gb110, 0, none⟩ (.string ((rd_T35 l0_7 x24_1).f0))).setCell ⟨gb110, 1, none⟩ (.int .i64 ((rd_T35 l0_7 x24_1).f1))).setCell ⟨gb110, 2, none⟩ (.bool ((rd_T35 l0_7 x24_1).f2))).setCell ⟨gb110, 3, none⟩ (.int .i64 ((rd_T35 l0_7 x24_1).f3))).setCell ⟨gb110, 4, none⟩ (.int .u64 ((rd_T35 l0_7 x24_1).f4))).setCell ⟨gb110, 5, none⟩ (.float .f64 ((rd_T35 l0_7 x24_1).f5))).setCell ⟨gb110, 6, none⟩ (.string ((rd_T35 l0_7 x24_1).f6))).setCell ⟨gb110, 7, none⟩ (.slice A109_7 ((rd_T35 l0_7 x24_1).f7).length c109_7)).heap[gb108]? = some (.cells #[.string a0_0, .int .i64 a0_1, .bool a0_2, .int .i64 a0_3, .int .u64 a0_4, .float .f64 a0_5, .string a0_6, u109007] 40 (0, 0))) := ⟨by refine bY ?_; refine blk_far ?_ NB108_110.out _; refine bY ?_; refine blk_far ?_ NB108_110.out _; refine bY ?_; refine blk_far ?_ NB108_110.out _; refine bY ?_; refine blk_far ?_ NB108_110.out _; refine bY ?_; refine blk_far ?_ NB108_110.out _; refine bY ?_; refine blk_far ?_ NB108_110.out _; refine bY ?_; refine blk_far ?_ NB108_110.out _; refine bY ?_; refine blk_far ?_ NB108_110.out _; refine bY ?_; exact BK108.out⟩
       have n4_ : Aside0 (((((((((w16.setCell ⟨gb110, 0, none⟩ (.string ((rd_T35 l0_7 x24_1).f0))).setCell ⟨gb110, 1, none⟩ (.int .i64 ((rd_T35 l0_7 x24_1).f1))).setCell ⟨gb110, 2, none⟩ (.bool ((rd_T35 l0_7 x24_1).f2))).setCell ⟨gb110, 3, none⟩ (.int .i64 ((rd_T35 l0_7 x24_1).f3))).setCell ⟨gb110, 4, none⟩ (.int .u64 ((rd_T35 l0_7 x24_1).f4))).setCell ⟨gb110, 5, none⟩ (.float .f64 ((rd_T35 l0_7 x24_1).f5))).setCell ⟨gb110, 6, none⟩ (.string ((rd_T35 l0_7 x24_1).f6))).setCell ⟨gb110, 7, none⟩ (.slice A109_7 ((rd_T35 l0_7 x24_1).f7).length c109_7)).heap[gb110]? = some (.cells #[.string ((rd_T35 l0_7 x24_1).f0), .int .i64 ((rd_T35 l0_7 x24_1).f1), .bool ((rd_T35 l0_7 x24_1).f2), .int .i64 ((rd_T35 l0_7 x24_1).f3), .int .u64 ((rd_T35 l0_7 x24_1).f4), .float .f64 ((rd_T35 l0_7 x24_1).f5), .string ((rd_T35 l0_7 x24_1).f6), .slice A109_7 ((rd_T35 l0_7 x24_1).f7).length c109_7] 35 (0, 0))) := ⟨by refine bY ?_; exact blk_put8 BK110.out⟩
       have n5_ : Aside0 (Below w.heap.size w ((((((((w16.setCell ⟨gb110, 0, none⟩ (.string ((rd_T35 l0_7 x24_1).f0))).setCell ⟨gb110, 1, none⟩ (.int .i64 ((rd_T35 l0_7 x24_1).f1))).setCell ⟨gb110, 2, none⟩ (.bool ((rd_T35 l0_7 x24_1).f2))).setCell ⟨gb110, 3, none⟩ (.int .i64 ((rd_T35 l0_7 x24_1).f3))).setCell ⟨gb110, 4, none⟩ (.int .u64 ((rd_T35 l0_7 x24_1).f4))).setCell ⟨gb110, 5, none⟩ (.float .f64 ((rd_T35 l0_7 x24_1).f5))).setCell ⟨gb110, 6, none⟩ (.string ((rd_T35 l0_7 x24_1).f6))).setCell ⟨gb110, 7, none⟩ (.slice A109_7 ((rd_T35 l0_7 x24_1).f7).length c109_7))) := ⟨by repeat (first | (with_reducible first | exact HB.out | apply below_alloc | apply pw_below_drewN | apply below_drew1 | refine below_set ?_ GE106.out | refine below_set ?_ GE107.out | refine below_set ?_ GE108.out | refine below_set ?_ GE110.out) | exact HB.out)⟩
       (try clear HO_109007)
       (try clear BK106)
       (try clear BK107)
       (try clear BK108)
       (try clear BK110)
       (try clear HB)
       generalize ((((((((w16.setCell ⟨gb110, 0, none⟩ (.string ((rd_T35 l0_7 x24_1).f0))).setCell ⟨gb110, 1, none⟩ (.int .i64 ((rd_T35 l0_7 x24_1).f1))).setCell ⟨gb110, 2, none⟩ (.bool ((rd_T35 l0_7 x24_1).f2))).setCell ⟨gb110, 3, none⟩ (.int .i64 ((rd_T35 l0_7 x24_1).f3))).setCell ⟨gb110, 4, none⟩ (.int .u64 ((rd_T35 l0_7 x24_1).f4))).setCell ⟨gb110, 5, none⟩ (.float .f64 ((rd_T35 l0_7 x24_1).f5))).setCell ⟨gb110, 6, none⟩ (.string ((rd_T35 l0_7 x24_1).f6))).setCell ⟨gb110, 7, none⟩ (.slice A109_7 ((rd_T35 l0_7 x24_1).f7).length c109_7)) = w21 at n0_ n1_ n2_ n3_ n4_ n5_ ⊢
       have HO_109007 := n0_
       have BK106 := n1_
       have BK107 := n2_
       have BK108 := n3_
       have BK110 := n4_
       have HB := n5_
       clear n0_ n1_ n2_ n3_ n4_ n5_
       have n0_ := Aside0.mk (Kd.R_drew HO_109007.out)
       have n1_ := Aside0.mk (blk_drew BK106.out)
       have n2_ := Aside0.mk (blk_drew BK107.out)
       have n3_ := Aside0.mk (blk_drew BK108.out)
       have n4_ := Aside0.mk (blk_drew BK110.out)
       have n5_ := Aside0.mk (below_drew1 HB.out)
       clear HO_109007
       clear BK106
       clear BK107
       clear BK108
       clear BK110
       clear HB
       have HO_109007 := n0_
       have BK106 := n1_
       have BK107 := n2_
       have BK108 := n3_
       have BK110 := n4_
       have HB := n5_
       clear n0_ n1_ n2_ n3_ n4_ n5_
       refine start_ (n := 8) (S := fun w' => w'.cell? ⟨gb108, 0, none⟩ = some (.string a0_0) ∧ w'.cell? ⟨gb108, 1, none⟩ = some (.int .i64 a0_1) ∧ w'.cell? ⟨gb108, 2, none⟩ = some (.bool a0_2) ∧ w'.cell? ⟨gb108, 3, none⟩ = some (.int .i64 a0_3) ∧ w'.cell? ⟨gb108, 4, none⟩ = some (.int .u64 a0_4) ∧ w'.cell? ⟨gb108, 5, none⟩ = some (.float .f64 a0_5) ∧ w'.cell? ⟨gb108, 6, none⟩ = some (.string a0_6) ∧ w'.cell? ⟨gb108, 7, none⟩ = some (u109007) ∧ w'.cell? ⟨gb110, 0, none⟩ = some (.string ((rd_T35 l0_7 x24_1).f0)) ∧ w'.cell? ⟨gb110, 1, none⟩ = some (.int .i64 ((rd_T35 l0_7 x24_1).f1)) ∧ w'.cell? ⟨gb110, 2, none⟩ = some (.bool ((rd_T35 l0_7 x24_1).f2)) ∧ w'.cell? ⟨gb110, 3, none⟩ = some (.int .i64 ((rd_T35 l0_7 x24_1).f3)) ∧ w'.cell? ⟨gb110, 4, none⟩ = some (.int .u64 ((rd_T35 l0_7 x24_1).f4)) ∧ w'.cell? ⟨gb110, 5, none⟩ = some (.float .f64 ((rd_T35 l0_7 x24_1).f5)) ∧ w'.cell? ⟨gb110, 6, none⟩ = some (.string ((rd_T35 l0_7 x24_1).f6)) ∧ w'.cell? ⟨gb110, 7, none⟩ = some (.slice A109_7 ((rd_T35 l0_7 x24_1).f7).length c109_7)) (ds := [7]) (tfA 0 8) (by kernel_rfl) rfl rfl ⟨(blk_cell BK108.out 0).trans rfl, (blk_cell BK108.out 1).trans rfl, (blk_cell BK108.out 2).trans rfl, (blk_cell BK108.out 3).trans rfl, (blk_cell BK108.out 4).trans rfl, (blk_cell BK108.out 5).trans rfl, (blk_cell BK108.out 6).trans rfl, (blk_cell BK108.out 7).trans rfl, (blk_cell BK110.out 0).trans rfl, (blk_cell BK110.out 1).trans rfl, (blk_cell BK110.out 2).trans rfl, (blk_cell BK110.out 3).trans rfl, (blk_cell BK110.out 4).trans rfl, (blk_cell BK110.out 5).trans rfl, (blk_cell BK110.out 6).trans rfl, (blk_cell BK110.out 7).trans rfl⟩ (fun hHeld => ?_); refine with_tabW laws_toNode.tab5 laws_toNode.bits5 (fun HT_ HW_ => ?_)
       generalize w21.drew = w22 at HO_109007 BK106 BK107 BK108 BK110 HB hHeld ⊢
       refine pure_ (i := 0) (N := some 28) (v := ?_) (a' := ?_) (tfA 1 7) rfl rfl (any_of HT_.out (by kernel_rfl)) (fun _ _ _ h => h) (Or.inl ⟨by rfl, ?_⟩) ?_ ?_
       rotate_left
       ·intro w'
        go_simp
        with_reducible rfl
       rotate_left
       ·simp only [Act.put, sA, s0, s1, i64_w, i32_w]
        rfl
       refine take_ (i := 1) (N := some 29) (v := ?_) (a' := ?_) (tfA 2 6) rfl rfl (take_ofW HT_.out HW_.out (by kernel_rfl)) (fun _ _ _ h => h) (Or.inl ⟨by rfl, ?_⟩) hHeld ?_ ?_
       rotate_left
       ·rintro w' ⟨s0, s1, s2, s3, s4, s5, s6, s7, s8, s9, s10, s11, s12, s13, s14, s15⟩
        go_simp
        with_reducible rfl
       rotate_left
       ·simp only [Act.put, sA, s0, s1, i64_w, i32_w]
        rfl
       refine take_ (i := 2) (N := some 30) (v := ?_) (a' := ?_) (tfA 3 5) rfl rfl (take_ofW HT_.out HW_.out (by kernel_rfl)) (fun _ _ _ h => h) (Or.inl ⟨by rfl, ?_⟩) hHeld ?_ ?_
       rotate_left
       ·rintro w' ⟨s0, s1, s2, s3, s4, s5, s6, s7, s8, s9, s10, s11, s12, s13, s14, s15⟩
        go_simp
        with_reducible rfl
       rotate_left
       ·simp only [Act.put, sA, s0, s1, i64_w, i32_w]
        rfl
       refine one_ (i := 3) (N := some 31) (tfA 4 4) rfl rfl (one_of HT_.out (by kernel_rfl)) (by decide) (fun K hK => ?_)
       refine goes_ Tryz.func38 (by kernel_rfl) rfl #[.agg #[.string ((rd_T35 l0_7 x24_1).f0), .int .i64 ((rd_T35 l0_7 x24_1).f1), .bool ((rd_T35 l0_7 x24_1).f2), .int .i64 ((rd_T35 l0_7 x24_1).f3), .int .u64 ((rd_T35 l0_7 x24_1).f4), .float .f64 ((rd_T35 l0_7 x24_1).f5), .string ((rd_T35 l0_7 x24_1).f6), .slice A109_7 ((rd_T35 l0_7 x24_1).f7).length c109_7]] (by rfl) rfl rfl (by (try simp only [List.map_toArray, List.map_cons, List.map_nil]); first | done | rfl | (simp only [List.length_drop, List.length_take]; rfl)) ?_
       with_reducible refine (ih k1 (by have := HK1.out; omega) ((rd_T35 l0_7 x24_1).f0) ((rd_T35 l0_7 x24_1).f1) ((rd_T35 l0_7 x24_1).f2) ((rd_T35 l0_7 x24_1).f3) ((rd_T35 l0_7 x24_1).f4) ((rd_T35 l0_7 x24_1).f5) ((rd_T35 l0_7 x24_1).f6) _ _ ((rd_T35 l0_7 x24_1).f7) t111 t112 t113 t114 t115 t116 t117 t118 _ ?side1 ?side2 A14.out).mono ?_
       (case side1 => repeat (first | exact (Kd.C_below HR109_7.out HB.out) | (with_reducible refine Kd.C_alloc ?_ _) | (with_reducible refine Kd.C_drewN ?_ _) | (with_reducible refine Kd.C_drew ?_)))
       (case side2 => exact HC109_7.out)
       rintro e w23 ⟨v119, rfl, ho0, hb⟩
       refine ⟨_, rfl, ?_⟩
       have n0_ := Aside0.mk (Kd.R_elder' (by (with_reducible repeat (first | apply Kd.R_alloc | apply Kd.R_drewN | apply Kd.R_drew)); exact HO_109007.out) (Kd.R_base ho0) hb)
       have n1_ := Aside0.mk (Kd.R_lower (Kd.R_newB (Kd.R_newB (Kd.R_new' ho0 (Kd.R_lt (by (with_reducible repeat (first | apply Kd.R_alloc | apply Kd.R_drewN | apply Kd.R_drew)); exact HO_109007.out))) (g := gb107) (o := .cells #[.string (⟨#[]⟩ : ByteArray), .int .i64 0, .bool false, .int .i64 0, .int .u64 0, .float .f64 0, .string (⟨#[]⟩ : ByteArray), .slice none 0 0] 40 (0, 0)) (by refine bY ?_; exact BK107.out)) (g := gb108) (o := .cells #[.string a0_0, .int .i64 a0_1, .bool a0_2, .int .i64 a0_3, .int .u64 a0_4, .float .f64 a0_5, .string a0_6, u109007] 40 (0, 0)) (by refine bY ?_; exact BK108.out)) (below_size belS))
       have n2_ := Aside0.mk (blk_below (g := gb106) (o := .cells #[.string a0_0, .int .i64 a0_1, .bool a0_2, .int .i64 a0_3, .int .u64 a0_4, .float .f64 a0_5, .string a0_6, .slice (some ad109) l0_7.length c0_7] 35 (0, 0)) (by refine bY ?_; exact BK106.out) hb)
       have n3_ := Aside0.mk (blk_below (g := gb107) (o := .cells #[.string (⟨#[]⟩ : ByteArray), .int .i64 0, .bool false, .int .i64 0, .int .u64 0, .float .f64 0, .string (⟨#[]⟩ : ByteArray), .slice none 0 0] 40 (0, 0)) (by refine bY ?_; exact BK107.out) hb)
       have n4_ := Aside0.mk (blk_below (g := gb108) (o := .cells #[.string a0_0, .int .i64 a0_1, .bool a0_2, .int .i64 a0_3, .int .u64 a0_4, .float .f64 a0_5, .string a0_6, u109007] 40 (0, 0)) (by refine bY ?_; exact BK108.out) hb)
       have n5_ := Aside0.mk (blk_below (g := gb110) (o := .cells #[.string ((rd_T35 l0_7 x24_1).f0), .int .i64 ((rd_T35 l0_7 x24_1).f1), .bool ((rd_T35 l0_7 x24_1).f2), .int .i64 ((rd_T35 l0_7 x24_1).f3), .int .u64 ((rd_T35 l0_7 x24_1).f4), .float .f64 ((rd_T35 l0_7 x24_1).f5), .string ((rd_T35 l0_7 x24_1).f6), .slice A109_7 ((rd_T35 l0_7 x24_1).f7).length c109_7] 35 (0, 0)) (by refine bY ?_; exact BK110.out) hb)
       have n6_ := Aside0.mk (below_step belS hb)
       clear HO_109007
       clear BK106
       clear BK107
       clear BK108
       clear BK110
       clear HB
       have HO_109007 := n0_
       have HO120 := n1_
       have BK106 := n2_
       have BK107 := n3_
       have BK108 := n4_
       have BK110 := n5_
       have HB := n6_
       clear n0_ n1_ n2_ n3_ n4_ n5_ n6_
       (try clear hb)
       (try clear hb2)
       (try clear hk)
       (try clear hi)
       (try clear ho0)
       obtain ⟨Ao25, co25, eo25⟩ := Kd.R_slice HO120.out
       (first | subst eo25 | (injection eo25 with f1_ f2_ f3_; have f4_ := f1_.symm; have f5_ := f3_.symm; clear f1_ f2_ f3_; subst f4_; subst f5_))
       refine hK.out _ _ ⟨(blk_cell BK108.out 0).trans rfl, (blk_cell BK108.out 1).trans rfl, (blk_cell BK108.out 2).trans rfl, (blk_cell BK108.out 3).trans rfl, (blk_cell BK108.out 4).trans rfl, (blk_cell BK108.out 5).trans rfl, (blk_cell BK108.out 6).trans rfl, (blk_cell BK108.out 7).trans rfl, (blk_cell BK110.out 0).trans rfl, (blk_cell BK110.out 1).trans rfl, (blk_cell BK110.out 2).trans rfl, (blk_cell BK110.out 3).trans rfl, (blk_cell BK110.out 4).trans rfl, (blk_cell BK110.out 5).trans rfl, (blk_cell BK110.out 6).trans rfl, (blk_cell BK110.out 7).trans rfl⟩ (fun hHeld => ?_)
       clear hK K
       refine norm_ (a' := ?_) ?_ ?_
       rotate_left
       ·show Act.put _ (some 31) _ = _
        simp only [Act.put, sA, s0, s1, i64_w, i32_w]
        rfl
       refine one_ (i := 4) (N := some 32) (tfA 5 3) rfl rfl (one_of HT_.out (by kernel_rfl)) (by decide) (fun K hK => ?_)
       refine value_ (w1 := ?_) (v := ?_) (by rfl) rfl ?_ ?_
       rotate_left 2
       ·go_simp
        constructor
        ·rfl
        ·rfl
       refine hK.out _ _ ⟨(blk_cell (blk_alloc BK108.out _) 0).trans rfl, (blk_cell (blk_alloc BK108.out _) 1).trans rfl, (blk_cell (blk_alloc BK108.out _) 2).trans rfl, (blk_cell (blk_alloc BK108.out _) 3).trans rfl, (blk_cell (blk_alloc BK108.out _) 4).trans rfl, (blk_cell (blk_alloc BK108.out _) 5).trans rfl, (blk_cell (blk_alloc BK108.out _) 6).trans rfl, (blk_cell (blk_alloc BK108.out _) 7).trans rfl, (blk_cell (blk_alloc BK110.out _) 0).trans rfl, (blk_cell (blk_alloc BK110.out _) 1).trans rfl, (blk_cell (blk_alloc BK110.out _) 2).trans rfl, (blk_cell (blk_alloc BK110.out _) 3).trans rfl, (blk_cell (blk_alloc BK110.out _) 4).trans rfl, (blk_cell (blk_alloc BK110.out _) 5).trans rfl, (blk_cell (blk_alloc BK110.out _) 6).trans rfl, (blk_cell (blk_alloc BK110.out _) 7).trans rfl⟩ (fun hHeld => ?_)
       clear hK K
       refine norm_ (a' := ?_) ?_ ?_
       rotate_left
       ·show Act.put _ (some 32) _ = _
        simp only [Act.put, sA, s0, s1, i64_w, i32_w]
        rfl
       refine one_ (i := 5) (N := some 33) (tfA 6 2) rfl rfl (one_of HT_.out (by kernel_rfl)) (by decide) (fun K hK => ?_)
       refine Kd.R_append_step k40 (w0 := w) w.heap.size (by rfl) (.tmp 29) (.tmp 32) 38 40 (.agg #[(.string ⟨#[]⟩), (.int .i64 0), (.bool false), (.int .i64 0), (.int .u64 0), (.float .f64 0), (.string ⟨#[]⟩), (.slice none 0 0)]) 96 rfl Tryz.underlying38 info40 rfl (by decide) (by omega) u109007 x109007_1 (⟨t111, t112, t113, t114, t115, t116, t117, t118⟩ : S40) [.string t111, .int .i64 t112, .bool t113, .int .i64 t114, .int .u64 t115, .float .f64 t116, .string t117, .slice Ao25 t118.length co25] (fun k_ => k_ ≠ gb107 ∧ k_ ≠ gb108) (fun k_ => ((fun k_ => k_ ≠ gb107 ∧ k_ ≠ gb108)) k_ ∧ some k_ ≠ (u109007 : Value).ownBlock) rfl rfl ?aP (fun _ hk => hk) ?aF ?aO ?aB ?aS ?aL ?_
       (case aP => exact k40_mkM _ _ _ (⟨t111, t112, t113, t114, t115, t116, t117, t118⟩ : S40) (Kd.R_mono (HO120.out) (fun k_ hk => ⟨⟨hk.1.2, hk.2⟩, hk.1.1.2⟩)))
       (case aB => exact belS)
       (case aF => exact (fun k_ hk => ⟨Kd.freshB (g := gb107) (o := .cells #[.string (⟨#[]⟩ : ByteArray), .int .i64 0, .bool false, .int .i64 0, .int .u64 0, .float .f64 0, .string (⟨#[]⟩ : ByteArray), .slice none 0 0] 40 (0, 0)) (by refine bY ?_; exact BK107.out) k_ hk, Kd.freshB (g := gb108) (o := .cells #[.string a0_0, .int .i64 a0_1, .bool a0_2, .int .i64 a0_3, .int .u64 a0_4, .float .f64 a0_5, .string a0_6, u109007] 40 (0, 0)) (by refine bY ?_; exact BK108.out) k_ hk⟩))
       (case aO => exact (by (with_reducible repeat (first | apply Kd.R_alloc | apply Kd.R_drewN | apply Kd.R_drew)); exact Kd.R_mono HO_109007.out (fun _ hk => ⟨hk.1.1, hk.1.2⟩)))
       (case aS => exact (below_size belS))
       (case aL => have := LMc15.out; omega)
       intro v122 w24 ho hb hg hat
       rw [← Ny121.out] at ho
       have n0_ := Aside0.mk (blk_grown (g := gb106) (o := .cells #[.string a0_0, .int .i64 a0_1, .bool a0_2, .int .i64 a0_3, .int .u64 a0_4, .float .f64 a0_5, .string a0_6, .slice (some ad109) l0_7.length c0_7] 35 (0, 0)) (by refine bY ?_; exact BK106.out) hg (Kd.R_ne HO_109007.out BK106.out (by decide)))
       have n1_ := Aside0.mk (blk_grown (g := gb107) (o := .cells #[.string (⟨#[]⟩ : ByteArray), .int .i64 0, .bool false, .int .i64 0, .int .u64 0, .float .f64 0, .string (⟨#[]⟩ : ByteArray), .slice none 0 0] 40 (0, 0)) (by refine bY ?_; exact BK107.out) hg (Kd.R_away HO_109007.out (fun _ hk => hk.1.1)))
       have n2_ := Aside0.mk (blk_grown (g := gb108) (o := .cells #[.string a0_0, .int .i64 a0_1, .bool a0_2, .int .i64 a0_3, .int .u64 a0_4, .float .f64 a0_5, .string a0_6, u109007] 40 (0, 0)) (by refine bY ?_; exact BK108.out) hg (Kd.R_away HO_109007.out (fun _ hk => hk.1.2)))
       have n3_ := Aside0.mk (blk_grown (g := gb110) (o := .cells #[.string ((rd_T35 l0_7 x24_1).f0), .int .i64 ((rd_T35 l0_7 x24_1).f1), .bool ((rd_T35 l0_7 x24_1).f2), .int .i64 ((rd_T35 l0_7 x24_1).f3), .int .u64 ((rd_T35 l0_7 x24_1).f4), .float .f64 ((rd_T35 l0_7 x24_1).f5), .string ((rd_T35 l0_7 x24_1).f6), .slice A109_7 ((rd_T35 l0_7 x24_1).f7).length c109_7] 35 (0, 0)) (by refine bY ?_; exact BK110.out) hg (Kd.R_ne HO_109007.out BK110.out (by decide)))
       have n4_ := Aside0.mk (hb)
       have n5_ := Aside0.mk (ho)
       clear BK106
       clear BK107
       clear BK108
       clear BK110
       clear HB
       clear HO_109007
       clear HO120
       have BK106 := n0_
       have BK107 := n1_
       have BK108 := n2_
       have BK110 := n3_
       have HB := n4_
       have HO123 := n5_
       clear n0_ n1_ n2_ n3_ n4_ n5_
       clear ho hb hg hat
       obtain ⟨Ao26, co26, eo26⟩ := Kd.R_slice HO123.out
       (first | subst eo26 | (injection eo26 with f1_ f2_ f3_; have f4_ := f1_.symm; have f5_ := f3_.symm; clear f1_ f2_ f3_; subst f4_; subst f5_))
       refine hK.out _ _ ⟨(blk_cell BK108.out 0).trans rfl, (blk_cell BK108.out 1).trans rfl, (blk_cell BK108.out 2).trans rfl, (blk_cell BK108.out 3).trans rfl, (blk_cell BK108.out 4).trans rfl, (blk_cell BK108.out 5).trans rfl, (blk_cell BK108.out 6).trans rfl, (blk_cell BK108.out 7).trans rfl, (blk_cell BK110.out 0).trans rfl, (blk_cell BK110.out 1).trans rfl, (blk_cell BK110.out 2).trans rfl, (blk_cell BK110.out 3).trans rfl, (blk_cell BK110.out 4).trans rfl, (blk_cell BK110.out 5).trans rfl, (blk_cell BK110.out 6).trans rfl, (blk_cell BK110.out 7).trans rfl⟩ (fun hHeld => ?_)
       clear hK K
       refine norm_ (a' := ?_) ?_ ?_
       rotate_left
       ·show Act.put _ (some 33) _ = _
        simp only [Act.put, sA, s0, s1, i64_w, i32_w]
        rfl
       refine pure_ (i := 6) (N := some 34) (v := ?_) (a' := ?_) (tfA 7 1) rfl rfl (any_of HT_.out (by kernel_rfl)) (fun _ _ _ h => h) (Or.inl ⟨by rfl, ?_⟩) ?_ ?_
       rotate_left
       ·intro w'
        go_simp
        with_reducible rfl
       rotate_left
       ·simp only [Act.put, sA, s0, s1, i64_w, i32_w]
        rfl
       refine last_ (i := 7) (N := none) (tfA 8 0) rfl rfl (one_of HT_.out (by kernel_rfl)) (by decide) (fun K hK => ?_)
       have hs27 : w24.cell? ⟨gb108, 7, none⟩ = some (u109007) := (blk_cell BK108.out 7).trans rfl
       have hfs27 := blk_frozen BK108.out 7
       have hns27_0 := NB106_108.out
       have hns27_1 := NB107_108.out
       have hns27_3 := NB110_108.out
       have hms27_0 := NB108_106.out
       have hms27_1 := NB108_107.out
       have hms27_3 := NB108_110.out
       refine skip_ (w1 := ?_) (by rfl) rfl ?_ ?_
       rotate_left
       ·go_simp
        rfl
       refine hK.out _ _ ?_
       clear hK K
       refine done_ (done_of HT_.out (by kernel_rfl)) ?_
       try go_wp2
       go_roundg k1
       case measure => have := HK1.out; omega
       case rel => exact ⟨(wrap64 (x24_1 + 1)), (y121), (.slice Ao26 y121.length co26), (by first | rfl | (simp; done) | (simp [*]; done) | (simp [bne_nil]; done) | (simp [bne_nil, *]; done)), H', ⟨by have := HK1.out; omega⟩, ⟨by (with_reducible repeat (first | apply Kd.R_alloc | apply Kd.R_drewN | apply Kd.R_drew)); exact Kd.R_mono (Kd.R_far (p := ⟨gb108, 7, none⟩) (Kd.R_mono HO123.out (fun k_ hk => (⟨hk, hk.2⟩ : _ ∧ k_ ≠ gb108))) (fun _ hk => hk.2) (.slice Ao26 y121.length co26)) (fun _ hk => ⟨hk.1.1, hk.1.2⟩)⟩, ⟨by refine bY ?_; refine blk_far ?_ NB106_108.out _; refine bY ?_; exact BK106.out⟩, ⟨by refine bY ?_; refine blk_far ?_ NB107_108.out _; refine bY ?_; exact BK107.out⟩, ⟨by refine bY ?_; refine blk_put (cs := #[.string a0_0, .int .i64 a0_1, .bool a0_2, .int .i64 a0_3, .int .u64 a0_4, .float .f64 a0_5, .string a0_6, u109007]) ?_ 7 _ rfl; refine bY ?_; exact BK108.out⟩, ⟨by repeat (first | (with_reducible first | exact HB.out | apply below_alloc | apply pw_below_drewN | apply below_drew1 | refine below_set ?_ GE106.out | refine below_set ?_ GE107.out | refine below_set ?_ GE108.out | refine below_set ?_ GE110.out) | exact HB.out)⟩⟩
      ·rw [if_neg c15] at H
       exact absurd H (by simp)
     ·rw [if_neg c13] at H
      exact absurd H (by simp)
    ·rw [if_neg c12] at H
     exact absurd H (by simp)
   ·rw [if_neg c11] at H
    have c11b0 : decide (x24_1 < (l0_7.length : Int)) = false := decide_eq_false c11
    clear c11
    simp only [Option.some.injEq, Prod.mk.injEq] at H
    obtain ⟨rfl, rfl, rfl, rfl, rfl, rfl, rfl, rfl⟩ := H
    have hnb28 := NB108_106.out
    have hnc28 := NB106_108.out
    have hnb29 := NB108_107.out
    have hnc29 := NB107_108.out
    obtain ⟨hcz30_0, hcz30_1, hcz30_2, hcz30_3, hcz30_4, hcz30_5, hcz30_6, hcz30_7, hfz30_0, hfz30_1, hfz30_2, hfz30_3, hfz30_4, hfz30_5, hfz30_6, hfz30_7⟩ := rows8 (w := wr) BK108
    have hnb31 := NB107_106.out
    have hnc31 := NB106_107.out
    obtain ⟨hcz32_0, hcz32_1, hcz32_2, hcz32_3, hcz32_4, hcz32_5, hcz32_6, hcz32_7, hfz32_0, hfz32_1, hfz32_2, hfz32_3, hfz32_4, hfz32_5, hfz32_6, hfz32_7⟩ := rows8 (w := wr) BK107
    obtain ⟨Ao33, co33, eo33⟩ := Kd.R_slice HO_109007.out
    subst eo33
    go_wp2
    refine bodyPost_ret (results_cell_row rfl _ _ gb107 40 #[.string a0_0, .int .i64 a0_1, .bool a0_2, .int .i64 a0_3, .int .u64 a0_4, .float .f64 a0_5, .string a0_6, .slice Ao33 x109007_1.length co33] (0, 0) _ rfl (by refine bY ?_; exact blk_put8 BK107.out) Tryz.underlying40 rfl (by kernel_rfl)) rfl ?_
    exact ⟨_, by first | rfl | (simp [errW_none, errW_some] <;> rfl) | (simp [*, errW_none, errW_some] <;> rfl), by (with_reducible repeat (first | apply Kd.R_alloc | apply Kd.R_drewN | apply Kd.R_drew)); exact Kd.R_mono (Kd.R_far8 (g := gb107) (Kd.R_mono HO_109007.out (fun k_ hk => (⟨hk, hk.1⟩ : _ ∧ k_ ≠ gb107))) (fun _ hk => hk.2) (.string a0_0) (.int .i64 a0_1) (.bool a0_2) (.int .i64 a0_3) (.int .u64 a0_4) (.float .f64 a0_5) (.string a0_6) (.slice Ao33 x109007_1.length co33)) (fun _ hk => trivial), by repeat (first | (with_reducible first | exact HB.out | apply below_alloc | apply pw_below_drewN | apply below_drew1 | refine below_set ?_ GE106.out | refine below_set ?_ GE107.out | refine below_set ?_ GE108.out) | exact HB.out)⟩

end Go.Proofs.YtdmpbaanonafbaaGreatDoor.V
