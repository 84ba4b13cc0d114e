-- written by a program of this session (wip/tools/pp.py)
import Derived.Test.YtokojamaigebaaaDoorL0
import Derived.Test.YtokojamaigebaaaDoorL1
import Derived.Test.YtokojamaigebaaaDoorL6
namespace Go.Proofs.YtokojamaigebaaaDoor.L
open Go.RowKit Go.Proofs.YtokojamaigebaaaDoorW.PrintWords Go.Proofs.YtokojamaigebaaaDoorW.PrintLast Go.Proofs.YtokojamaigebaaaDoor.M Go.Proofs.YtokojamaigebaaaDoor.MtDoor Go.Proofs.YtokojamaigebaaaDoorW.PrintMore
attribute [local go_sem] max2_int min2_int max_two min_two max_three min_three max_four min_four   -- for this text's walks alone
set_option linter.unusedVariables false
set_option linter.unusedSimpArgs false

attribute [local go_sem high] eqA23
/-! ### laws_mountsTo: function 19 -/
def laws_mountsTo.l0 : Nat → List (S62) → List (S23) → Int → Int → Option ((List (S62)))
 | 0, _, _, _, _ => none
 | k + 1, x3, x6, x7, x8 => if x8 < x7 then (if 0 ≤ x8 then (if x8 < (x6.length : Int) then (if x3.length < 977343669134 then (laws_mountsTo.l0 k (x3 ++ [(⟨(rd_T23 x6 x8).f0, (rd_T23 x6 x8).f1, (rd_T23 x6 x8).f2, (rd_T23 x6 x8).f3, (rd_T23 x6 x8).f4, (rd_T23 x6 x8).f5, (rd_T23 x6 x8).f6, (rd_T23 x6 x8).f7, (rd_T23 x6 x8).f8, (rd_T23 x6 x8).f9, (rd_T23 x6 x8).f10⟩ : S62)]) x6 x7 (wrap64 (x8 + 1))) else (none)) else (none)) else (none)) else (some x3)
def laws_mountsTo.f (k : Nat) (l0 : List (S23)) : Option ((List (S62))) := laws_mountsTo.l0 k ([] : List (S62)) l0 (l0.length : Int) 0
theorem laws_mountsTo.mono_l : ∀ k, (∀ y0 y1 y2 y3, LeO (laws_mountsTo.l0 k y0 y1 y2 y3) (laws_mountsTo.l0 (k + 1) y0 y1 y2 y3))
 | 0 => fun _ _ _ _ r h => by simp [laws_mountsTo.l0] at h
 | k + 1 => by
  have ih0 := laws_mountsTo.mono_l k
  ·intro y0 y1 y2 y3
   unfold laws_mountsTo.l0
   repeat' first
   | (with_reducible exact ih0 _ _ _ _)
   | (with_reducible exact LeO.refl _)
   | (with_reducible exact LeO.none _)
   | (with_reducible refine LeO.ite ?_ ?_)
   | (with_reducible refine LeO.bind ?_ (fun _ => ?_))
   | exact ih0 _ _ _ _
   | exact LeO.none _
   | refine LeO.ite ?_ ?_
   | refine LeO.bind ?_ (fun _ => ?_)
theorem laws_mountsTo.mono : ∀ a0 k, LeO (laws_mountsTo.f k a0) (laws_mountsTo.f (k + 1) a0) := by
 intro a0 k
 have ih0 := laws_mountsTo.mono_l k
 unfold laws_mountsTo.f
 repeat' first
   | (with_reducible exact ih0 _ _ _ _)
   | (with_reducible exact LeO.refl _)
   | (with_reducible exact LeO.none _)
   | (with_reducible refine LeO.ite ?_ ?_)
   | (with_reducible refine LeO.bind ?_ (fun _ => ?_))
   | exact ih0 _ _ _ _
   | exact LeO.none _
   | refine LeO.ite ?_ ?_
   | refine LeO.bind ?_ (fun _ => ?_)
set_option maxHeartbeats 8000000 in
set_option maxRecDepth 100000 in
theorem laws_mountsTo.calls (k : Nat) (A0 : Option Addr) (c0 : Nat) (l0 : List (S23)) (r : List (S62)) (w : World) (hr0 : Kd.C k23 w A0 l0.length l0) (hc0 : l0.length ≤ c0) (h : laws_mountsTo.f k l0 = some r) :
  Calls Tryd.prog 19 #[.slice A0 l0.length c0] w fun e w' => ∃ v0_ : Value, e = .returned (v0_) ∧ Kd.R k62 62 w' w.heap.size (fun _ => True) v0_ r ∧ Below w.heap.size w w' := by
 have hu23 := Tryd.underlying23
 have HR0 := Aside0.mk hr0
 have HC0 := Aside0.mk hc0
 clear hr0 hc0
 have HB := Aside0.mk (Below.refl w.heap.size w)
 have H : (laws_mountsTo.l0 k ([] : List (S62)) l0 (l0.length : Int) 0) = some r := h
 clear h
 have H' := Aside0.mk H
 clear H
 go_enter Tryd.func19, Tryd.ntmps19
 go_wp2
 go_loopg [3, 8] k (fun kq v3 v8 w' => ∃ (x3_1 : List (S62)) (x8_1 : Int), v8 = .int .i64 x8_1 ∧ Aside0 (laws_mountsTo.l0 kq x3_1 l0 (l0.length : Int) x8_1 = some r) ∧ Aside0 (kq ≤ k) ∧ Aside0 (Kd.R k62 62 w' w.heap.size (fun _ => True) v3 x3_1) ∧ Aside0 (Below w.heap.size w w'))
 case atStart => exact ⟨(([] : List (S62))), (0), (by first | rfl | (simp; done) | (simp [*]; done) | (simp [bne_nil]; done) | (simp [bne_nil, *]; done)), H', ⟨Nat.le_refl _⟩, ⟨by first | exact Kd.R_nil _ _ _ _ _ | exact Kd.N_nil _ _ _ _ _ | exact Kd.V_nil _ _ _ _ _ | exact Kd.Q_nil _ _ _ _ _ | exact Kd.S_nil _ _ _ _ _⟩, ⟨by repeat (first | (with_reducible first | exact HB.out | apply below_alloc | apply pw_below_drewN | apply below_drew1) | exact HB.out)⟩⟩
 case round =>
  clear H'
  try clear c1
  obtain ⟨x3_1, x8_1, rfl, HA, HK1, HO_3, HB⟩ := hrel
  cases gk with
  | zero => exact absurd HA.out (by simp [laws_mountsTo.l0])
  | succ k1 =>
   have H := HA.out
   clear HA
   simp only [laws_mountsTo.l0] at H
   by_cases c2 : x8_1 < (l0.length : Int)
   ·rw [if_pos c2] at H
    have c2b0 : decide (x8_1 < (l0.length : Int)) = true := decide_eq_true c2
    clear c2
    by_cases c3 : 0 ≤ x8_1
    ·rw [if_pos c3] at H
     have c3b0 : decide (0 ≤ x8_1) = true := decide_eq_true c3
     clear c3
     by_cases c4 : x8_1 < (l0.length : Int)
     ·rw [if_pos c4] at H
      have c4b0 : decide (x8_1 < (l0.length : Int)) = true := decide_eq_true c4
      clear c4
      by_cases c5 : x3_1.length < 977343669134
      ·rw [if_pos c5] at H
       have LMc5 := Aside0.mk c5
       clear c5
       obtain ⟨y158, hy158⟩ : ∃ y_ : List (S62), y_ = (x3_1 ++ [(⟨(rd_T23 l0 x8_1).f0, (rd_T23 l0 x8_1).f1, (rd_T23 l0 x8_1).f2, (rd_T23 l0 x8_1).f3, (rd_T23 l0 x8_1).f4, (rd_T23 l0 x8_1).f5, (rd_T23 l0 x8_1).f6, (rd_T23 l0 x8_1).f7, (rd_T23 l0 x8_1).f8, (rd_T23 l0 x8_1).f9, (rd_T23 l0 x8_1).f10⟩ : S62)]) := ⟨_, rfl⟩
       replace H : (laws_mountsTo.l0 k1 y158 l0 (l0.length : Int) (wrap64 (x8_1 + 1))) = some r := by first | (rw [hy158]; with_reducible exact H) | (have H2_ := (Option.bind_some _ _).symm.trans H; rw [hy158]; with_reducible exact H2_) | (have H2_ := (Option.bind_some _ _).symm.trans H; with_reducible exact H2_) | with_reducible exact H | (rw [hy158]; exact H) | exact H
       have Ny158 := Aside0.mk hy158
       clear hy158
       have H' := Aside0.mk H
       clear H
       have p156 : 0 ≤ (x8_1 : Int) := of_decide_eq_true (by first | (with_reducible assumption) | assumption)
       have q156 : x8_1 < (l0.length : Int) := of_decide_eq_true (by first | (with_reducible assumption) | assumption)
       obtain ⟨ad156, e156, hx156_0, hx156_1, hx156_2, hx156_3, hx156_4, hx156_5, hx156_6, hx156_7, hx156_8, hx156_9, hx156_10⟩ := at_T23 HR0.out x8_1 p156 q156
       cases e156
       replace hx156_0 := (HB.out.cell (World.block_lt_of_cell? w _ hx156_0)).trans hx156_0
       replace hx156_1 := (HB.out.cell (World.block_lt_of_cell? w _ hx156_1)).trans hx156_1
       replace hx156_2 := (HB.out.cell (World.block_lt_of_cell? w _ hx156_2)).trans hx156_2
       replace hx156_3 := (HB.out.cell (World.block_lt_of_cell? w _ hx156_3)).trans hx156_3
       replace hx156_4 := (HB.out.cell (World.block_lt_of_cell? w _ hx156_4)).trans hx156_4
       replace hx156_5 := (HB.out.cell (World.block_lt_of_cell? w _ hx156_5)).trans hx156_5
       replace hx156_6 := (HB.out.cell (World.block_lt_of_cell? w _ hx156_6)).trans hx156_6
       replace hx156_7 := (HB.out.cell (World.block_lt_of_cell? w _ hx156_7)).trans hx156_7
       replace hx156_8 := (HB.out.cell (World.block_lt_of_cell? w _ hx156_8)).trans hx156_8
       replace hx156_9 := (HB.out.cell (World.block_lt_of_cell? w _ hx156_9)).trans hx156_9
       replace hx156_10 := (HB.out.cell (World.block_lt_of_cell? w _ hx156_10)).trans hx156_10
       replace p156 := eq_true p156
       replace q156 := eq_true q156
       go_wp2_with (first | ((with_reducible refine gate_dst (N := 5) rfl ?_); refine box_event ?hg (N := 5) ?hd (cs := #[.int .i64 0, .int .i64 0, .int .i64 0, .int .i64 0, .string (⟨#[]⟩ : ByteArray), .string (⟨#[]⟩ : ByteArray), .string (⟨#[]⟩ : ByteArray), .string (⟨#[]⟩ : ByteArray), .string (⟨#[]⟩ : ByteArray), .string (⟨#[]⟩ : ByteArray), .string (⟨#[]⟩ : ByteArray)]) (t := 23) ?hr ?_; (case hd => rfl); (case hg => rfl); (case hr => first | (go_simp; done) | (go_simp; rfl)); intro gb157 hg w6 hbox hb; have n0_ := Aside0.mk (Kd.R_below (by (with_reducible repeat (first | apply Kd.R_alloc | apply Kd.R_drewN | apply Kd.R_drew)); exact HO_3.out) hb); have n1_ := Aside0.mk (below_step belH hb); have n2_ := Aside0.mk (hbox); have n3_ := Aside0.mk ((by rw [hg]; exact (below_size belH) : w.heap.size ≤ gb157)); have n4_ := Aside0.mk ((by rw [hg]; exact (below_size belH) : w.heap.size ≤ gb157)); clear HO_3; clear HB; have HO_3 := n0_; have HB := n1_; have BK157 := n2_; have GW157 := n3_; have GE157 := n4_; clear n0_ n1_ n2_ n3_ n4_; clear hb hbox hg; obtain ⟨hcz7_0, hcz7_1, hcz7_2, hcz7_3, hcz7_4, hcz7_5, hcz7_6, hcz7_7, hcz7_8, hcz7_9, hcz7_10, hfz7_0, hfz7_1, hfz7_2, hfz7_3, hfz7_4, hfz7_5, hfz7_6, hfz7_7, hfz7_8, hfz7_9, hfz7_10⟩ := rows11 (w := w6) BK157) | ((with_reducible refine gate_builtin (b := .append) (xs := #[.tmp 12, .tmp 14]) rfl ?_); at_builtin; refine Kd.R_append k62 (w0 := w) w.heap.size rfl (.tmp 12) (.tmp 14) 40 62 (.agg #[(.int .i64 0), (.int .i64 0), (.int .i64 0), (.int .i64 0), (.string ⟨#[]⟩), (.string ⟨#[]⟩), (.string ⟨#[]⟩), (.string ⟨#[]⟩), (.string ⟨#[]⟩), (.string ⟨#[]⟩), (.string ⟨#[]⟩)]) 144 rfl Tryd.underlying40 info62 rfl (by decide) (by omega) u3 x3_1 (⟨(rd_T23 l0 x8_1).f0, (rd_T23 l0 x8_1).f1, (rd_T23 l0 x8_1).f2, (rd_T23 l0 x8_1).f3, (rd_T23 l0 x8_1).f4, (rd_T23 l0 x8_1).f5, (rd_T23 l0 x8_1).f6, (rd_T23 l0 x8_1).f7, (rd_T23 l0 x8_1).f8, (rd_T23 l0 x8_1).f9, (rd_T23 l0 x8_1).f10⟩ : S62) [.int .i64 ((rd_T23 l0 x8_1).f0), .int .i64 ((rd_T23 l0 x8_1).f1), .int .i64 ((rd_T23 l0 x8_1).f2), .int .i64 ((rd_T23 l0 x8_1).f3), .string ((rd_T23 l0 x8_1).f4), .string ((rd_T23 l0 x8_1).f5), .string ((rd_T23 l0 x8_1).f6), .string ((rd_T23 l0 x8_1).f7), .string ((rd_T23 l0 x8_1).f8), .string ((rd_T23 l0 x8_1).f9), .string ((rd_T23 l0 x8_1).f10)] (fun _ => True) (fun _ => False) rfl (by first | (go_simp; done) | (go_simp; rfl)) ?aP (fun _ hk => hk.elim) ?aF ?aO ?aB ?aS ?aL ?_; (case aP => exact k62_mkM _ _ _ (⟨(rd_T23 l0 x8_1).f0, (rd_T23 l0 x8_1).f1, (rd_T23 l0 x8_1).f2, (rd_T23 l0 x8_1).f3, (rd_T23 l0 x8_1).f4, (rd_T23 l0 x8_1).f5, (rd_T23 l0 x8_1).f6, (rd_T23 l0 x8_1).f7, (rd_T23 l0 x8_1).f8, (rd_T23 l0 x8_1).f9, (rd_T23 l0 x8_1).f10⟩ : S62)); (case aB => exact belS); (case aF => exact (fun _ _ => trivial)); (case aO => exact (by (with_reducible repeat (first | apply Kd.R_alloc | apply Kd.R_drewN | apply Kd.R_drew)); exact Kd.R_mono (Kd.R_far (p := ⟨gb157, 10, none⟩) (Kd.R_far (p := ⟨gb157, 9, none⟩) (Kd.R_far (p := ⟨gb157, 8, none⟩) (Kd.R_far8 (g := gb157) (Kd.R_types HO_3.out BK157.out (by decide)) (fun _ hk => hk.2) (.int .i64 ((rd_T23 l0 x8_1).f0)) (.int .i64 ((rd_T23 l0 x8_1).f1)) (.int .i64 ((rd_T23 l0 x8_1).f2)) (.int .i64 ((rd_T23 l0 x8_1).f3)) (.string ((rd_T23 l0 x8_1).f4)) (.string ((rd_T23 l0 x8_1).f5)) (.string ((rd_T23 l0 x8_1).f6)) (.string ((rd_T23 l0 x8_1).f7))) (fun _ hk => hk.2) (.string ((rd_T23 l0 x8_1).f8))) (fun _ hk => hk.2) (.string ((rd_T23 l0 x8_1).f9))) (fun _ hk => hk.2) (.string ((rd_T23 l0 x8_1).f10))) (fun _ hk => trivial))); (case aS => exact (below_size belS)); (case aL => have := LMc5.out; omega); intro v159 w8 ho hb hg hat; rw [← Ny158.out] at ho; have n0_ := Aside0.mk (blk_grown (g := gb157) (o := .cells #[.int .i64 ((rd_T23 l0 x8_1).f0), .int .i64 ((rd_T23 l0 x8_1).f1), .int .i64 ((rd_T23 l0 x8_1).f2), .int .i64 ((rd_T23 l0 x8_1).f3), .string ((rd_T23 l0 x8_1).f4), .string ((rd_T23 l0 x8_1).f5), .string ((rd_T23 l0 x8_1).f6), .string ((rd_T23 l0 x8_1).f7), .string ((rd_T23 l0 x8_1).f8), .string ((rd_T23 l0 x8_1).f9), .string ((rd_T23 l0 x8_1).f10)] 23 (0, 0)) (by refine bY ?_; refine blk_put (cs := #[.int .i64 ((rd_T23 l0 x8_1).f0), .int .i64 ((rd_T23 l0 x8_1).f1), .int .i64 ((rd_T23 l0 x8_1).f2), .int .i64 ((rd_T23 l0 x8_1).f3), .string ((rd_T23 l0 x8_1).f4), .string ((rd_T23 l0 x8_1).f5), .string ((rd_T23 l0 x8_1).f6), .string ((rd_T23 l0 x8_1).f7), .string ((rd_T23 l0 x8_1).f8), .string ((rd_T23 l0 x8_1).f9), .string (⟨#[]⟩ : ByteArray)]) ?_ 10 _ rfl; refine bY ?_; refine blk_put (cs := #[.int .i64 ((rd_T23 l0 x8_1).f0), .int .i64 ((rd_T23 l0 x8_1).f1), .int .i64 ((rd_T23 l0 x8_1).f2), .int .i64 ((rd_T23 l0 x8_1).f3), .string ((rd_T23 l0 x8_1).f4), .string ((rd_T23 l0 x8_1).f5), .string ((rd_T23 l0 x8_1).f6), .string ((rd_T23 l0 x8_1).f7), .string ((rd_T23 l0 x8_1).f8), .string (⟨#[]⟩ : ByteArray), .string (⟨#[]⟩ : ByteArray)]) ?_ 9 _ rfl; refine bY ?_; refine blk_put (cs := #[.int .i64 ((rd_T23 l0 x8_1).f0), .int .i64 ((rd_T23 l0 x8_1).f1), .int .i64 ((rd_T23 l0 x8_1).f2), .int .i64 ((rd_T23 l0 x8_1).f3), .string ((rd_T23 l0 x8_1).f4), .string ((rd_T23 l0 x8_1).f5), .string ((rd_T23 l0 x8_1).f6), .string ((rd_T23 l0 x8_1).f7), .string (⟨#[]⟩ : ByteArray), .string (⟨#[]⟩ : ByteArray), .string (⟨#[]⟩ : ByteArray)]) ?_ 8 _ rfl; refine bY ?_; refine blk_put (cs := #[.int .i64 ((rd_T23 l0 x8_1).f0), .int .i64 ((rd_T23 l0 x8_1).f1), .int .i64 ((rd_T23 l0 x8_1).f2), .int .i64 ((rd_T23 l0 x8_1).f3), .string ((rd_T23 l0 x8_1).f4), .string ((rd_T23 l0 x8_1).f5), .string ((rd_T23 l0 x8_1).f6), .string (⟨#[]⟩ : ByteArray), .string (⟨#[]⟩ : ByteArray), .string (⟨#[]⟩ : ByteArray), .string (⟨#[]⟩ : ByteArray)]) ?_ 7 _ rfl; refine bY ?_; refine blk_put (cs := #[.int .i64 ((rd_T23 l0 x8_1).f0), .int .i64 ((rd_T23 l0 x8_1).f1), .int .i64 ((rd_T23 l0 x8_1).f2), .int .i64 ((rd_T23 l0 x8_1).f3), .string ((rd_T23 l0 x8_1).f4), .string ((rd_T23 l0 x8_1).f5), .string (⟨#[]⟩ : ByteArray), .string (⟨#[]⟩ : ByteArray), .string (⟨#[]⟩ : ByteArray), .string (⟨#[]⟩ : ByteArray), .string (⟨#[]⟩ : ByteArray)]) ?_ 6 _ rfl; refine bY ?_; refine blk_put (cs := #[.int .i64 ((rd_T23 l0 x8_1).f0), .int .i64 ((rd_T23 l0 x8_1).f1), .int .i64 ((rd_T23 l0 x8_1).f2), .int .i64 ((rd_T23 l0 x8_1).f3), .string ((rd_T23 l0 x8_1).f4), .string (⟨#[]⟩ : ByteArray), .string (⟨#[]⟩ : ByteArray), .string (⟨#[]⟩ : ByteArray), .string (⟨#[]⟩ : ByteArray), .string (⟨#[]⟩ : ByteArray), .string (⟨#[]⟩ : ByteArray)]) ?_ 5 _ rfl; refine bY ?_; refine blk_put (cs := #[.int .i64 ((rd_T23 l0 x8_1).f0), .int .i64 ((rd_T23 l0 x8_1).f1), .int .i64 ((rd_T23 l0 x8_1).f2), .int .i64 ((rd_T23 l0 x8_1).f3), .string (⟨#[]⟩ : ByteArray), .string (⟨#[]⟩ : ByteArray), .string (⟨#[]⟩ : ByteArray), .string (⟨#[]⟩ : ByteArray), .string (⟨#[]⟩ : ByteArray), .string (⟨#[]⟩ : ByteArray), .string (⟨#[]⟩ : ByteArray)]) ?_ 4 _ rfl; refine bY ?_; refine blk_put (cs := #[.int .i64 ((rd_T23 l0 x8_1).f0), .int .i64 ((rd_T23 l0 x8_1).f1), .int .i64 ((rd_T23 l0 x8_1).f2), .int .i64 0, .string (⟨#[]⟩ : ByteArray), .string (⟨#[]⟩ : ByteArray), .string (⟨#[]⟩ : ByteArray), .string (⟨#[]⟩ : ByteArray), .string (⟨#[]⟩ : ByteArray), .string (⟨#[]⟩ : ByteArray), .string (⟨#[]⟩ : ByteArray)]) ?_ 3 _ rfl; refine bY ?_; refine blk_put (cs := #[.int .i64 ((rd_T23 l0 x8_1).f0), .int .i64 ((rd_T23 l0 x8_1).f1), .int .i64 0, .int .i64 0, .string (⟨#[]⟩ : ByteArray), .string (⟨#[]⟩ : ByteArray), .string (⟨#[]⟩ : ByteArray), .string (⟨#[]⟩ : ByteArray), .string (⟨#[]⟩ : ByteArray), .string (⟨#[]⟩ : ByteArray), .string (⟨#[]⟩ : ByteArray)]) ?_ 2 _ rfl; refine bY ?_; refine blk_put (cs := #[.int .i64 ((rd_T23 l0 x8_1).f0), .int .i64 0, .int .i64 0, .int .i64 0, .string (⟨#[]⟩ : ByteArray), .string (⟨#[]⟩ : ByteArray), .string (⟨#[]⟩ : ByteArray), .string (⟨#[]⟩ : ByteArray), .string (⟨#[]⟩ : ByteArray), .string (⟨#[]⟩ : ByteArray), .string (⟨#[]⟩ : ByteArray)]) ?_ 1 _ rfl; refine bY ?_; refine blk_put (cs := #[.int .i64 0, .int .i64 0, .int .i64 0, .int .i64 0, .string (⟨#[]⟩ : ByteArray), .string (⟨#[]⟩ : ByteArray), .string (⟨#[]⟩ : ByteArray), .string (⟨#[]⟩ : ByteArray), .string (⟨#[]⟩ : ByteArray), .string (⟨#[]⟩ : ByteArray), .string (⟨#[]⟩ : ByteArray)]) ?_ 0 _ rfl; refine bY ?_; exact BK157.out) hg (Kd.R_ne HO_3.out BK157.out (by decide))); have n1_ := Aside0.mk (hb); have n2_ := Aside0.mk (ho); clear BK157; clear HB; clear HO_3; have BK157 := n0_; have HB := n1_; have HO160 := n2_; clear n0_ n1_ n2_; clear ho hb hg hat))
       go_roundg k1
       case measure => have := HK1.out; omega
       case rel => exact ⟨(y158), (wrap64 (x8_1 + 1)), (by first | rfl | (simp; done) | (simp [*]; done) | (simp [bne_nil]; done) | (simp [bne_nil, *]; done)), H', ⟨by have := HK1.out; omega⟩, ⟨by (with_reducible repeat (first | apply Kd.R_alloc | apply Kd.R_drewN | apply Kd.R_drew)); exact HO160.out⟩, ⟨by repeat (first | (with_reducible first | exact HB.out | apply below_alloc | apply pw_below_drewN | apply below_drew1 | refine below_set ?_ GE157.out) | exact HB.out)⟩⟩
      ·rw [if_neg c5] at H
       exact absurd H (by simp)
     ·rw [if_neg c4] at H
      exact absurd H (by simp)
    ·rw [if_neg c3] at H
     exact absurd H (by simp)
   ·rw [if_neg c2] at H
    have c2b0 : decide (x8_1 < (l0.length : Int)) = false := decide_eq_false c2
    clear c2
    obtain rfl := Option.some.inj H
    go_wp2
    go_ret
    exact ⟨_, by first | rfl | (simp [errW_none, errW_some] <;> rfl) | (simp [*, errW_none, errW_some] <;> rfl), by (with_reducible repeat (first | apply Kd.R_alloc | apply Kd.R_drewN | apply Kd.R_drew)); exact HO_3.out, by repeat (first | (with_reducible first | exact HB.out | apply below_alloc | apply pw_below_drewN | apply below_drew1) | exact HB.out)⟩

/-! ### laws_printed: function 8 -/
def laws_printed.f (k : Nat) (l0 : List (S23)) : Option (ByteArray × Bool) := if (l0.length : Int) > 200 then (some ((⟨#[]⟩ : ByteArray), false)) else ((laws_mountsTo.f k l0).bind fun t161 => ((spec_MountsPrint.f k t161).bind fun bt164 => (if bt164.2 = 1 then (some (bt164.1, decide ((bt164.1.size : Int) ≤ 60000))) else (some (bt164.1, false)))))
theorem laws_printed.mono : ∀ a0 k, LeO (laws_printed.f k a0) (laws_printed.f (k + 1) a0) := by
 intro a0 k
 unfold laws_printed.f
 repeat' first
   | (with_reducible exact laws_mountsTo.mono _ _)
   | (with_reducible exact spec_MountsPrint.mono _ _)
   | (with_reducible exact LeO.refl _)
   | (with_reducible exact LeO.none _)
   | (with_reducible refine LeO.ite ?_ ?_)
   | (with_reducible refine LeO.bind ?_ (fun _ => ?_))
   | exact laws_mountsTo.mono _ _
   | exact spec_MountsPrint.mono _ _
   | exact LeO.none _
   | refine LeO.ite ?_ ?_
   | refine LeO.bind ?_ (fun _ => ?_)
set_option maxHeartbeats 8000000 in
set_option maxRecDepth 100000 in
theorem laws_printed.calls (k : Nat) (A0 : Option Addr) (c0 : Nat) (l0 : List (S23)) (r1 : ByteArray) (r2 : Bool) (w : World) (hr0 : Kd.C k23 w A0 l0.length l0) (hc0 : l0.length ≤ c0) (h : laws_printed.f k l0 = some (r1, r2)) :
  Calls Tryd.prog 8 #[.slice A0 l0.length c0] w fun e w' => e = .returned (.tuple #[.string r1, .bool r2]) ∧ Below w.heap.size w w' := by
 have HR0 := Aside0.mk hr0
 have HC0 := Aside0.mk hc0
 clear hr0 hc0
 have HB := Aside0.mk (Below.refl w.heap.size w)
 have H : (if (l0.length : Int) > 200 then (some ((⟨#[]⟩ : ByteArray), false)) else ((laws_mountsTo.f k l0).bind fun t161 => ((spec_MountsPrint.f k t161).bind fun bt164 => (if bt164.2 = 1 then (some (bt164.1, decide ((bt164.1.size : Int) ≤ 60000))) else (some (bt164.1, false)))))) = some (r1, r2) := h
 clear h
 by_cases c2 : (l0.length : Int) > 200
 ·rw [if_pos c2] at H
  have c2b0 : decide (200 < (l0.length : Int)) = true := decide_eq_true c2
  have c2b1 : decide (200 < l0.length) = true := decide_eq_true (by omega)
  clear c2
  simp only [Option.some.injEq, Prod.mk.injEq] at H
  obtain ⟨rfl, rfl⟩ := H
  go_enter Tryd.func8, Tryd.ntmps8
  go_wp2
  go_ret2
  exact ⟨by first | rfl | (simp [errW_none, errW_some] <;> rfl) | (simp [*, errW_none, errW_some] <;> rfl), by repeat (first | (with_reducible first | exact HB.out | apply below_alloc | apply pw_below_drewN | apply below_drew1) | exact HB.out)⟩
 ·rw [if_neg c2] at H
  have c2b0 : decide (200 < (l0.length : Int)) = false := decide_eq_false c2
  have c2b1 : decide (200 < l0.length) = false := decide_eq_false (by omega)
  clear c2
  replace H := Option.bind_eq_some_iff.mp H
  obtain ⟨t161, A30, H⟩ := H
  have A3 := Aside0.mk A30
  clear A30
  replace H := Option.bind_eq_some_iff.mp H
  obtain ⟨⟨t164, t165⟩, A40, H⟩ := H
  have A4 := Aside0.mk A40
  clear A40
  by_cases c5 : t165 = 1
  ·rw [if_pos c5] at H
   have c5b0 : (t165 == 1) = true := beq_iff_eq.mpr c5
   have c5b1 : (t165 != 1) = false := bne_eq_false_iff_eq.mpr c5
   clear c5
   simp only [Option.some.injEq, Prod.mk.injEq] at H
   obtain ⟨rfl, rfl⟩ := H
   go_enter Tryd.func8, Tryd.ntmps8
   go_wp2_with (first | ((with_reducible refine gate_callee (f := 19) rfl ?_); refine goesL_ (some 11) rfl rfl Tryd.func19 (by kernel_rfl) rfl #[.slice A0 l0.length c0] rfl (by (try simp only [List.map_toArray, List.map_cons, List.map_nil]); first | done | rfl | (simp only [List.length_drop, List.length_take]; rfl)) ?_; (with_reducible refine (laws_mountsTo.calls k _ _ l0 t161 _ ?side1 ?side2 A3.out).mono ?_); (case side1 => repeat (first | exact HR0.out | (with_reducible refine Kd.C_alloc ?_ _) | (with_reducible refine Kd.C_drewN ?_ _) | (with_reducible refine Kd.C_drew ?_))); (case side2 => exact HC0.out); rintro e w6 ⟨v162, rfl, ho0, hb⟩; refine ⟨_, rfl, ?_⟩; have n0_ := Aside0.mk (Kd.R_lower ho0 (below_size belH)); have n1_ := Aside0.mk (below_step belH hb); clear HB; have HO163 := n0_; have HB := n1_; clear n0_ n1_; (try clear hb); (try clear hb2); (try clear hk); (try clear hi); (try clear ho0); obtain ⟨Ao7, co7, eo7⟩ := Kd.R_slice HO163.out; subst eo7) | ((with_reducible refine gate_callee (f := 18) rfl ?_); refine goesL_ (some 12) rfl rfl Tryd.func18 (by kernel_rfl) rfl #[.slice Ao7 t161.length co7] rfl (by (try simp only [List.map_toArray, List.map_cons, List.map_nil]); first | done | rfl | (simp only [List.length_drop, List.length_take]; rfl)) ?_; (with_reducible refine (spec_MountsPrint.calls k _ _ t161 t164 t165 _ ?side1 ?side2 A4.out).mono ?_); (case side1 => repeat (first | exact (Kd.R_reads' HO163.out).2.2 | (with_reducible refine Kd.C_alloc ?_ _) | (with_reducible refine Kd.C_drewN ?_ _) | (with_reducible refine Kd.C_drew ?_))); (case side2 => exact (Kd.R_reads' HO163.out).2.1); rintro e w8 ⟨rfl, hb⟩; refine ⟨_, rfl, ?_⟩; have n0_ := Aside0.mk (Kd.R_below (by (with_reducible repeat (first | apply Kd.R_alloc | apply Kd.R_drewN | apply Kd.R_drew)); exact HO163.out) hb); have n1_ := Aside0.mk (below_step belH hb); clear HO163; clear HB; have HO163 := n0_; have HB := n1_; clear n0_ n1_; (try clear hb); (try clear hb2); (try clear hk); (try clear hi)))
   go_ret2
   exact ⟨by first | rfl | (simp [errW_none, errW_some] <;> rfl) | (simp [*, errW_none, errW_some] <;> rfl), by repeat (first | (with_reducible first | exact HB.out | apply below_alloc | apply pw_below_drewN | apply below_drew1) | exact HB.out)⟩
  ·rw [if_neg c5] at H
   have c5b0 : (t165 == 1) = false := beq_eq_false_iff_ne.mpr c5
   have c5b1 : (t165 != 1) = true := bne_iff_ne.mpr c5
   simp only [Option.some.injEq, Prod.mk.injEq] at H
   obtain ⟨rfl, rfl⟩ := H
   go_enter Tryd.func8, Tryd.ntmps8
   go_wp2_with (first | ((with_reducible refine gate_callee (f := 19) rfl ?_); refine goesL_ (some 11) rfl rfl Tryd.func19 (by kernel_rfl) rfl #[.slice A0 l0.length c0] rfl (by (try simp only [List.map_toArray, List.map_cons, List.map_nil]); first | done | rfl | (simp only [List.length_drop, List.length_take]; rfl)) ?_; (with_reducible refine (laws_mountsTo.calls k _ _ l0 t161 _ ?side1 ?side2 A3.out).mono ?_); (case side1 => repeat (first | exact HR0.out | (with_reducible refine Kd.C_alloc ?_ _) | (with_reducible refine Kd.C_drewN ?_ _) | (with_reducible refine Kd.C_drew ?_))); (case side2 => exact HC0.out); rintro e w9 ⟨v162, rfl, ho0, hb⟩; refine ⟨_, rfl, ?_⟩; have n0_ := Aside0.mk (Kd.R_lower ho0 (below_size belH)); have n1_ := Aside0.mk (below_step belH hb); clear HB; have HO163 := n0_; have HB := n1_; clear n0_ n1_; (try clear hb); (try clear hb2); (try clear hk); (try clear hi); (try clear ho0); obtain ⟨Ao10, co10, eo10⟩ := Kd.R_slice HO163.out; subst eo10) | ((with_reducible refine gate_callee (f := 18) rfl ?_); refine goesL_ (some 12) rfl rfl Tryd.func18 (by kernel_rfl) rfl #[.slice Ao10 t161.length co10] rfl (by (try simp only [List.map_toArray, List.map_cons, List.map_nil]); first | done | rfl | (simp only [List.length_drop, List.length_take]; rfl)) ?_; (with_reducible refine (spec_MountsPrint.calls k _ _ t161 t164 t165 _ ?side1 ?side2 A4.out).mono ?_); (case side1 => repeat (first | exact (Kd.R_reads' HO163.out).2.2 | (with_reducible refine Kd.C_alloc ?_ _) | (with_reducible refine Kd.C_drewN ?_ _) | (with_reducible refine Kd.C_drew ?_))); (case side2 => exact (Kd.R_reads' HO163.out).2.1); rintro e w11 ⟨rfl, hb⟩; refine ⟨_, rfl, ?_⟩; have n0_ := Aside0.mk (Kd.R_below (by (with_reducible repeat (first | apply Kd.R_alloc | apply Kd.R_drewN | apply Kd.R_drew)); exact HO163.out) hb); have n1_ := Aside0.mk (below_step belH hb); clear HO163; clear HB; have HO163 := n0_; have HB := n1_; clear n0_ n1_; (try clear hb); (try clear hb2); (try clear hk); (try clear hi)))
   go_ret2
   exact ⟨by first | rfl | (simp [errW_none, errW_some] <;> rfl) | (simp [*, errW_none, errW_some] <;> rfl), by repeat (first | (with_reducible first | exact HB.out | apply below_alloc | apply pw_below_drewN | apply below_drew1) | exact HB.out)⟩

/-! ### laws_all: function 13 -/
def laws_all.f  : Option (Int × List ByteArray) := some (0, ([] : List ByteArray))
set_option maxHeartbeats 8000000 in
set_option maxRecDepth 100000 in
theorem laws_all.calls  (r1 : Int) (r2 : List ByteArray) (w : World) (h : laws_all.f  = some (r1, r2)) :
  Calls Tryd.prog 13 #[] w fun e w' => ∃ v1_ : Value, e = .returned (.agg #[.int .i64 r1, v1_]) ∧ Kd.R Kd.string 9 w' w.heap.size (fun _ => True) v1_ r2 ∧ Below w.heap.size w w' := by
 have hu33 := Tryd.underlying33
 have HB := Aside0.mk (Below.refl w.heap.size w)
 have H : (some (0, ([] : List ByteArray))) = some (r1, r2) := h
 clear h
 simp only [Option.some.injEq, Prod.mk.injEq] at H
 obtain ⟨rfl, rfl⟩ := H
 go_enter Tryd.func13, Tryd.ntmps13
 go_wp2_with (first | ((with_reducible refine gate_dst (N := 0) rfl ?_); refine box_event ?hg (N := 0) ?hd (cs := #[.int .i64 0, .slice none 0 0]) (t := 33) ?hr ?_; (case hd => rfl); (case hg => rfl); (case hr => first | (go_simp; done) | (go_simp; rfl)); intro gb166 hg w1 hbox hb; have n0_ := Aside0.mk (below_step belH hb); have n1_ := Aside0.mk (hbox); have n2_ := Aside0.mk ((by rw [hg]; exact (below_size belH) : w.heap.size ≤ gb166)); have n3_ := Aside0.mk ((by rw [hg]; exact (below_size belH) : w.heap.size ≤ gb166)); clear HB; have HB := n0_; have BK166 := n1_; have GW166 := n2_; have GE166 := n3_; clear n0_ n1_ n2_ n3_; clear hb hbox hg; have hcz2_0 : w1.cell? ⟨gb166, 0, none⟩ = some (.int .i64 0) := (blk_cell BK166.out 0).trans rfl; have hcz2_1 : w1.cell? ⟨gb166, 1, none⟩ = some (.slice none 0 0) := (blk_cell BK166.out 1).trans rfl; have hfz2_0 := blk_frozen BK166.out 0; have hfz2_1 := blk_frozen BK166.out 1))
 refine bodyPost_ret (results_cell_row rfl _ _ gb166 33 #[.int .i64 0, .slice none 0 0] (0, 0) _ rfl (by refine bY ?_; refine blk_put (cs := #[.int .i64 0, .slice none 0 0]) ?_ 1 _ rfl; refine bY ?_; refine blk_put (cs := #[.int .i64 0, .slice none 0 0]) ?_ 0 _ rfl; refine bY ?_; exact BK166.out) Tryd.underlying33 rfl (by kernel_rfl)) rfl ?_
 exact ⟨_, by first | rfl | (simp [errW_none, errW_some] <;> rfl) | (simp [*, errW_none, errW_some] <;> rfl), by first | exact Kd.R_nil _ _ _ _ _ | exact Kd.N_nil _ _ _ _ _ | exact Kd.V_nil _ _ _ _ _ | exact Kd.Q_nil _ _ _ _ _ | exact Kd.S_nil _ _ _ _ _, by repeat (first | (with_reducible first | exact HB.out | apply below_alloc | apply pw_below_drewN | apply below_drew1 | refine below_set ?_ GE166.out) | exact HB.out)⟩

/-! ### laws_mounts: function 10 -/
def laws_mounts.f  : Option (Bool) := (laws_all.f).bind fun bt167 => ((impl_Mounts.f (⟨#[51, 54, 32, 51, 53, 32, 57, 56, 58, 48, 32, 47, 109, 110, 116, 49, 32, 47, 109, 110, 116, 50, 32, 114, 119, 44, 110, 111, 97, 116, 105, 109, 101, 32, 109, 97, 115, 116, 101, 114, 58, 49, 32, 45, 32, 101, 120, 116, 51, 32, 47, 100, 101, 118, 47, 114, 111, 111, 116, 32, 114, 119, 44, 101, 114, 114, 111, 114, 115, 61, 99, 111, 110, 116, 105, 110, 117, 101, 10]⟩ : ByteArray) bt167.1 bt167.2).bind fun bt171 => (if bt171.2 = 0 then (if (bt171.1.length : Int) = 1 then (if 0 < (bt171.1.length : Int) then (some (((rd_T23 bt171.1 0).f0) == 36 && (((rd_T23 bt171.1 0).f1) == 35 && (((rd_T23 bt171.1 0).f2) == 98 && (((rd_T23 bt171.1 0).f3) == 0 && ((((rd_T23 bt171.1 0).f4).toList) == ([47, 109, 110, 116, 49] : List UInt8) && ((((rd_T23 bt171.1 0).f5).toList) == ([47, 109, 110, 116, 50] : List UInt8) && ((((rd_T23 bt171.1 0).f6).toList) == ([114, 119, 44, 110, 111, 97, 116, 105, 109, 101] : List UInt8) && ((((rd_T23 bt171.1 0).f7).toList) == ([109, 97, 115, 116, 101, 114, 58, 49] : List UInt8) && ((((rd_T23 bt171.1 0).f8).toList) == ([101, 120, 116, 51] : List UInt8) && ((((rd_T23 bt171.1 0).f9).toList) == ([47, 100, 101, 118, 47, 114, 111, 111, 116] : List UInt8) && ((((rd_T23 bt171.1 0).f10).toList) == ([114, 119, 44, 101, 114, 114, 111, 114, 115, 61, 99, 111, 110, 116, 105, 110, 117, 101] : List UInt8))))))))))))) else (none)) else (some false)) else (some false)))
set_option maxHeartbeats 8000000 in
set_option maxRecDepth 100000 in
theorem laws_mounts.calls  (r : Bool) (w : World) (h : laws_mounts.f  = some r) (hTabs : Tabs w := by first | exact hTabs | exact Tabs.below hTabs (by repeat (first | (with_reducible first | exact HB.out | apply below_alloc | apply pw_below_drewN | apply below_drew1 | refine below_set ?_ (Aside0.out (by assumption))) | exact HB.out))) :
  Calls Tryd.prog 10 #[] w fun e w' => e = .returned (.bool r) ∧ Below w.heap.size w w' := by
 have hu23 := Tryd.underlying23
 have HB := Aside0.mk (Below.refl w.heap.size w)
 have H : ((laws_all.f).bind fun bt167 => ((impl_Mounts.f (⟨#[51, 54, 32, 51, 53, 32, 57, 56, 58, 48, 32, 47, 109, 110, 116, 49, 32, 47, 109, 110, 116, 50, 32, 114, 119, 44, 110, 111, 97, 116, 105, 109, 101, 32, 109, 97, 115, 116, 101, 114, 58, 49, 32, 45, 32, 101, 120, 116, 51, 32, 47, 100, 101, 118, 47, 114, 111, 111, 116, 32, 114, 119, 44, 101, 114, 114, 111, 114, 115, 61, 99, 111, 110, 116, 105, 110, 117, 101, 10]⟩ : ByteArray) bt167.1 bt167.2).bind fun bt171 => (if bt171.2 = 0 then (if (bt171.1.length : Int) = 1 then (if 0 < (bt171.1.length : Int) then (some (((rd_T23 bt171.1 0).f0) == 36 && (((rd_T23 bt171.1 0).f1) == 35 && (((rd_T23 bt171.1 0).f2) == 98 && (((rd_T23 bt171.1 0).f3) == 0 && ((((rd_T23 bt171.1 0).f4).toList) == ([47, 109, 110, 116, 49] : List UInt8) && ((((rd_T23 bt171.1 0).f5).toList) == ([47, 109, 110, 116, 50] : List UInt8) && ((((rd_T23 bt171.1 0).f6).toList) == ([114, 119, 44, 110, 111, 97, 116, 105, 109, 101] : List UInt8) && ((((rd_T23 bt171.1 0).f7).toList) == ([109, 97, 115, 116, 101, 114, 58, 49] : List UInt8) && ((((rd_T23 bt171.1 0).f8).toList) == ([101, 120, 116, 51] : List UInt8) && ((((rd_T23 bt171.1 0).f9).toList) == ([47, 100, 101, 118, 47, 114, 111, 111, 116] : List UInt8) && ((((rd_T23 bt171.1 0).f10).toList) == ([114, 119, 44, 101, 114, 114, 111, 114, 115, 61, 99, 111, 110, 116, 105, 110, 117, 101] : List UInt8))))))))))))) else (none)) else (some false)) else (some false)))) = some r := h
 clear h
 replace H := Option.bind_eq_some_iff.mp H
 obtain ⟨⟨t167, t168⟩, A10, H⟩ := H
 have A1 := Aside0.mk A10
 clear A10
 replace H := Option.bind_eq_some_iff.mp H
 obtain ⟨⟨t171, t174⟩, A20, H⟩ := H
 have A2 := Aside0.mk A20
 clear A20
 by_cases c3 : t174 = 0
 ·rw [if_pos c3] at H
  have c3b0 : (t174 == 0) = true := beq_iff_eq.mpr c3
  have c3b1 : (t174 != 0) = false := bne_eq_false_iff_eq.mpr c3
  clear c3
  by_cases c4 : (t171.length : Int) = 1
  ·rw [if_pos c4] at H
   have c4b0 : ((t171.length : Int) == 1) = true := beq_iff_eq.mpr c4
   have c4b1 : ((t171.length : Int) != 1) = false := bne_eq_false_iff_eq.mpr c4
   clear c4
   by_cases c5 : 0 < (t171.length : Int)
   ·rw [if_pos c5] at H
    have c5b0 : decide (0 < (t171.length : Int)) = true := decide_eq_true c5
    have c5b1 : decide (0 < t171.length) = true := decide_eq_true (by omega)
    clear c5
    obtain rfl := Option.some.inj H
    go_enter Tryd.func10, Tryd.ntmps10
    go_wp2_with (first | ((with_reducible refine gate_callee (f := 13) rfl ?_); refine goesL_ (some 4) rfl rfl Tryd.func13 (by kernel_rfl) rfl #[] rfl (by (try simp only [List.map_toArray, List.map_cons, List.map_nil]); first | done | rfl | (simp only [List.length_drop, List.length_take]; rfl)) ?_; (with_reducible refine (laws_all.calls  t167 t168 _ A1.out).mono ?_); rintro e w6 ⟨v169, rfl, ho0, hb⟩; refine ⟨_, rfl, ?_⟩; have n0_ := Aside0.mk (Kd.R_lower ho0 (below_size belH)); have n1_ := Aside0.mk (below_step belH hb); clear HB; have HO170 := n0_; have HB := n1_; clear n0_ n1_; (try clear hb); (try clear hb2); (try clear hk); (try clear hi); (try clear ho0); obtain ⟨Ao7, co7, eo7⟩ := Kd.R_slice HO170.out; subst eo7) | ((with_reducible refine gate_callee (f := 9) rfl ?_); refine goesL_ (some 5) rfl rfl Tryd.func9 (by kernel_rfl) rfl #[.string (⟨#[51, 54, 32, 51, 53, 32, 57, 56, 58, 48, 32, 47, 109, 110, 116, 49, 32, 47, 109, 110, 116, 50, 32, 114, 119, 44, 110, 111, 97, 116, 105, 109, 101, 32, 109, 97, 115, 116, 101, 114, 58, 49, 32, 45, 32, 101, 120, 116, 51, 32, 47, 100, 101, 118, 47, 114, 111, 111, 116, 32, 114, 119, 44, 101, 114, 114, 111, 114, 115, 61, 99, 111, 110, 116, 105, 110, 117, 101, 10]⟩ : ByteArray), .agg #[.int .i64 t167, .slice Ao7 t168.length co7]] rfl (by (try simp only [List.map_toArray, List.map_cons, List.map_nil]); first | done | rfl | (simp only [List.length_drop, List.length_take]; rfl)) ?_; (with_reducible refine (impl_Mounts.calls (⟨#[51, 54, 32, 51, 53, 32, 57, 56, 58, 48, 32, 47, 109, 110, 116, 49, 32, 47, 109, 110, 116, 50, 32, 114, 119, 44, 110, 111, 97, 116, 105, 109, 101, 32, 109, 97, 115, 116, 101, 114, 58, 49, 32, 45, 32, 101, 120, 116, 51, 32, 47, 100, 101, 118, 47, 114, 111, 111, 116, 32, 114, 119, 44, 101, 114, 114, 111, 114, 115, 61, 99, 111, 110, 116, 105, 110, 117, 101, 10]⟩ : ByteArray) t167 _ _ t168 t171 t174 _ ?side1 ?side2 A2.out).mono ?_); (case side1 => repeat (first | exact (Kd.R_reads' HO170.out).2.2 | (with_reducible refine Kd.C_alloc ?_ _) | (with_reducible refine Kd.C_drewN ?_ _) | (with_reducible refine Kd.C_drew ?_))); (case side2 => exact (Kd.R_reads' HO170.out).2.1); rintro e w8 ⟨v172, rfl, ho0, hb⟩; refine ⟨_, rfl, ?_⟩; have n0_ := Aside0.mk (Kd.R_below (by (with_reducible repeat (first | apply Kd.R_alloc | apply Kd.R_drewN | apply Kd.R_drew)); exact HO170.out) hb); have n1_ := Aside0.mk (Kd.R_lower ho0 (below_size belH)); have n2_ := Aside0.mk (below_step belH hb); clear HO170; clear HB; have HO170 := n0_; have HO173 := n1_; have HB := n2_; clear n0_ n1_ n2_; (try clear hb); (try clear hb2); (try clear hk); (try clear hi); (try clear ho0); obtain ⟨Ao9, co9, eo9⟩ := Kd.R_slice HO173.out; subst eo9; have p175 : 0 ≤ (0 : Int) := (by omega); have q175 : 0 < (t171.length : Int) := of_decide_eq_true (by first | (with_reducible assumption) | assumption); obtain ⟨ad175, e175, hx175_0, hx175_1, hx175_2, hx175_3, hx175_4, hx175_5, hx175_6, hx175_7, hx175_8, hx175_9, hx175_10⟩ := at_T23 (Kd.R_reads' HO173.out).2.2 0 p175 q175; cases e175; have qi175 : (0 < t171.length) = True := eq_true (by omega); (try rw [show ((0 : Int)).toNat = 0 from rfl] at hx175_0); (try rw [show 0 * 11 = 0 from rfl] at hx175_0); (try rw [Addr.add_zero'] at hx175_0); (try rw [show ((0 : Int)).toNat = 0 from rfl] at hx175_1); (try rw [show 0 * 11 = 0 from rfl] at hx175_1); (try rw [Addr.add_zero'] at hx175_1); (try rw [show ((0 : Int)).toNat = 0 from rfl] at hx175_2); (try rw [show 0 * 11 = 0 from rfl] at hx175_2); (try rw [Addr.add_zero'] at hx175_2); (try rw [show ((0 : Int)).toNat = 0 from rfl] at hx175_3); (try rw [show 0 * 11 = 0 from rfl] at hx175_3); (try rw [Addr.add_zero'] at hx175_3); (try rw [show ((0 : Int)).toNat = 0 from rfl] at hx175_4); (try rw [show 0 * 11 = 0 from rfl] at hx175_4); (try rw [Addr.add_zero'] at hx175_4); (try rw [show ((0 : Int)).toNat = 0 from rfl] at hx175_5); (try rw [show 0 * 11 = 0 from rfl] at hx175_5); (try rw [Addr.add_zero'] at hx175_5); (try rw [show ((0 : Int)).toNat = 0 from rfl] at hx175_6); (try rw [show 0 * 11 = 0 from rfl] at hx175_6); (try rw [Addr.add_zero'] at hx175_6); (try rw [show ((0 : Int)).toNat = 0 from rfl] at hx175_7); (try rw [show 0 * 11 = 0 from rfl] at hx175_7); (try rw [Addr.add_zero'] at hx175_7); (try rw [show ((0 : Int)).toNat = 0 from rfl] at hx175_8); (try rw [show 0 * 11 = 0 from rfl] at hx175_8); (try rw [Addr.add_zero'] at hx175_8); (try rw [show ((0 : Int)).toNat = 0 from rfl] at hx175_9); (try rw [show 0 * 11 = 0 from rfl] at hx175_9); (try rw [Addr.add_zero'] at hx175_9); (try rw [show ((0 : Int)).toNat = 0 from rfl] at hx175_10); (try rw [show 0 * 11 = 0 from rfl] at hx175_10); (try rw [Addr.add_zero'] at hx175_10); replace p175 := eq_true p175; replace q175 := eq_true q175))
    go_ret
    exact ⟨by first | rfl | (simp [errW_none, errW_some] <;> rfl) | (simp [*, errW_none, errW_some] <;> rfl), by repeat (first | (with_reducible first | exact HB.out | apply below_alloc | apply pw_below_drewN | apply below_drew1) | exact HB.out)⟩
   ·rw [if_neg c5] at H
    exact absurd H (by simp)
  ·rw [if_neg c4] at H
   have c4b0 : ((t171.length : Int) == 1) = false := beq_eq_false_iff_ne.mpr c4
   have c4b1 : ((t171.length : Int) != 1) = true := bne_iff_ne.mpr c4
   obtain rfl := Option.some.inj H
   go_enter Tryd.func10, Tryd.ntmps10
   go_wp2_with (first | ((with_reducible refine gate_callee (f := 13) rfl ?_); refine goesL_ (some 4) rfl rfl Tryd.func13 (by kernel_rfl) rfl #[] rfl (by (try simp only [List.map_toArray, List.map_cons, List.map_nil]); first | done | rfl | (simp only [List.length_drop, List.length_take]; rfl)) ?_; (with_reducible refine (laws_all.calls  t167 t168 _ A1.out).mono ?_); rintro e w10 ⟨v169, rfl, ho0, hb⟩; refine ⟨_, rfl, ?_⟩; have n0_ := Aside0.mk (Kd.R_lower ho0 (below_size belH)); have n1_ := Aside0.mk (below_step belH hb); clear HB; have HO170 := n0_; have HB := n1_; clear n0_ n1_; (try clear hb); (try clear hb2); (try clear hk); (try clear hi); (try clear ho0); obtain ⟨Ao11, co11, eo11⟩ := Kd.R_slice HO170.out; subst eo11) | ((with_reducible refine gate_callee (f := 9) rfl ?_); refine goesL_ (some 5) rfl rfl Tryd.func9 (by kernel_rfl) rfl #[.string (⟨#[51, 54, 32, 51, 53, 32, 57, 56, 58, 48, 32, 47, 109, 110, 116, 49, 32, 47, 109, 110, 116, 50, 32, 114, 119, 44, 110, 111, 97, 116, 105, 109, 101, 32, 109, 97, 115, 116, 101, 114, 58, 49, 32, 45, 32, 101, 120, 116, 51, 32, 47, 100, 101, 118, 47, 114, 111, 111, 116, 32, 114, 119, 44, 101, 114, 114, 111, 114, 115, 61, 99, 111, 110, 116, 105, 110, 117, 101, 10]⟩ : ByteArray), .agg #[.int .i64 t167, .slice Ao11 t168.length co11]] rfl (by (try simp only [List.map_toArray, List.map_cons, List.map_nil]); first | done | rfl | (simp only [List.length_drop, List.length_take]; rfl)) ?_; (with_reducible refine (impl_Mounts.calls (⟨#[51, 54, 32, 51, 53, 32, 57, 56, 58, 48, 32, 47, 109, 110, 116, 49, 32, 47, 109, 110, 116, 50, 32, 114, 119, 44, 110, 111, 97, 116, 105, 109, 101, 32, 109, 97, 115, 116, 101, 114, 58, 49, 32, 45, 32, 101, 120, 116, 51, 32, 47, 100, 101, 118, 47, 114, 111, 111, 116, 32, 114, 119, 44, 101, 114, 114, 111, 114, 115, 61, 99, 111, 110, 116, 105, 110, 117, 101, 10]⟩ : ByteArray) t167 _ _ t168 t171 t174 _ ?side1 ?side2 A2.out).mono ?_); (case side1 => repeat (first | exact (Kd.R_reads' HO170.out).2.2 | (with_reducible refine Kd.C_alloc ?_ _) | (with_reducible refine Kd.C_drewN ?_ _) | (with_reducible refine Kd.C_drew ?_))); (case side2 => exact (Kd.R_reads' HO170.out).2.1); rintro e w12 ⟨v172, rfl, ho0, hb⟩; refine ⟨_, rfl, ?_⟩; have n0_ := Aside0.mk (Kd.R_below (by (with_reducible repeat (first | apply Kd.R_alloc | apply Kd.R_drewN | apply Kd.R_drew)); exact HO170.out) hb); have n1_ := Aside0.mk (Kd.R_lower ho0 (below_size belH)); have n2_ := Aside0.mk (below_step belH hb); clear HO170; clear HB; have HO170 := n0_; have HO173 := n1_; have HB := n2_; clear n0_ n1_ n2_; (try clear hb); (try clear hb2); (try clear hk); (try clear hi); (try clear ho0); obtain ⟨Ao13, co13, eo13⟩ := Kd.R_slice HO173.out; subst eo13))
   go_ret
   exact ⟨by first | rfl | (simp [errW_none, errW_some] <;> rfl) | (simp [*, errW_none, errW_some] <;> rfl), by repeat (first | (with_reducible first | exact HB.out | apply below_alloc | apply pw_below_drewN | apply below_drew1) | exact HB.out)⟩
 ·rw [if_neg c3] at H
  have c3b0 : (t174 == 0) = false := beq_eq_false_iff_ne.mpr c3
  have c3b1 : (t174 != 0) = true := bne_iff_ne.mpr c3
  obtain rfl := Option.some.inj H
  go_enter Tryd.func10, Tryd.ntmps10
  go_wp2_with (first | ((with_reducible refine gate_callee (f := 13) rfl ?_); refine goesL_ (some 4) rfl rfl Tryd.func13 (by kernel_rfl) rfl #[] rfl (by (try simp only [List.map_toArray, List.map_cons, List.map_nil]); first | done | rfl | (simp only [List.length_drop, List.length_take]; rfl)) ?_; (with_reducible refine (laws_all.calls  t167 t168 _ A1.out).mono ?_); rintro e w14 ⟨v169, rfl, ho0, hb⟩; refine ⟨_, rfl, ?_⟩; have n0_ := Aside0.mk (Kd.R_lower ho0 (below_size belH)); have n1_ := Aside0.mk (below_step belH hb); clear HB; have HO170 := n0_; have HB := n1_; clear n0_ n1_; (try clear hb); (try clear hb2); (try clear hk); (try clear hi); (try clear ho0); obtain ⟨Ao15, co15, eo15⟩ := Kd.R_slice HO170.out; subst eo15) | ((with_reducible refine gate_callee (f := 9) rfl ?_); refine goesL_ (some 5) rfl rfl Tryd.func9 (by kernel_rfl) rfl #[.string (⟨#[51, 54, 32, 51, 53, 32, 57, 56, 58, 48, 32, 47, 109, 110, 116, 49, 32, 47, 109, 110, 116, 50, 32, 114, 119, 44, 110, 111, 97, 116, 105, 109, 101, 32, 109, 97, 115, 116, 101, 114, 58, 49, 32, 45, 32, 101, 120, 116, 51, 32, 47, 100, 101, 118, 47, 114, 111, 111, 116, 32, 114, 119, 44, 101, 114, 114, 111, 114, 115, 61, 99, 111, 110, 116, 105, 110, 117, 101, 10]⟩ : ByteArray), .agg #[.int .i64 t167, .slice Ao15 t168.length co15]] rfl (by (try simp only [List.map_toArray, List.map_cons, List.map_nil]); first | done | rfl | (simp only [List.length_drop, List.length_take]; rfl)) ?_; (with_reducible refine (impl_Mounts.calls (⟨#[51, 54, 32, 51, 53, 32, 57, 56, 58, 48, 32, 47, 109, 110, 116, 49, 32, 47, 109, 110, 116, 50, 32, 114, 119, 44, 110, 111, 97, 116, 105, 109, 101, 32, 109, 97, 115, 116, 101, 114, 58, 49, 32, 45, 32, 101, 120, 116, 51, 32, 47, 100, 101, 118, 47, 114, 111, 111, 116, 32, 114, 119, 44, 101, 114, 114, 111, 114, 115, 61, 99, 111, 110, 116, 105, 110, 117, 101, 10]⟩ : ByteArray) t167 _ _ t168 t171 t174 _ ?side1 ?side2 A2.out).mono ?_); (case side1 => repeat (first | exact (Kd.R_reads' HO170.out).2.2 | (with_reducible refine Kd.C_alloc ?_ _) | (with_reducible refine Kd.C_drewN ?_ _) | (with_reducible refine Kd.C_drew ?_))); (case side2 => exact (Kd.R_reads' HO170.out).2.1); rintro e w16 ⟨v172, rfl, ho0, hb⟩; refine ⟨_, rfl, ?_⟩; have n0_ := Aside0.mk (Kd.R_below (by (with_reducible repeat (first | apply Kd.R_alloc | apply Kd.R_drewN | apply Kd.R_drew)); exact HO170.out) hb); have n1_ := Aside0.mk (Kd.R_lower ho0 (below_size belH)); have n2_ := Aside0.mk (below_step belH hb); clear HO170; clear HB; have HO170 := n0_; have HO173 := n1_; have HB := n2_; clear n0_ n1_ n2_; (try clear hb); (try clear hb2); (try clear hk); (try clear hi); (try clear ho0)))
  go_ret
  exact ⟨by first | rfl | (simp [errW_none, errW_some] <;> rfl) | (simp [*, errW_none, errW_some] <;> rfl), by repeat (first | (with_reducible first | exact HB.out | apply below_alloc | apply pw_below_drewN | apply below_drew1) | exact HB.out)⟩

end Go.Proofs.YtokojamaigebaaaDoor.L
