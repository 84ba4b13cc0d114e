-- written by a program of this session (wip/tools/pp.py)
import Derived.Test.YtokojamaigebaaaDoorL0
import Derived.Test.YtokojamaigebaaaDoorL2
namespace Go.Proofs.YtokojamaigebaaaDoor.L
open Go.RowKit Go.Proofs.YtokojamaigebaaaDoorW.PrintWords Go.Proofs.YtokojamaigebaaaDoorW.PrintLast Go.Proofs.YtokojamaigebaaaDoor.M Go.Proofs.YtokojamaigebaaaDoor.MtDoor Go.Proofs.YtokojamaigebaaaDoorW.PrintMore
attribute [local go_sem] max2_int min2_int max_two min_two max_three min_three max_four min_four   -- for this text's walks alone
set_option linter.unusedVariables false
set_option linter.unusedSimpArgs false

/-! ### laws_zzFits1: function 11 -/
def laws_zzFits1.l0 : Nat → List (S23) → Int → Int → Option (Bool)
 | 0, _, _, _ => none
 | k + 1, x8, x9, x10 => if x10 < x9 then (if 0 ≤ x10 then (if x10 < (x8.length : Int) then ((laws_zzFits2.f ((rd_T23 x8 x10).f0) ((rd_T23 x8 x10).f1) ((rd_T23 x8 x10).f2) ((rd_T23 x8 x10).f3) ((rd_T23 x8 x10).f4) ((rd_T23 x8 x10).f5) ((rd_T23 x8 x10).f6) ((rd_T23 x8 x10).f7) ((rd_T23 x8 x10).f8) ((rd_T23 x8 x10).f9) ((rd_T23 x8 x10).f10)).bind fun t209 => (if t209 = true then (laws_zzFits1.l0 k x8 x9 (wrap64 (x10 + 1))) else (some false))) else (none)) else (none)) else (some true)
def laws_zzFits1.f (k : Nat) (l0 : List (S23)) : Option (Bool) := if (l0.length : Int) > 2147483647 then (some false) else (laws_zzFits1.l0 k l0 (l0.length : Int) 0)
theorem laws_zzFits1.mono_l : ∀ k, (∀ y0 y1 y2, LeO (laws_zzFits1.l0 k y0 y1 y2) (laws_zzFits1.l0 (k + 1) y0 y1 y2))
 | 0 => fun _ _ _ r h => by simp [laws_zzFits1.l0] at h
 | k + 1 => by
  have ih0 := laws_zzFits1.mono_l k
  ·intro y0 y1 y2
   unfold laws_zzFits1.l0
   repeat' first
   | (with_reducible exact ih0 _ _ _)
   | (with_reducible exact LeO.refl _)
   | (with_reducible exact LeO.none _)
   | (with_reducible refine LeO.ite ?_ ?_)
   | (with_reducible refine LeO.bind ?_ (fun _ => ?_))
   | exact ih0 _ _ _
   | exact LeO.none _
   | refine LeO.ite ?_ ?_
   | refine LeO.bind ?_ (fun _ => ?_)
theorem laws_zzFits1.mono : ∀ a0 k, LeO (laws_zzFits1.f k a0) (laws_zzFits1.f (k + 1) a0) := by
 intro a0 k
 have ih0 := laws_zzFits1.mono_l k
 unfold laws_zzFits1.f
 repeat' first
   | (with_reducible exact ih0 _ _ _)
   | (with_reducible exact LeO.refl _)
   | (with_reducible exact LeO.none _)
   | (with_reducible refine LeO.ite ?_ ?_)
   | (with_reducible refine LeO.bind ?_ (fun _ => ?_))
   | exact ih0 _ _ _
   | exact LeO.none _
   | refine LeO.ite ?_ ?_
   | refine LeO.bind ?_ (fun _ => ?_)
set_option maxHeartbeats 8000000 in
set_option maxRecDepth 100000 in
theorem laws_zzFits1.calls (k : Nat) (A0 : Option Addr) (c0 : Nat) (l0 : List (S23)) (r : Bool) (w : World) (hr0 : Kd.C k23 w A0 l0.length l0) (hc0 : l0.length ≤ c0) (h : laws_zzFits1.f k l0 = some r) :
  Calls Tryd.prog 11 #[.slice A0 l0.length c0] w fun e w' => e = .returned (.bool r) ∧ Below w.heap.size w w' := by
 have hu23 := Tryd.underlying23
 have HR0 := Aside0.mk hr0
 have HC0 := Aside0.mk hc0
 clear hr0 hc0
 have HB := Aside0.mk (Below.refl w.heap.size w)
 have H : (if (l0.length : Int) > 2147483647 then (some false) else (laws_zzFits1.l0 k l0 (l0.length : Int) 0)) = some r := h
 clear h
 by_cases c2 : (l0.length : Int) > 2147483647
 ·rw [if_pos c2] at H
  have c2b0 : decide (2147483647 < (l0.length : Int)) = true := decide_eq_true c2
  have c2b1 : decide (2147483647 < l0.length) = true := decide_eq_true (by omega)
  clear c2
  obtain rfl := Option.some.inj H
  go_enter Tryd.func11, Tryd.ntmps11
  go_wp2
  go_ret
  exact ⟨by first | rfl | (simp [errW_none, errW_some] <;> rfl) | (simp [*, errW_none, errW_some] <;> rfl), by repeat (first | (with_reducible first | exact HB.out | apply below_alloc | apply pw_below_drewN | apply below_drew1) | exact HB.out)⟩
 ·rw [if_neg c2] at H
  have c2b0 : decide (2147483647 < (l0.length : Int)) = false := decide_eq_false c2
  have c2b1 : decide (2147483647 < l0.length) = false := decide_eq_false (by omega)
  clear c2
  have H' := Aside0.mk H
  clear H
  go_enter Tryd.func11, Tryd.ntmps11
  go_wp2
  go_loopg [10] k (fun kq v10 w' => ∃ (x10_1 : Int), v10 = .int .i64 x10_1 ∧ Aside0 (laws_zzFits1.l0 kq l0 (l0.length : Int) x10_1 = some r) ∧ Aside0 (kq ≤ k) ∧ Aside0 (Below w.heap.size w w'))
  case atStart => exact ⟨(0), (by first | rfl | (simp; done) | (simp [*]; done) | (simp [bne_nil]; done) | (simp [bne_nil, *]; done)), H', ⟨Nat.le_refl _⟩, ⟨by repeat (first | (with_reducible first | exact HB.out | apply below_alloc | apply pw_below_drewN | apply below_drew1) | exact HB.out)⟩⟩
  case round =>
   clear H'
   try clear c1
   try clear c2
   try clear c2b0
   try clear c2b1
   try clear p2
   obtain ⟨x10_1, rfl, HA, HK1, HB⟩ := hrel
   cases gk with
   | zero => exact absurd HA.out (by simp [laws_zzFits1.l0])
   | succ k1 =>
    have H := HA.out
    clear HA
    simp only [laws_zzFits1.l0] at H
    by_cases c3 : x10_1 < (l0.length : Int)
    ·rw [if_pos c3] at H
     have c3b0 : decide (x10_1 < (l0.length : Int)) = true := decide_eq_true c3
     clear c3
     by_cases c4 : 0 ≤ x10_1
     ·rw [if_pos c4] at H
      have c4b0 : decide (0 ≤ x10_1) = true := decide_eq_true c4
      clear c4
      by_cases c5 : x10_1 < (l0.length : Int)
      ·rw [if_pos c5] at H
       have c5b0 : decide (x10_1 < (l0.length : Int)) = true := decide_eq_true c5
       clear c5
       replace H := Option.bind_eq_some_iff.mp H
       obtain ⟨t209, A60, H⟩ := H
       have A6 := Aside0.mk A60
       clear A60
       by_cases c7 : t209 = true
       ·subst c7
        have H1 : (laws_zzFits1.l0 k1 l0 (l0.length : Int) (wrap64 (x10_1 + 1))) = some r := by rw [if_pos rfl] at H; exact H
        clear H
        have H := H1
        clear H1
        have H' := Aside0.mk H
        clear H
        have p207 : 0 ≤ (x10_1 : Int) := of_decide_eq_true (by first | (with_reducible assumption) | assumption)
        have q207 : x10_1 < (l0.length : Int) := of_decide_eq_true (by first | (with_reducible assumption) | assumption)
        obtain ⟨ad207, e207, hx207_0, hx207_1, hx207_2, hx207_3, hx207_4, hx207_5, hx207_6, hx207_7, hx207_8, hx207_9, hx207_10⟩ := at_T23 HR0.out x10_1 p207 q207
        cases e207
        replace hx207_0 := (HB.out.cell (World.block_lt_of_cell? w _ hx207_0)).trans hx207_0
        replace hx207_1 := (HB.out.cell (World.block_lt_of_cell? w _ hx207_1)).trans hx207_1
        replace hx207_2 := (HB.out.cell (World.block_lt_of_cell? w _ hx207_2)).trans hx207_2
        replace hx207_3 := (HB.out.cell (World.block_lt_of_cell? w _ hx207_3)).trans hx207_3
        replace hx207_4 := (HB.out.cell (World.block_lt_of_cell? w _ hx207_4)).trans hx207_4
        replace hx207_5 := (HB.out.cell (World.block_lt_of_cell? w _ hx207_5)).trans hx207_5
        replace hx207_6 := (HB.out.cell (World.block_lt_of_cell? w _ hx207_6)).trans hx207_6
        replace hx207_7 := (HB.out.cell (World.block_lt_of_cell? w _ hx207_7)).trans hx207_7
        replace hx207_8 := (HB.out.cell (World.block_lt_of_cell? w _ hx207_8)).trans hx207_8
        replace hx207_9 := (HB.out.cell (World.block_lt_of_cell? w _ hx207_9)).trans hx207_9
        replace hx207_10 := (HB.out.cell (World.block_lt_of_cell? w _ hx207_10)).trans hx207_10
        replace p207 := eq_true p207
        replace q207 := eq_true q207
        go_wp2_with (first | ((with_reducible refine gate_dst (N := 4) rfl ?_); refine box_event ?hg (N := 4) ?hd (cs := #[.int .i64 0, .int .i64 0, .int .i64 0, .int .i64 0, .string (⟨#[]⟩ : ByteArray), .string (⟨#[]⟩ : ByteArray), .string (⟨#[]⟩ : ByteArray), .string (⟨#[]⟩ : ByteArray), .string (⟨#[]⟩ : ByteArray), .string (⟨#[]⟩ : ByteArray), .string (⟨#[]⟩ : ByteArray)]) (t := 23) ?hr ?_; (case hd => rfl); (case hg => rfl); (case hr => first | (go_simp; done) | (go_simp; rfl)); intro gb208 hg w8 hbox hb; have n0_ := Aside0.mk (below_step belH hb); have n1_ := Aside0.mk (hbox); have n2_ := Aside0.mk ((by rw [hg]; exact (below_size belH) : w.heap.size ≤ gb208)); have n3_ := Aside0.mk ((by rw [hg]; exact (below_size belH) : w.heap.size ≤ gb208)); clear HB; have HB := n0_; have BK208 := n1_; have GW208 := n2_; have GE208 := n3_; clear n0_ n1_ n2_ n3_; clear hb hbox hg; obtain ⟨hcz9_0, hcz9_1, hcz9_2, hcz9_3, hcz9_4, hcz9_5, hcz9_6, hcz9_7, hcz9_8, hcz9_9, hcz9_10, hfz9_0, hfz9_1, hfz9_2, hfz9_3, hfz9_4, hfz9_5, hfz9_6, hfz9_7, hfz9_8, hfz9_9, hfz9_10⟩ := rows11 (w := w8) BK208) | ((with_reducible refine gate_callee (f := 6) rfl ?_); refine goesL_ (some 15) rfl rfl Tryd.func6 (by kernel_rfl) rfl #[.agg #[.int .i64 ((rd_T23 l0 x10_1).f0), .int .i64 ((rd_T23 l0 x10_1).f1), .int .i64 ((rd_T23 l0 x10_1).f2), .int .i64 ((rd_T23 l0 x10_1).f3), .string ((rd_T23 l0 x10_1).f4), .string ((rd_T23 l0 x10_1).f5), .string ((rd_T23 l0 x10_1).f6), .string ((rd_T23 l0 x10_1).f7), .string ((rd_T23 l0 x10_1).f8), .string ((rd_T23 l0 x10_1).f9), .string ((rd_T23 l0 x10_1).f10)]] rfl (by (try simp only [List.map_toArray, List.map_cons, List.map_nil]); first | done | rfl | (simp only [List.length_drop, List.length_take]; rfl)) ?_; (with_reducible refine (laws_zzFits2.calls ((rd_T23 l0 x10_1).f0) ((rd_T23 l0 x10_1).f1) ((rd_T23 l0 x10_1).f2) ((rd_T23 l0 x10_1).f3) ((rd_T23 l0 x10_1).f4) ((rd_T23 l0 x10_1).f5) ((rd_T23 l0 x10_1).f6) ((rd_T23 l0 x10_1).f7) ((rd_T23 l0 x10_1).f8) ((rd_T23 l0 x10_1).f9) ((rd_T23 l0 x10_1).f10) true _ A6.out).mono ?_); rintro e w10 ⟨rfl, hb⟩; refine ⟨_, rfl, ?_⟩; have n0_ := Aside0.mk (blk_below (g := gb208) (o := .cells #[.int .i64 ((rd_T23 l0 x10_1).f0), .int .i64 ((rd_T23 l0 x10_1).f1), .int .i64 ((rd_T23 l0 x10_1).f2), .int .i64 ((rd_T23 l0 x10_1).f3), .string ((rd_T23 l0 x10_1).f4), .string ((rd_T23 l0 x10_1).f5), .string ((rd_T23 l0 x10_1).f6), .string ((rd_T23 l0 x10_1).f7), .string ((rd_T23 l0 x10_1).f8), .string ((rd_T23 l0 x10_1).f9), .string ((rd_T23 l0 x10_1).f10)] 23 (0, 0)) (by refine bY ?_; refine blk_put (cs := #[.int .i64 ((rd_T23 l0 x10_1).f0), .int .i64 ((rd_T23 l0 x10_1).f1), .int .i64 ((rd_T23 l0 x10_1).f2), .int .i64 ((rd_T23 l0 x10_1).f3), .string ((rd_T23 l0 x10_1).f4), .string ((rd_T23 l0 x10_1).f5), .string ((rd_T23 l0 x10_1).f6), .string ((rd_T23 l0 x10_1).f7), .string ((rd_T23 l0 x10_1).f8), .string ((rd_T23 l0 x10_1).f9), .string (⟨#[]⟩ : ByteArray)]) ?_ 10 _ rfl; refine bY ?_; refine blk_put (cs := #[.int .i64 ((rd_T23 l0 x10_1).f0), .int .i64 ((rd_T23 l0 x10_1).f1), .int .i64 ((rd_T23 l0 x10_1).f2), .int .i64 ((rd_T23 l0 x10_1).f3), .string ((rd_T23 l0 x10_1).f4), .string ((rd_T23 l0 x10_1).f5), .string ((rd_T23 l0 x10_1).f6), .string ((rd_T23 l0 x10_1).f7), .string ((rd_T23 l0 x10_1).f8), .string (⟨#[]⟩ : ByteArray), .string (⟨#[]⟩ : ByteArray)]) ?_ 9 _ rfl; refine bY ?_; refine blk_put (cs := #[.int .i64 ((rd_T23 l0 x10_1).f0), .int .i64 ((rd_T23 l0 x10_1).f1), .int .i64 ((rd_T23 l0 x10_1).f2), .int .i64 ((rd_T23 l0 x10_1).f3), .string ((rd_T23 l0 x10_1).f4), .string ((rd_T23 l0 x10_1).f5), .string ((rd_T23 l0 x10_1).f6), .string ((rd_T23 l0 x10_1).f7), .string (⟨#[]⟩ : ByteArray), .string (⟨#[]⟩ : ByteArray), .string (⟨#[]⟩ : ByteArray)]) ?_ 8 _ rfl; refine bY ?_; refine blk_put (cs := #[.int .i64 ((rd_T23 l0 x10_1).f0), .int .i64 ((rd_T23 l0 x10_1).f1), .int .i64 ((rd_T23 l0 x10_1).f2), .int .i64 ((rd_T23 l0 x10_1).f3), .string ((rd_T23 l0 x10_1).f4), .string ((rd_T23 l0 x10_1).f5), .string ((rd_T23 l0 x10_1).f6), .string (⟨#[]⟩ : ByteArray), .string (⟨#[]⟩ : ByteArray), .string (⟨#[]⟩ : ByteArray), .string (⟨#[]⟩ : ByteArray)]) ?_ 7 _ rfl; refine bY ?_; refine blk_put (cs := #[.int .i64 ((rd_T23 l0 x10_1).f0), .int .i64 ((rd_T23 l0 x10_1).f1), .int .i64 ((rd_T23 l0 x10_1).f2), .int .i64 ((rd_T23 l0 x10_1).f3), .string ((rd_T23 l0 x10_1).f4), .string ((rd_T23 l0 x10_1).f5), .string (⟨#[]⟩ : ByteArray), .string (⟨#[]⟩ : ByteArray), .string (⟨#[]⟩ : ByteArray), .string (⟨#[]⟩ : ByteArray), .string (⟨#[]⟩ : ByteArray)]) ?_ 6 _ rfl; refine bY ?_; refine blk_put (cs := #[.int .i64 ((rd_T23 l0 x10_1).f0), .int .i64 ((rd_T23 l0 x10_1).f1), .int .i64 ((rd_T23 l0 x10_1).f2), .int .i64 ((rd_T23 l0 x10_1).f3), .string ((rd_T23 l0 x10_1).f4), .string (⟨#[]⟩ : ByteArray), .string (⟨#[]⟩ : ByteArray), .string (⟨#[]⟩ : ByteArray), .string (⟨#[]⟩ : ByteArray), .string (⟨#[]⟩ : ByteArray), .string (⟨#[]⟩ : ByteArray)]) ?_ 5 _ rfl; refine bY ?_; refine blk_put (cs := #[.int .i64 ((rd_T23 l0 x10_1).f0), .int .i64 ((rd_T23 l0 x10_1).f1), .int .i64 ((rd_T23 l0 x10_1).f2), .int .i64 ((rd_T23 l0 x10_1).f3), .string (⟨#[]⟩ : ByteArray), .string (⟨#[]⟩ : ByteArray), .string (⟨#[]⟩ : ByteArray), .string (⟨#[]⟩ : ByteArray), .string (⟨#[]⟩ : ByteArray), .string (⟨#[]⟩ : ByteArray), .string (⟨#[]⟩ : ByteArray)]) ?_ 4 _ rfl; refine bY ?_; refine blk_put (cs := #[.int .i64 ((rd_T23 l0 x10_1).f0), .int .i64 ((rd_T23 l0 x10_1).f1), .int .i64 ((rd_T23 l0 x10_1).f2), .int .i64 0, .string (⟨#[]⟩ : ByteArray), .string (⟨#[]⟩ : ByteArray), .string (⟨#[]⟩ : ByteArray), .string (⟨#[]⟩ : ByteArray), .string (⟨#[]⟩ : ByteArray), .string (⟨#[]⟩ : ByteArray), .string (⟨#[]⟩ : ByteArray)]) ?_ 3 _ rfl; refine bY ?_; refine blk_put (cs := #[.int .i64 ((rd_T23 l0 x10_1).f0), .int .i64 ((rd_T23 l0 x10_1).f1), .int .i64 0, .int .i64 0, .string (⟨#[]⟩ : ByteArray), .string (⟨#[]⟩ : ByteArray), .string (⟨#[]⟩ : ByteArray), .string (⟨#[]⟩ : ByteArray), .string (⟨#[]⟩ : ByteArray), .string (⟨#[]⟩ : ByteArray), .string (⟨#[]⟩ : ByteArray)]) ?_ 2 _ rfl; refine bY ?_; refine blk_put (cs := #[.int .i64 ((rd_T23 l0 x10_1).f0), .int .i64 0, .int .i64 0, .int .i64 0, .string (⟨#[]⟩ : ByteArray), .string (⟨#[]⟩ : ByteArray), .string (⟨#[]⟩ : ByteArray), .string (⟨#[]⟩ : ByteArray), .string (⟨#[]⟩ : ByteArray), .string (⟨#[]⟩ : ByteArray), .string (⟨#[]⟩ : ByteArray)]) ?_ 1 _ rfl; refine bY ?_; refine blk_put (cs := #[.int .i64 0, .int .i64 0, .int .i64 0, .int .i64 0, .string (⟨#[]⟩ : ByteArray), .string (⟨#[]⟩ : ByteArray), .string (⟨#[]⟩ : ByteArray), .string (⟨#[]⟩ : ByteArray), .string (⟨#[]⟩ : ByteArray), .string (⟨#[]⟩ : ByteArray), .string (⟨#[]⟩ : ByteArray)]) ?_ 0 _ rfl; refine bY ?_; exact BK208.out) hb); have n1_ := Aside0.mk (below_step belS hb); clear BK208; clear HB; have BK208 := n0_; have HB := n1_; clear n0_ n1_; (try clear hb); (try clear hb2); (try clear hk); (try clear hi)))
        go_roundg k1
        case measure => have := HK1.out; omega
        case rel => exact ⟨(wrap64 (x10_1 + 1)), (by first | rfl | (simp; done) | (simp [*]; done) | (simp [bne_nil]; done) | (simp [bne_nil, *]; done)), H', ⟨by have := HK1.out; omega⟩, ⟨by repeat (first | (with_reducible first | exact HB.out | apply below_alloc | apply pw_below_drewN | apply below_drew1 | refine below_set ?_ GE208.out) | exact HB.out)⟩⟩
       ·replace c7 := Bool.eq_false_iff.mpr c7
        subst c7
        have H1 : (some false) = some r := by rw [if_neg (show ¬ (false = true) by decide)] at H; exact H
        clear H
        have H := H1
        clear H1
        obtain rfl := Option.some.inj H
        have p207 : 0 ≤ (x10_1 : Int) := of_decide_eq_true (by first | (with_reducible assumption) | assumption)
        have q207 : x10_1 < (l0.length : Int) := of_decide_eq_true (by first | (with_reducible assumption) | assumption)
        obtain ⟨ad207, e207, hx207_0, hx207_1, hx207_2, hx207_3, hx207_4, hx207_5, hx207_6, hx207_7, hx207_8, hx207_9, hx207_10⟩ := at_T23 HR0.out x10_1 p207 q207
        cases e207
        replace hx207_0 := (HB.out.cell (World.block_lt_of_cell? w _ hx207_0)).trans hx207_0
        replace hx207_1 := (HB.out.cell (World.block_lt_of_cell? w _ hx207_1)).trans hx207_1
        replace hx207_2 := (HB.out.cell (World.block_lt_of_cell? w _ hx207_2)).trans hx207_2
        replace hx207_3 := (HB.out.cell (World.block_lt_of_cell? w _ hx207_3)).trans hx207_3
        replace hx207_4 := (HB.out.cell (World.block_lt_of_cell? w _ hx207_4)).trans hx207_4
        replace hx207_5 := (HB.out.cell (World.block_lt_of_cell? w _ hx207_5)).trans hx207_5
        replace hx207_6 := (HB.out.cell (World.block_lt_of_cell? w _ hx207_6)).trans hx207_6
        replace hx207_7 := (HB.out.cell (World.block_lt_of_cell? w _ hx207_7)).trans hx207_7
        replace hx207_8 := (HB.out.cell (World.block_lt_of_cell? w _ hx207_8)).trans hx207_8
        replace hx207_9 := (HB.out.cell (World.block_lt_of_cell? w _ hx207_9)).trans hx207_9
        replace hx207_10 := (HB.out.cell (World.block_lt_of_cell? w _ hx207_10)).trans hx207_10
        replace p207 := eq_true p207
        replace q207 := eq_true q207
        go_wp2_with (first | ((with_reducible refine gate_dst (N := 4) rfl ?_); refine box_event ?hg (N := 4) ?hd (cs := #[.int .i64 0, .int .i64 0, .int .i64 0, .int .i64 0, .string (⟨#[]⟩ : ByteArray), .string (⟨#[]⟩ : ByteArray), .string (⟨#[]⟩ : ByteArray), .string (⟨#[]⟩ : ByteArray), .string (⟨#[]⟩ : ByteArray), .string (⟨#[]⟩ : ByteArray), .string (⟨#[]⟩ : ByteArray)]) (t := 23) ?hr ?_; (case hd => rfl); (case hg => rfl); (case hr => first | (go_simp; done) | (go_simp; rfl)); intro gb208 hg w11 hbox hb; have n0_ := Aside0.mk (below_step belH hb); have n1_ := Aside0.mk (hbox); have n2_ := Aside0.mk ((by rw [hg]; exact (below_size belH) : w.heap.size ≤ gb208)); have n3_ := Aside0.mk ((by rw [hg]; exact (below_size belH) : w.heap.size ≤ gb208)); clear HB; have HB := n0_; have BK208 := n1_; have GW208 := n2_; have GE208 := n3_; clear n0_ n1_ n2_ n3_; clear hb hbox hg; obtain ⟨hcz12_0, hcz12_1, hcz12_2, hcz12_3, hcz12_4, hcz12_5, hcz12_6, hcz12_7, hcz12_8, hcz12_9, hcz12_10, hfz12_0, hfz12_1, hfz12_2, hfz12_3, hfz12_4, hfz12_5, hfz12_6, hfz12_7, hfz12_8, hfz12_9, hfz12_10⟩ := rows11 (w := w11) BK208) | ((with_reducible refine gate_callee (f := 6) rfl ?_); refine goesL_ (some 15) rfl rfl Tryd.func6 (by kernel_rfl) rfl #[.agg #[.int .i64 ((rd_T23 l0 x10_1).f0), .int .i64 ((rd_T23 l0 x10_1).f1), .int .i64 ((rd_T23 l0 x10_1).f2), .int .i64 ((rd_T23 l0 x10_1).f3), .string ((rd_T23 l0 x10_1).f4), .string ((rd_T23 l0 x10_1).f5), .string ((rd_T23 l0 x10_1).f6), .string ((rd_T23 l0 x10_1).f7), .string ((rd_T23 l0 x10_1).f8), .string ((rd_T23 l0 x10_1).f9), .string ((rd_T23 l0 x10_1).f10)]] rfl (by (try simp only [List.map_toArray, List.map_cons, List.map_nil]); first | done | rfl | (simp only [List.length_drop, List.length_take]; rfl)) ?_; (with_reducible refine (laws_zzFits2.calls ((rd_T23 l0 x10_1).f0) ((rd_T23 l0 x10_1).f1) ((rd_T23 l0 x10_1).f2) ((rd_T23 l0 x10_1).f3) ((rd_T23 l0 x10_1).f4) ((rd_T23 l0 x10_1).f5) ((rd_T23 l0 x10_1).f6) ((rd_T23 l0 x10_1).f7) ((rd_T23 l0 x10_1).f8) ((rd_T23 l0 x10_1).f9) ((rd_T23 l0 x10_1).f10) false _ A6.out).mono ?_); rintro e w13 ⟨rfl, hb⟩; refine ⟨_, rfl, ?_⟩; have n0_ := Aside0.mk (blk_below (g := gb208) (o := .cells #[.int .i64 ((rd_T23 l0 x10_1).f0), .int .i64 ((rd_T23 l0 x10_1).f1), .int .i64 ((rd_T23 l0 x10_1).f2), .int .i64 ((rd_T23 l0 x10_1).f3), .string ((rd_T23 l0 x10_1).f4), .string ((rd_T23 l0 x10_1).f5), .string ((rd_T23 l0 x10_1).f6), .string ((rd_T23 l0 x10_1).f7), .string ((rd_T23 l0 x10_1).f8), .string ((rd_T23 l0 x10_1).f9), .string ((rd_T23 l0 x10_1).f10)] 23 (0, 0)) (by refine bY ?_; refine blk_put (cs := #[.int .i64 ((rd_T23 l0 x10_1).f0), .int .i64 ((rd_T23 l0 x10_1).f1), .int .i64 ((rd_T23 l0 x10_1).f2), .int .i64 ((rd_T23 l0 x10_1).f3), .string ((rd_T23 l0 x10_1).f4), .string ((rd_T23 l0 x10_1).f5), .string ((rd_T23 l0 x10_1).f6), .string ((rd_T23 l0 x10_1).f7), .string ((rd_T23 l0 x10_1).f8), .string ((rd_T23 l0 x10_1).f9), .string (⟨#[]⟩ : ByteArray)]) ?_ 10 _ rfl; refine bY ?_; refine blk_put (cs := #[.int .i64 ((rd_T23 l0 x10_1).f0), .int .i64 ((rd_T23 l0 x10_1).f1), .int .i64 ((rd_T23 l0 x10_1).f2), .int .i64 ((rd_T23 l0 x10_1).f3), .string ((rd_T23 l0 x10_1).f4), .string ((rd_T23 l0 x10_1).f5), .string ((rd_T23 l0 x10_1).f6), .string ((rd_T23 l0 x10_1).f7), .string ((rd_T23 l0 x10_1).f8), .string (⟨#[]⟩ : ByteArray), .string (⟨#[]⟩ : ByteArray)]) ?_ 9 _ rfl; refine bY ?_; refine blk_put (cs := #[.int .i64 ((rd_T23 l0 x10_1).f0), .int .i64 ((rd_T23 l0 x10_1).f1), .int .i64 ((rd_T23 l0 x10_1).f2), .int .i64 ((rd_T23 l0 x10_1).f3), .string ((rd_T23 l0 x10_1).f4), .string ((rd_T23 l0 x10_1).f5), .string ((rd_T23 l0 x10_1).f6), .string ((rd_T23 l0 x10_1).f7), .string (⟨#[]⟩ : ByteArray), .string (⟨#[]⟩ : ByteArray), .string (⟨#[]⟩ : ByteArray)]) ?_ 8 _ rfl; refine bY ?_; refine blk_put (cs := #[.int .i64 ((rd_T23 l0 x10_1).f0), .int .i64 ((rd_T23 l0 x10_1).f1), .int .i64 ((rd_T23 l0 x10_1).f2), .int .i64 ((rd_T23 l0 x10_1).f3), .string ((rd_T23 l0 x10_1).f4), .string ((rd_T23 l0 x10_1).f5), .string ((rd_T23 l0 x10_1).f6), .string (⟨#[]⟩ : ByteArray), .string (⟨#[]⟩ : ByteArray), .string (⟨#[]⟩ : ByteArray), .string (⟨#[]⟩ : ByteArray)]) ?_ 7 _ rfl; refine bY ?_; refine blk_put (cs := #[.int .i64 ((rd_T23 l0 x10_1).f0), .int .i64 ((rd_T23 l0 x10_1).f1), .int .i64 ((rd_T23 l0 x10_1).f2), .int .i64 ((rd_T23 l0 x10_1).f3), .string ((rd_T23 l0 x10_1).f4), .string ((rd_T23 l0 x10_1).f5), .string (⟨#[]⟩ : ByteArray), .string (⟨#[]⟩ : ByteArray), .string (⟨#[]⟩ : ByteArray), .string (⟨#[]⟩ : ByteArray), .string (⟨#[]⟩ : ByteArray)]) ?_ 6 _ rfl; refine bY ?_; refine blk_put (cs := #[.int .i64 ((rd_T23 l0 x10_1).f0), .int .i64 ((rd_T23 l0 x10_1).f1), .int .i64 ((rd_T23 l0 x10_1).f2), .int .i64 ((rd_T23 l0 x10_1).f3), .string ((rd_T23 l0 x10_1).f4), .string (⟨#[]⟩ : ByteArray), .string (⟨#[]⟩ : ByteArray), .string (⟨#[]⟩ : ByteArray), .string (⟨#[]⟩ : ByteArray), .string (⟨#[]⟩ : ByteArray), .string (⟨#[]⟩ : ByteArray)]) ?_ 5 _ rfl; refine bY ?_; refine blk_put (cs := #[.int .i64 ((rd_T23 l0 x10_1).f0), .int .i64 ((rd_T23 l0 x10_1).f1), .int .i64 ((rd_T23 l0 x10_1).f2), .int .i64 ((rd_T23 l0 x10_1).f3), .string (⟨#[]⟩ : ByteArray), .string (⟨#[]⟩ : ByteArray), .string (⟨#[]⟩ : ByteArray), .string (⟨#[]⟩ : ByteArray), .string (⟨#[]⟩ : ByteArray), .string (⟨#[]⟩ : ByteArray), .string (⟨#[]⟩ : ByteArray)]) ?_ 4 _ rfl; refine bY ?_; refine blk_put (cs := #[.int .i64 ((rd_T23 l0 x10_1).f0), .int .i64 ((rd_T23 l0 x10_1).f1), .int .i64 ((rd_T23 l0 x10_1).f2), .int .i64 0, .string (⟨#[]⟩ : ByteArray), .string (⟨#[]⟩ : ByteArray), .string (⟨#[]⟩ : ByteArray), .string (⟨#[]⟩ : ByteArray), .string (⟨#[]⟩ : ByteArray), .string (⟨#[]⟩ : ByteArray), .string (⟨#[]⟩ : ByteArray)]) ?_ 3 _ rfl; refine bY ?_; refine blk_put (cs := #[.int .i64 ((rd_T23 l0 x10_1).f0), .int .i64 ((rd_T23 l0 x10_1).f1), .int .i64 0, .int .i64 0, .string (⟨#[]⟩ : ByteArray), .string (⟨#[]⟩ : ByteArray), .string (⟨#[]⟩ : ByteArray), .string (⟨#[]⟩ : ByteArray), .string (⟨#[]⟩ : ByteArray), .string (⟨#[]⟩ : ByteArray), .string (⟨#[]⟩ : ByteArray)]) ?_ 2 _ rfl; refine bY ?_; refine blk_put (cs := #[.int .i64 ((rd_T23 l0 x10_1).f0), .int .i64 0, .int .i64 0, .int .i64 0, .string (⟨#[]⟩ : ByteArray), .string (⟨#[]⟩ : ByteArray), .string (⟨#[]⟩ : ByteArray), .string (⟨#[]⟩ : ByteArray), .string (⟨#[]⟩ : ByteArray), .string (⟨#[]⟩ : ByteArray), .string (⟨#[]⟩ : ByteArray)]) ?_ 1 _ rfl; refine bY ?_; refine blk_put (cs := #[.int .i64 0, .int .i64 0, .int .i64 0, .int .i64 0, .string (⟨#[]⟩ : ByteArray), .string (⟨#[]⟩ : ByteArray), .string (⟨#[]⟩ : ByteArray), .string (⟨#[]⟩ : ByteArray), .string (⟨#[]⟩ : ByteArray), .string (⟨#[]⟩ : ByteArray), .string (⟨#[]⟩ : ByteArray)]) ?_ 0 _ rfl; refine bY ?_; exact BK208.out) hb); have n1_ := Aside0.mk (below_step belS hb); clear BK208; clear HB; have BK208 := n0_; have HB := n1_; clear n0_ n1_; (try clear hb); (try clear hb2); (try clear hk); (try clear hi)))
        go_ret
        exact ⟨by first | rfl | (simp [errW_none, errW_some] <;> rfl) | (simp [*, errW_none, errW_some] <;> rfl), by repeat (first | (with_reducible first | exact HB.out | apply below_alloc | apply pw_below_drewN | apply below_drew1 | refine below_set ?_ GE208.out) | exact HB.out)⟩
      ·rw [if_neg c5] at H
       exact absurd H (by simp)
     ·rw [if_neg c4] at H
      exact absurd H (by simp)
    ·rw [if_neg c3] at H
     have c3b0 : decide (x10_1 < (l0.length : Int)) = false := decide_eq_false c3
     clear c3
     obtain rfl := Option.some.inj H
     go_wp2
     go_ret
     exact ⟨by first | rfl | (simp [errW_none, errW_some] <;> rfl) | (simp [*, errW_none, errW_some] <;> rfl), by repeat (first | (with_reducible first | exact HB.out | apply below_alloc | apply pw_below_drewN | apply below_drew1) | exact HB.out)⟩

/-! ### laws_zzFits4: function 26 -/
def laws_zzFits4.l0 : Nat → List ByteArray → Int → Int → Option (Bool)
 | 0, _, _, _ => none
 | k + 1, x8, x9, x10 => if x10 < x9 then (if 0 ≤ x10 then (if x10 < (x8.length : Int) then (if ((rdOf ByteArray.empty x8 x10).size : Int) > 2147483647 then (some false) else (laws_zzFits4.l0 k x8 x9 (wrap64 (x10 + 1)))) else (none)) else (none)) else (some true)
def laws_zzFits4.f (k : Nat) (l0 : List ByteArray) : Option (Bool) := if (l0.length : Int) > 2147483647 then (some false) else (laws_zzFits4.l0 k l0 (l0.length : Int) 0)
theorem laws_zzFits4.mono_l : ∀ k, (∀ y0 y1 y2, LeO (laws_zzFits4.l0 k y0 y1 y2) (laws_zzFits4.l0 (k + 1) y0 y1 y2))
 | 0 => fun _ _ _ r h => by simp [laws_zzFits4.l0] at h
 | k + 1 => by
  have ih0 := laws_zzFits4.mono_l k
  ·intro y0 y1 y2
   unfold laws_zzFits4.l0
   repeat' first
   | (with_reducible exact ih0 _ _ _)
   | (with_reducible exact LeO.refl _)
   | (with_reducible exact LeO.none _)
   | (with_reducible refine LeO.ite ?_ ?_)
   | (with_reducible refine LeO.bind ?_ (fun _ => ?_))
   | exact ih0 _ _ _
   | exact LeO.none _
   | refine LeO.ite ?_ ?_
   | refine LeO.bind ?_ (fun _ => ?_)
theorem laws_zzFits4.mono : ∀ a0 k, LeO (laws_zzFits4.f k a0) (laws_zzFits4.f (k + 1) a0) := by
 intro a0 k
 have ih0 := laws_zzFits4.mono_l k
 unfold laws_zzFits4.f
 repeat' first
   | (with_reducible exact ih0 _ _ _)
   | (with_reducible exact LeO.refl _)
   | (with_reducible exact LeO.none _)
   | (with_reducible refine LeO.ite ?_ ?_)
   | (with_reducible refine LeO.bind ?_ (fun _ => ?_))
   | exact ih0 _ _ _
   | exact LeO.none _
   | refine LeO.ite ?_ ?_
   | refine LeO.bind ?_ (fun _ => ?_)
set_option maxHeartbeats 8000000 in
set_option maxRecDepth 100000 in
theorem laws_zzFits4.calls (k : Nat) (A0 : Option Addr) (c0 : Nat) (l0 : List ByteArray) (r : Bool) (w : World) (hr0 : Kd.C Kd.string w A0 l0.length l0) (hc0 : l0.length ≤ c0) (h : laws_zzFits4.f k l0 = some r) :
  Calls Tryd.prog 26 #[.slice A0 l0.length c0] w fun e w' => e = .returned (.bool r) ∧ Drawn0 w w' := by
 have HR0 := Aside0.mk hr0
 have HC0 := Aside0.mk hc0
 clear hr0 hc0
 have H : (if (l0.length : Int) > 2147483647 then (some false) else (laws_zzFits4.l0 k l0 (l0.length : Int) 0)) = some r := h
 clear h
 by_cases c2 : (l0.length : Int) > 2147483647
 ·rw [if_pos c2] at H
  have c2b0 : decide (2147483647 < (l0.length : Int)) = true := decide_eq_true c2
  have c2b1 : decide (2147483647 < l0.length) = true := decide_eq_true (by omega)
  clear c2
  obtain rfl := Option.some.inj H
  go_enter Tryd.func26, Tryd.ntmps26
  go_wp2
  go_ret
  exact ⟨by first | rfl | (simp; done) | (simp [*]; done) | (simp [bne_nil]; done) | (simp [bne_nil, *]; done), by repeat (first | exact Drawn0.refl _ | apply Drawn0.step)⟩
 ·rw [if_neg c2] at H
  have c2b0 : decide (2147483647 < (l0.length : Int)) = false := decide_eq_false c2
  have c2b1 : decide (2147483647 < l0.length) = false := decide_eq_false (by omega)
  clear c2
  have H' := Aside0.mk H
  clear H
  go_enter Tryd.func26, Tryd.ntmps26
  go_wp2
  go_loopg [10] k (fun kq v10 w' => ∃ (x10_1 : Int), v10 = .int .i64 x10_1 ∧ Aside0 (laws_zzFits4.l0 kq l0 (l0.length : Int) x10_1 = some r) ∧ Aside0 (kq ≤ k) ∧ Drawn0 w w')
  case atStart => exact ⟨(0), (by first | rfl | (simp; done) | (simp [*]; done) | (simp [bne_nil]; done) | (simp [bne_nil, *]; done)), H', ⟨Nat.le_refl _⟩, by repeat (first | exact Drawn0.refl _ | apply Drawn0.step)⟩
  case round =>
   clear H'
   try clear c2
   try clear c2b0
   try clear c2b1
   try clear p2
   obtain ⟨x10_1, rfl, HA, HK1, ⟨m1, rfl⟩⟩ := hrel
   cases gk with
   | zero => exact absurd HA.out (by simp [laws_zzFits4.l0])
   | succ k1 =>
    have H := HA.out
    clear HA
    simp only [laws_zzFits4.l0] at H
    by_cases c3 : x10_1 < (l0.length : Int)
    ·rw [if_pos c3] at H
     have c3b0 : decide (x10_1 < (l0.length : Int)) = true := decide_eq_true c3
     clear c3
     by_cases c4 : 0 ≤ x10_1
     ·rw [if_pos c4] at H
      have c4b0 : decide (0 ≤ x10_1) = true := decide_eq_true c4
      clear c4
      by_cases c5 : x10_1 < (l0.length : Int)
      ·rw [if_pos c5] at H
       have c5b0 : decide (x10_1 < (l0.length : Int)) = true := decide_eq_true c5
       clear c5
       by_cases c6 : ((rdOf ByteArray.empty l0 x10_1).size : Int) > 2147483647
       ·rw [if_pos c6] at H
        have c6b0 : decide (2147483647 < ((rdOf ByteArray.empty l0 x10_1).size : Int)) = true := decide_eq_true c6
        have c6b1 : decide (2147483647 < (rdOf ByteArray.empty l0 x10_1).size) = true := decide_eq_true (by omega)
        clear c6
        obtain rfl := Option.some.inj H
        have p210 : 0 ≤ (x10_1 : Int) := of_decide_eq_true (by first | (with_reducible assumption) | assumption)
        have q210 : x10_1 < (l0.length : Int) := of_decide_eq_true (by first | (with_reducible assumption) | assumption)
        obtain ⟨ad210, e210, hx210_0⟩ := Kd.at_string HR0.out x10_1 p210 q210
        cases e210
        replace p210 := eq_true p210
        replace q210 := eq_true q210
        go_wp2
        go_ret
        exact ⟨by first | rfl | (simp; done) | (simp [*]; done) | (simp [bne_nil]; done) | (simp [bne_nil, *]; done), by repeat (first | exact Drawn0.refl _ | apply Drawn0.step)⟩
       ·rw [if_neg c6] at H
        have c6b0 : decide (2147483647 < ((rdOf ByteArray.empty l0 x10_1).size : Int)) = false := decide_eq_false c6
        have c6b1 : decide (2147483647 < (rdOf ByteArray.empty l0 x10_1).size) = false := decide_eq_false (by omega)
        clear c6
        have H' := Aside0.mk H
        clear H
        have p210 : 0 ≤ (x10_1 : Int) := of_decide_eq_true (by first | (with_reducible assumption) | assumption)
        have q210 : x10_1 < (l0.length : Int) := of_decide_eq_true (by first | (with_reducible assumption) | assumption)
        obtain ⟨ad210, e210, hx210_0⟩ := Kd.at_string HR0.out x10_1 p210 q210
        cases e210
        replace p210 := eq_true p210
        replace q210 := eq_true q210
        go_wp2
        go_roundg k1
        case measure => have := HK1.out; omega
        case rel => exact ⟨(wrap64 (x10_1 + 1)), (by first | rfl | (simp; done) | (simp [*]; done) | (simp [bne_nil]; done) | (simp [bne_nil, *]; done)), H', ⟨by have := HK1.out; omega⟩, by repeat (first | exact Drawn0.refl _ | apply Drawn0.step)⟩
      ·rw [if_neg c5] at H
       exact absurd H (by simp)
     ·rw [if_neg c4] at H
      exact absurd H (by simp)
    ·rw [if_neg c3] at H
     have c3b0 : decide (x10_1 < (l0.length : Int)) = false := decide_eq_false c3
     clear c3
     obtain rfl := Option.some.inj H
     go_wp2
     go_ret
     exact ⟨by first | rfl | (simp; done) | (simp [*]; done) | (simp [bne_nil]; done) | (simp [bne_nil, *]; done), by repeat (first | exact Drawn0.refl _ | apply Drawn0.step)⟩

/-! ### laws_zzFits3: function 12 -/
def laws_zzFits3.f (k : Nat) (a0_0 : Int) (l0_1 : List ByteArray) : Option (Bool) := (laws_zzFits4.f k l0_1).bind fun t212 => (if t212 = true then (some true) else (some false))
theorem laws_zzFits3.mono : ∀ a0 a1 k, LeO (laws_zzFits3.f k a0 a1) (laws_zzFits3.f (k + 1) a0 a1) := by
 intro a0 a1 k
 unfold laws_zzFits3.f
 repeat' first
   | (with_reducible exact laws_zzFits4.mono _ _)
   | (with_reducible exact LeO.refl _)
   | (with_reducible exact LeO.none _)
   | (with_reducible refine LeO.ite ?_ ?_)
   | (with_reducible refine LeO.bind ?_ (fun _ => ?_))
   | exact laws_zzFits4.mono _ _
   | exact LeO.none _
   | refine LeO.ite ?_ ?_
   | refine LeO.bind ?_ (fun _ => ?_)
set_option maxHeartbeats 8000000 in
set_option maxRecDepth 100000 in
theorem laws_zzFits3.calls (k : Nat) (a0_0 : Int) (A0_1 : Option Addr) (c0_1 : Nat) (l0_1 : List ByteArray) (r : Bool) (w : World) (hr0_1 : Kd.C Kd.string w A0_1 l0_1.length l0_1) (hc0_1 : l0_1.length ≤ c0_1) (h : laws_zzFits3.f k a0_0 l0_1 = some r) :
  Calls Tryd.prog 12 #[.agg #[.int .i64 a0_0, .slice A0_1 l0_1.length c0_1]] w fun e w' => e = .returned (.bool r) ∧ Below w.heap.size w w' := by
 have hu33 := Tryd.underlying33
 have HR0_1 := Aside0.mk hr0_1
 have HC0_1 := Aside0.mk hc0_1
 clear hr0_1 hc0_1
 have HB := Aside0.mk (Below.refl w.heap.size w)
 have H : ((laws_zzFits4.f k l0_1).bind fun t212 => (if t212 = true then (some true) else (some false))) = some r := h
 clear h
 replace H := Option.bind_eq_some_iff.mp H
 obtain ⟨t212, A20, H⟩ := H
 have A2 := Aside0.mk A20
 clear A20
 by_cases c3 : t212 = true
 ·subst c3
  have H1 : (some true) = some r := by rw [if_pos rfl] at H; exact H
  clear H
  have H := H1
  clear H1
  obtain rfl := Option.some.inj H
  go_enter Tryd.func12, Tryd.ntmps12
  go_wp2_with (first | ((with_reducible refine gate_dst (N := 1) rfl ?_); refine box_event ?hg (N := 1) ?hd (cs := #[.int .i64 a0_0, .slice A0_1 l0_1.length c0_1]) (t := 33) ?hr ?_; (case hd => rfl); (case hg => rfl); (case hr => first | (go_simp; done) | (go_simp; rfl)); intro gb211 hg w4 hbox hb; have n0_ := Aside0.mk (below_step belH hb); have n1_ := Aside0.mk (hbox); have n2_ := Aside0.mk ((by rw [hg]; exact (below_size belH) : w.heap.size ≤ gb211)); have n3_ := Aside0.mk ((by rw [hg]; exact (below_size belH) : w.heap.size ≤ gb211)); clear HB; have HB := n0_; have BK211 := n1_; have GW211 := n2_; have GE211 := n3_; clear n0_ n1_ n2_ n3_; clear hb hbox hg; have hcz5_0 : w4.cell? ⟨gb211, 0, none⟩ = some (.int .i64 a0_0) := (blk_cell BK211.out 0).trans rfl; have hcz5_1 : w4.cell? ⟨gb211, 1, none⟩ = some (.slice A0_1 l0_1.length c0_1) := (blk_cell BK211.out 1).trans rfl; have hfz5_0 := blk_frozen BK211.out 0; have hfz5_1 := blk_frozen BK211.out 1) | ((with_reducible refine gate_callee (f := 26) rfl ?_); refine goesL_ (some 5) rfl rfl Tryd.func26 (by kernel_rfl) rfl #[.slice A0_1 l0_1.length c0_1] rfl (by (try simp only [List.map_toArray, List.map_cons, List.map_nil]); first | done | rfl | (simp only [List.length_drop, List.length_take]; rfl)) ?_; (with_reducible refine (laws_zzFits4.calls k _ _ l0_1 true _ ?side1 ?side2 A2.out).mono ?_); (case side1 => repeat (first | exact (Kd.C_below HR0_1.out HB.out) | (with_reducible refine Kd.C_alloc ?_ _) | (with_reducible refine Kd.C_drewN ?_ _) | (with_reducible refine Kd.C_drew ?_))); (case side2 => exact HC0_1.out); rintro e w' ⟨rfl, ⟨nd, rfl⟩⟩; refine ⟨_, rfl, ?_⟩))
  go_ret
  exact ⟨by first | rfl | (simp [errW_none, errW_some] <;> rfl) | (simp [*, errW_none, errW_some] <;> rfl), by repeat (first | (with_reducible first | exact HB.out | apply below_alloc | apply pw_below_drewN | apply below_drew1 | refine below_set ?_ GE211.out) | exact HB.out)⟩
 ·replace c3 := Bool.eq_false_iff.mpr c3
  subst c3
  have H1 : (some false) = some r := by rw [if_neg (show ¬ (false = true) by decide)] at H; exact H
  clear H
  have H := H1
  clear H1
  obtain rfl := Option.some.inj H
  go_enter Tryd.func12, Tryd.ntmps12
  go_wp2_with (first | ((with_reducible refine gate_dst (N := 1) rfl ?_); refine box_event ?hg (N := 1) ?hd (cs := #[.int .i64 a0_0, .slice A0_1 l0_1.length c0_1]) (t := 33) ?hr ?_; (case hd => rfl); (case hg => rfl); (case hr => first | (go_simp; done) | (go_simp; rfl)); intro gb211 hg w6 hbox hb; have n0_ := Aside0.mk (below_step belH hb); have n1_ := Aside0.mk (hbox); have n2_ := Aside0.mk ((by rw [hg]; exact (below_size belH) : w.heap.size ≤ gb211)); have n3_ := Aside0.mk ((by rw [hg]; exact (below_size belH) : w.heap.size ≤ gb211)); clear HB; have HB := n0_; have BK211 := n1_; have GW211 := n2_; have GE211 := n3_; clear n0_ n1_ n2_ n3_; clear hb hbox hg; have hcz7_0 : w6.cell? ⟨gb211, 0, none⟩ = some (.int .i64 a0_0) := (blk_cell BK211.out 0).trans rfl; have hcz7_1 : w6.cell? ⟨gb211, 1, none⟩ = some (.slice A0_1 l0_1.length c0_1) := (blk_cell BK211.out 1).trans rfl; have hfz7_0 := blk_frozen BK211.out 0; have hfz7_1 := blk_frozen BK211.out 1) | ((with_reducible refine gate_callee (f := 26) rfl ?_); refine goesL_ (some 5) rfl rfl Tryd.func26 (by kernel_rfl) rfl #[.slice A0_1 l0_1.length c0_1] rfl (by (try simp only [List.map_toArray, List.map_cons, List.map_nil]); first | done | rfl | (simp only [List.length_drop, List.length_take]; rfl)) ?_; (with_reducible refine (laws_zzFits4.calls k _ _ l0_1 false _ ?side1 ?side2 A2.out).mono ?_); (case side1 => repeat (first | exact (Kd.C_below HR0_1.out HB.out) | (with_reducible refine Kd.C_alloc ?_ _) | (with_reducible refine Kd.C_drewN ?_ _) | (with_reducible refine Kd.C_drew ?_))); (case side2 => exact HC0_1.out); rintro e w' ⟨rfl, ⟨nd, rfl⟩⟩; refine ⟨_, rfl, ?_⟩))
  go_ret
  exact ⟨by first | rfl | (simp [errW_none, errW_some] <;> rfl) | (simp [*, errW_none, errW_some] <;> rfl), by repeat (first | (with_reducible first | exact HB.out | apply below_alloc | apply pw_below_drewN | apply below_drew1 | refine below_set ?_ GE211.out) | exact HB.out)⟩

end Go.Proofs.YtokojamaigebaaaDoor.L
