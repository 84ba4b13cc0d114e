-- written by a program of this session (wip/tools/pp.py)
import Derived.Test.YtdmpbaanonafbaaGreatDoorN0
namespace Go.Proofs.YtdmpbaanonafbaaGreatDoor.N
open Go.RowKit Go.Proofs.YtdmpbaanonafbaaGreatDoorW.PrintWords Go.Proofs.YtdmpbaanonafbaaGreatDoorW.PrintLast Go.Proofs.YtdmpbaanonafbaaGreatDoor.Flt Go.Proofs.YtdmpbaanonafbaaGreatDoor.GivZ Go.Proofs.YtdmpbaanonafbaaGreatDoor.E Go.Proofs.YtdmpbaanonafbaaGreatDoor.L Go.Proofs.YtdmpbaanonafbaaGreatDoor.V Go.Proofs.YtdmpbaanonafbaaGreatDoor.DoorSn Go.Proofs.YtdmpbaanonafbaaGreatDoor.Lives Go.Proofs.YtdmpbaanonafbaaGreatDoor.R Go.Proofs.YtdmpbaanonafbaaGreatDoorW.PrintMore
attribute [local go_sem] max2_int min2_int max_two min_two max_three min_three max_four min_four   -- for this text's walks alone
set_option linter.unusedVariables false
set_option linter.unusedSimpArgs false

/-! ### spec_softnetFine: function 91 -/
def spec_softnetFine.l0 : Nat → List (S48) → List (S48) → Int → Int → Option (Bool)
 | 0, _, _, _, _ => none
 | k + 1, x0, x5, x6, x7 => if x7 < x6 then (if 0 ≤ x7 then (if x7 < (x5.length : Int) then (if ((rd_T48 x5 x7).f0).toList = ([] : List UInt8) then (if (((rd_T48 x5 x7).f1).length : Int) = 13 then (if 0 < (x0.length : Int) then (if (((rd_T48 x5 x7).f1).length : Int) = (((rd_T48 x0 0).f1).length : Int) then ((spec_counted.f k ((rd_T48 x5 x7).f0) ((rd_T48 x5 x7).f1) ((rd_T48 x5 x7).f2) (((rd_T48 x5 x7).f1).length : Int) 32 0).bind fun t104 => (if t104 = true then (spec_softnetFine.l0 k x0 x5 x6 (wrap64 (x7 + 1))) else (none))) else (some false)) else (none)) else (if (((rd_T48 x5 x7).f1).length : Int) = 15 then (if 0 < (x0.length : Int) then (if (((rd_T48 x5 x7).f1).length : Int) = (((rd_T48 x0 0).f1).length : Int) then ((spec_counted.f k ((rd_T48 x5 x7).f0) ((rd_T48 x5 x7).f1) ((rd_T48 x5 x7).f2) (((rd_T48 x5 x7).f1).length : Int) 32 0).bind fun t106 => (if t106 = true then (spec_softnetFine.l0 k x0 x5 x6 (wrap64 (x7 + 1))) else (none))) else (some false)) else (none)) else (some false))) else (none)) else (none)) else (none)) else (some true)
def spec_softnetFine.f (k : Nat) (l0 : List (S48)) : Option (Bool) := spec_softnetFine.l0 k l0 l0 (l0.length : Int) 0
theorem spec_softnetFine.mono_l : ∀ k, (∀ y0 y1 y2 y3, LeO (spec_softnetFine.l0 k y0 y1 y2 y3) (spec_softnetFine.l0 (k + 1) y0 y1 y2 y3))
 | 0 => fun _ _ _ _ r h => by simp [spec_softnetFine.l0] at h
 | k + 1 => by
  have ih0 := spec_softnetFine.mono_l k
  ·intro y0 y1 y2 y3
   unfold spec_softnetFine.l0
   repeat' first
   | (with_reducible exact ih0 _ _ _ _)
   | (with_reducible exact spec_counted.mono _ _ _ _ _ _ _)
   | (with_reducible exact LeO.refl _)
   | (with_reducible exact LeO.none _)
   | (with_reducible refine LeO.ite ?_ ?_)
   | (with_reducible refine LeO.bind ?_ (fun _ => ?_))
   | exact ih0 _ _ _ _
   | exact spec_counted.mono _ _ _ _ _ _ _
   | exact LeO.none _
   | refine LeO.ite ?_ ?_
   | refine LeO.bind ?_ (fun _ => ?_)
theorem spec_softnetFine.mono : ∀ a0 k, LeO (spec_softnetFine.f k a0) (spec_softnetFine.f (k + 1) a0) := by
 intro a0 k
 have ih0 := spec_softnetFine.mono_l k
 unfold spec_softnetFine.f
 repeat' first
   | (with_reducible exact ih0 _ _ _ _)
   | (with_reducible exact spec_counted.mono _ _ _ _ _ _ _)
   | (with_reducible exact LeO.refl _)
   | (with_reducible exact LeO.none _)
   | (with_reducible refine LeO.ite ?_ ?_)
   | (with_reducible refine LeO.bind ?_ (fun _ => ?_))
   | exact ih0 _ _ _ _
   | exact spec_counted.mono _ _ _ _ _ _ _
   | exact LeO.none _
   | refine LeO.ite ?_ ?_
   | refine LeO.bind ?_ (fun _ => ?_)
def spec_softnetFine.T4 : Bool × List (List Nat × List Nat) := (true, [([], []), ([0], [0]), ([1], [1]), ([2], [2]), ([3], [3]), ([4, 3], [3, 4]), ([5, 3], [3, 5]), ([6, 3], [3, 6]), ([7, 3, 3], [3, 7]), ([8], [8]), ([9, 8], [8, 9]), ([10, 8], [8, 10]), ([11, 8], [8, 11]), ([8, 12, 3], [3, 8, 12]), ([3, 13], [3, 13]), ([14, 8], [14]), ([15], [15]), ([16, 15], [15, 16]), ([17, 15], [15, 17]), ([15], [15]), ([19, 15], [15, 19]), ([20, 15], [15, 20]), ([21, 15], [15, 21]), ([22, 15], [15, 22]), ([18, 23, 15], [15, 18, 23]), ([15, 24], [15, 24]), ([25, 15], [25]), ([26], [26]), ([26], [26]), ([28, 26], [26, 28]), ([29, 26], [26, 29]), ([27, 30, 26, 26], [26, 27, 30]), ([31, 26], [26, 31]), ([26, 32], [26, 32])])
def spec_softnetFine.B4 : List Nat := [0, 1, 3, 7, 15, 31, 63, 127, 255, 511, 1023, 2047, 4095, 8191, 16383, 32767, 65535, 131071, 262143, 65535, 589823, 1638399, 3735551, 7929855, 16777215, 33554431, 67108863, 134217727, 134217727, 402653183, 939524095, 2147483647, 4294967295, 8589934591]
theorem spec_softnetFine.tab4 : rtab .any (opsOf Tryz.f91 4) = spec_softnetFine.T4 := by kernel_rfl
theorem spec_softnetFine.bits4 : waitsOk spec_softnetFine.T4.2 spec_softnetFine.B4 = true := by kernel_rfl
set_option maxHeartbeats 8000000 in
set_option maxRecDepth 100000 in
theorem spec_softnetFine.calls (k : Nat) (A0 : Option Addr) (c0 : Nat) (l0 : List (S48)) (r : Bool) (w : World) (hr0 : Kd.C k48 w A0 l0.length l0) (hc0 : l0.length ≤ c0) (h : spec_softnetFine.f k l0 = some r) :
  Calls Tryz.prog 91 #[.slice A0 l0.length c0] w fun e w' => e = .returned (.bool r) ∧ Below w.heap.size w w' := by
 have hu48 := Tryz.underlying48
 have HR0 := Aside0.mk hr0
 have HC0 := Aside0.mk hc0
 clear hr0 hc0
 have HB := Aside0.mk (Below.refl w.heap.size w)
 have H : (spec_softnetFine.l0 k l0 l0 (l0.length : Int) 0) = some r := h
 clear h
 have H' := Aside0.mk H
 clear H
 go_enter Tryz.func91, Tryz.ntmps91
 go_wp2
 go_loopg [7] k (fun kq v7 w' => ∃ (x7_1 : Int), v7 = .int .i64 x7_1 ∧ Aside0 (spec_softnetFine.l0 kq l0 l0 (l0.length : Int) x7_1 = some r) ∧ Aside0 (kq ≤ k) ∧ Aside0 (Below w.heap.size w w'))
 case atStart => exact ⟨(0), (by first | rfl | (simp; done) | (simp [*]; done) | (simp [bne_nil]; done) | (simp [bne_nil, *]; done)), H', ⟨Nat.le_refl _⟩, ⟨by repeat (first | (with_reducible first | exact HB.out | apply below_alloc | apply pw_below_drewN | apply below_drew1) | exact HB.out)⟩⟩
 case round =>
  clear H'
  obtain ⟨x7_1, rfl, HA, HK1, HB⟩ := hrel
  cases gk with
  | zero => exact absurd HA.out (by simp [spec_softnetFine.l0])
  | succ k1 =>
   have H := HA.out
   clear HA
   simp only [spec_softnetFine.l0] at H
   by_cases c2 : x7_1 < (l0.length : Int)
   ·rw [if_pos c2] at H
    have c2b0 : decide (x7_1 < (l0.length : Int)) = true := decide_eq_true c2
    clear c2
    by_cases c3 : 0 ≤ x7_1
    ·rw [if_pos c3] at H
     have c3b0 : decide (0 ≤ x7_1) = true := decide_eq_true c3
     clear c3
     by_cases c4 : x7_1 < (l0.length : Int)
     ·rw [if_pos c4] at H
      have c4b0 : decide (x7_1 < (l0.length : Int)) = true := decide_eq_true c4
      clear c4
      by_cases c5 : ((rd_T48 l0 x7_1).f0).toList = ([] : List UInt8)
      ·rw [if_pos c5] at H
       have c5b0 : (((rd_T48 l0 x7_1).f0).toList == ([] : List UInt8)) = true := beq_iff_eq.mpr c5
       have c5b1 : (((rd_T48 l0 x7_1).f0).toList != ([] : List UInt8)) = false := bne_eq_false_iff_eq.mpr c5
       clear c5
       by_cases c6 : (((rd_T48 l0 x7_1).f1).length : Int) = 13
       ·rw [if_pos c6] at H
        have c6b0 : ((((rd_T48 l0 x7_1).f1).length : Int) == 13) = true := beq_iff_eq.mpr c6
        have c6b1 : ((((rd_T48 l0 x7_1).f1).length : Int) != 13) = false := bne_eq_false_iff_eq.mpr c6
        clear c6
        by_cases c7 : 0 < (l0.length : Int)
        ·rw [if_pos c7] at H
         have c7b0 : decide (0 < (l0.length : Int)) = true := decide_eq_true c7
         have c7b1 : decide (0 < l0.length) = true := decide_eq_true (by omega)
         clear c7
         by_cases c8 : (((rd_T48 l0 x7_1).f1).length : Int) = (((rd_T48 l0 0).f1).length : Int)
         ·rw [if_pos c8] at H
          have c8b0 : ((((rd_T48 l0 x7_1).f1).length : Int) == (((rd_T48 l0 0).f1).length : Int)) = true := beq_iff_eq.mpr c8
          have c8b1 : ((((rd_T48 l0 x7_1).f1).length : Int) != (((rd_T48 l0 0).f1).length : Int)) = false := bne_eq_false_iff_eq.mpr c8
          have c8b2 : (((rd_T48 l0 x7_1).f1).length == ((rd_T48 l0 0).f1).length) = true := by first | simpa using c8 | (simp at c8 ⊢; omega)
          clear c8
          replace H := Option.bind_eq_some_iff.mp H
          obtain ⟨t104, A90, H⟩ := H
          replace H : (if t104 = true then (spec_softnetFine.l0 k1 l0 l0 (l0.length : Int) (wrap64 (x7_1 + 1))) else (none)) = some r := H
          have A9 := Aside0.mk A90
          clear A90
          by_cases c10 : t104 = true
          ·subst c10
           have H1 : (spec_softnetFine.l0 k1 l0 l0 (l0.length : Int) (wrap64 (x7_1 + 1))) = some r := by rw [if_pos rfl] at H; exact H
           clear H
           have H := H1
           clear H1
           have H' := Aside0.mk H
           clear H
           have p101 : 0 ≤ (x7_1 : Int) := of_decide_eq_true (by first | (with_reducible assumption) | assumption)
           have q101 : x7_1 < (l0.length : Int) := of_decide_eq_true (by first | (with_reducible assumption) | assumption)
           obtain ⟨ad101, A101_1, c101_1, A101_2, c101_2, e101, hx101_0, hx101_1, hx101_2, hl101_1, hi101_1, hl101_2, hi101_2⟩ := at_T48 HR0.out x7_1 p101 q101
           cases e101
           replace hx101_0 := (HB.out.cell (World.block_lt_of_cell? w _ hx101_0)).trans hx101_0
           replace hx101_1 := (HB.out.cell (World.block_lt_of_cell? w _ hx101_1)).trans hx101_1
           replace hx101_2 := (HB.out.cell (World.block_lt_of_cell? w _ hx101_2)).trans hx101_2
           have HR101_1 := Aside0.mk hi101_1
           have HC101_1 := Aside0.mk hl101_1
           clear hi101_1 hl101_1
           have HR101_2 := Aside0.mk hi101_2
           have HC101_2 := Aside0.mk hl101_2
           clear hi101_2 hl101_2
           replace p101 := eq_true p101
           replace q101 := eq_true q101
           try go_wp2_with (first | ((with_reducible refine gate_dst (N := 4) rfl ?_); (try (refine gate_guard (by rfl) ?_; dsimp only)); refine box_event ?hg (N := 4) ?hd (cs := #[.string (⟨#[]⟩ : ByteArray), .slice none 0 0, .slice none 0 0]) (t := 48) ?hr ?_; (case hd => rfl); (case hg => rfl); (case hr => first | (go_simp; done) | (go_simp; rfl)); intro gb102 hg w11 hbox hb; have n0_ := Aside0.mk (below_step belH hb); have n1_ := Aside0.mk (hbox); have n2_ := Aside0.mk ((by rw [hg]; exact (below_size belH) : w.heap.size ≤ gb102)); have n3_ := Aside0.mk ((by rw [hg]; exact (below_size belH) : w.heap.size ≤ gb102)); clear HB; have HB := n0_; have BK102 := n1_; have GW102 := n2_; have GE102 := n3_; clear n0_ n1_ n2_ n3_; clear hb hbox hg; have hcz12_0 : w11.cell? ⟨gb102, 0, none⟩ = some (.string (⟨#[]⟩ : ByteArray)) := (blk_cell BK102.out 0).trans rfl; have hcz12_1 : w11.cell? ⟨gb102, 1, none⟩ = some (.slice none 0 0) := (blk_cell BK102.out 1).trans rfl; have hcz12_2 : w11.cell? ⟨gb102, 2, none⟩ = some (.slice none 0 0) := (blk_cell BK102.out 2).trans rfl; have hfz12_0 := blk_frozen BK102.out 0; have hfz12_1 := blk_frozen BK102.out 1; have hfz12_2 := blk_frozen BK102.out 2))
           have n0_ : Aside0 ((((w11.setCell ⟨gb102, 0, none⟩ (.string ((rd_T48 l0 x7_1).f0))).setCell ⟨gb102, 1, none⟩ (.slice A101_1 ((rd_T48 l0 x7_1).f1).length c101_1)).setCell ⟨gb102, 2, none⟩ (.slice A101_2 ((rd_T48 l0 x7_1).f2).length c101_2)).heap[gb102]? = some (.cells #[.string ((rd_T48 l0 x7_1).f0), .slice A101_1 ((rd_T48 l0 x7_1).f1).length c101_1, .slice A101_2 ((rd_T48 l0 x7_1).f2).length c101_2] 48 (0, 0))) := ⟨by (with_reducible repeat (first | refine bN ?_ _ | refine bW ?_ | refine bA ?_ _)); refine blk_put (cs := #[.string ((rd_T48 l0 x7_1).f0), .slice A101_1 ((rd_T48 l0 x7_1).f1).length c101_1, .slice none 0 0]) ?_ 2 _ rfl; (with_reducible repeat (first | refine bN ?_ _ | refine bW ?_ | refine bA ?_ _)); refine blk_put (cs := #[.string ((rd_T48 l0 x7_1).f0), .slice none 0 0, .slice none 0 0]) ?_ 1 _ rfl; (with_reducible repeat (first | refine bN ?_ _ | refine bW ?_ | refine bA ?_ _)); refine blk_put (cs := #[.string (⟨#[]⟩ : ByteArray), .slice none 0 0, .slice none 0 0]) ?_ 0 _ rfl; (with_reducible repeat (first | refine bN ?_ _ | refine bW ?_ | refine bA ?_ _)); exact BK102.out⟩
           have n1_ : Aside0 (Below w.heap.size w (((w11.setCell ⟨gb102, 0, none⟩ (.string ((rd_T48 l0 x7_1).f0))).setCell ⟨gb102, 1, none⟩ (.slice A101_1 ((rd_T48 l0 x7_1).f1).length c101_1)).setCell ⟨gb102, 2, none⟩ (.slice A101_2 ((rd_T48 l0 x7_1).f2).length c101_2))) := ⟨by repeat (first | (with_reducible first | exact HB.out | apply below_alloc | apply pw_below_drewN | apply below_drew1 | refine below_set ?_ GE102.out) | exact HB.out)⟩
           (try clear BK102)
           (try clear HB)
           generalize (((w11.setCell ⟨gb102, 0, none⟩ (.string ((rd_T48 l0 x7_1).f0))).setCell ⟨gb102, 1, none⟩ (.slice A101_1 ((rd_T48 l0 x7_1).f1).length c101_1)).setCell ⟨gb102, 2, none⟩ (.slice A101_2 ((rd_T48 l0 x7_1).f2).length c101_2)) = w13 at n0_ n1_ ⊢
           have BK102 := n0_
           have HB := n1_
           clear n0_ n1_
           have n0_ := Aside0.mk (blk_drew BK102.out)
           have n1_ := Aside0.mk (below_drew1 HB.out)
           clear BK102
           clear HB
           have BK102 := n0_
           have HB := n1_
           clear n0_ n1_
           have p103 : 0 ≤ (0 : Int) := (by omega)
           have q103 : 0 < (l0.length : Int) := of_decide_eq_true (by first | (with_reducible assumption) | assumption)
           obtain ⟨ad103, A103_1, c103_1, A103_2, c103_2, e103, hx103_0, hx103_1, hx103_2, hl103_1, hi103_1, hl103_2, hi103_2⟩ := at_T48 HR0.out 0 p103 q103
           have hw103_2 := hx103_2
           (try rw [show ((0 : Int)).toNat = 0 from rfl] at hw103_2)
           (try rw [show 0 * 3 = 0 from rfl] at hw103_2)
           (try rw [Addr.add_zero'] at hw103_2)
           have hw103_1 := hx103_1
           (try rw [show ((0 : Int)).toNat = 0 from rfl] at hw103_1)
           (try rw [show 0 * 3 = 0 from rfl] at hw103_1)
           (try rw [Addr.add_zero'] at hw103_1)
           have hw103_0 := hx103_0
           (try rw [show ((0 : Int)).toNat = 0 from rfl] at hw103_0)
           (try rw [show 0 * 3 = 0 from rfl] at hw103_0)
           (try rw [Addr.add_zero'] at hw103_0)
           obtain rfl : ad101 = ad103 := (by injection e103)
           have qi103 : (0 < l0.length) = True := eq_true (by omega)
           (try rw [show ((0 : Int)).toNat = 0 from rfl] at hx103_0)
           (try rw [show 0 * 3 = 0 from rfl] at hx103_0)
           (try rw [Addr.add_zero'] at hx103_0)
           (try rw [show ((0 : Int)).toNat = 0 from rfl] at hx103_1)
           (try rw [show 0 * 3 = 0 from rfl] at hx103_1)
           (try rw [Addr.add_zero'] at hx103_1)
           (try rw [show ((0 : Int)).toNat = 0 from rfl] at hx103_2)
           (try rw [show 0 * 3 = 0 from rfl] at hx103_2)
           (try rw [Addr.add_zero'] at hx103_2)
           replace hx103_0 := (HB.out.cell (World.block_lt_of_cell? w _ hx103_0)).trans hx103_0
           replace hx103_1 := (HB.out.cell (World.block_lt_of_cell? w _ hx103_1)).trans hx103_1
           replace hx103_2 := (HB.out.cell (World.block_lt_of_cell? w _ hx103_2)).trans hx103_2
           have HR103_1 := Aside0.mk hi103_1
           have HC103_1 := Aside0.mk hl103_1
           clear hi103_1 hl103_1
           have HR103_2 := Aside0.mk hi103_2
           have HC103_2 := Aside0.mk hl103_2
           clear hi103_2 hl103_2
           replace p103 := eq_true p103
           replace q103 := eq_true q103
           refine start_ (n := 34) (S := fun w' => w'.cell? ⟨gb102, 0, none⟩ = some (.string ((rd_T48 l0 x7_1).f0)) ∧ w'.cell? ⟨gb102, 1, none⟩ = some (.slice A101_1 ((rd_T48 l0 x7_1).f1).length c101_1) ∧ w'.cell? ⟨gb102, 2, none⟩ = some (.slice A101_2 ((rd_T48 l0 x7_1).f2).length c101_2) ∧ w'.cell? ad101 = some (.string ((rd_T48 l0 0).f0)) ∧ w'.cell? ⟨ad101.block, ad101.off + 1, none⟩ = some (.slice A103_1 ((rd_T48 l0 0).f1).length c103_1) ∧ w'.cell? ⟨ad101.block, ad101.off + 2, none⟩ = some (.slice A103_2 ((rd_T48 l0 0).f2).length c103_2)) (ds := []) (tfA 0 34) (by kernel_rfl) rfl rfl ⟨(blk_cell BK102.out 0).trans rfl, (blk_cell BK102.out 1).trans rfl, (blk_cell BK102.out 2).trans rfl, ((HB.out.cell (World.block_lt_of_cell? w _ hw103_0)).trans hw103_0), ((HB.out.cell (World.block_lt_of_cell? w _ hw103_1)).trans hw103_1), ((HB.out.cell (World.block_lt_of_cell? w _ hw103_2)).trans hw103_2)⟩ (fun hHeld => ?_); refine with_tabW spec_softnetFine.tab4 spec_softnetFine.bits4 (fun HT_ HW_ => ?_)
           generalize w13.drew = w14 at BK102 HB HR103_1 HR103_2 hx103_0 hx103_1 hx103_2 hHeld ⊢
           refine pure_ (i := 0) (N := some 11) (v := ?_) (a' := ?_) (tfA 1 33) rfl rfl (any_of HT_.out (by kernel_rfl)) (fun _ _ _ h => h) (Or.inl ⟨by rfl, ?_⟩) ?_ ?_
           rotate_left
           ·intro w'
            go_simp
            with_reducible rfl
           rotate_left
           ·simp only [Act.put, sA, s0, s1, i64_w, i32_w]
            rfl
           refine take_ (i := 1) (N := some 12) (v := ?_) (a' := ?_) (tfA 2 32) rfl rfl (take_ofW HT_.out HW_.out (by kernel_rfl)) (fun _ _ _ h => h) (Or.inl ⟨by rfl, ?_⟩) hHeld ?_ ?_
           rotate_left
           ·rintro w' ⟨s0, s1, s2, s3, s4, s5⟩
            go_simp
            with_reducible rfl
           rotate_left
           ·simp only [Act.put, sA, s0, s1, i64_w, i32_w]
            rfl
           refine pure_ (i := 2) (N := some 13) (v := ?_) (a' := ?_) (tfA 3 31) rfl rfl (any_of HT_.out (by kernel_rfl)) (fun _ _ _ h => h) (Or.inl ⟨by rfl, ?_⟩) ?_ ?_
           rotate_left
           ·intro w'
            go_simp
            with_reducible rfl
           rotate_left
           ·simp only [Act.put, sA, s0, s1, i64_w, i32_w]
            rfl
           refine pure_ (i := 3) (N := some 14) (v := ?_) (a' := ?_) (tfA 4 30) rfl rfl (any_of HT_.out (by kernel_rfl)) (fun _ _ _ h => h) (Or.inl ⟨by rfl, ?_⟩) ?_ ?_
           rotate_left
           ·intro w'
            go_simp
            with_reducible rfl
           rotate_left
           ·simp only [Act.put, sA, s0, s1, i64_w, i32_w]
            rfl
           refine pure_ (i := 4) (N := some 15) (v := ?_) (a' := ?_) (tfA 5 29) rfl rfl (any_of HT_.out (by kernel_rfl)) (fun _ _ _ h => h) (Or.inl ⟨by rfl, ?_⟩) ?_ ?_
           rotate_left
           ·intro w'
            go_simp
            with_reducible rfl
           rotate_left
           ·simp only [Act.put, sA, s0, s1, i64_w, i32_w]
            rfl
           refine take_ (i := 5) (N := some 16) (v := ?_) (a' := ?_) (tfA 6 28) rfl rfl (take_ofW HT_.out HW_.out (by kernel_rfl)) (fun _ _ _ h => h) (Or.inl ⟨by rfl, ?_⟩) hHeld ?_ ?_
           rotate_left
           ·rintro w' ⟨s0, s1, s2, s3, s4, s5⟩
            go_simp
            with_reducible rfl
           rotate_left
           ·simp only [Act.put, sA, s0, s1, i64_w, i32_w]
            rfl
           refine pure_ (i := 6) (N := some 17) (v := ?_) (a' := ?_) (tfA 7 27) rfl rfl (any_of HT_.out (by kernel_rfl)) (fun _ _ _ h => h) (Or.inl ⟨by rfl, ?_⟩) ?_ ?_
           rotate_left
           ·intro w'
            go_simp
            with_reducible rfl
           rotate_left
           ·simp only [Act.put, sA, s0, s1, i64_w, i32_w]
            rfl
           refine pure_ (i := 7) (N := some 18) (v := ?_) (a' := ?_) (tfA 8 26) rfl rfl (any_of HT_.out (by kernel_rfl)) (fun _ _ _ h => h) (Or.inl ⟨by rfl, ?_⟩) ?_ ?_
           rotate_left
           ·intro w'
            go_simp
            with_reducible rfl
           rotate_left
           ·simp only [Act.put, sA, s0, s1, i64_w, i32_w]
            rfl
           refine pure_ (i := 8) (N := some 19) (v := ?_) (a' := ?_) (tfA 9 25) rfl rfl (any_of HT_.out (by kernel_rfl)) (fun _ _ _ h => h) (Or.inl ⟨by rfl, ?_⟩) ?_ ?_
           rotate_left
           ·intro w'
            go_simp
            with_reducible rfl
           rotate_left
           ·simp only [Act.put, sA, s0, s1, i64_w, i32_w]
            rfl
           refine pure_ (i := 9) (N := some 20) (v := undef) (a' := ?_) (tfA 10 24) rfl rfl (any_of HT_.out (by kernel_rfl)) (fun _ _ _ h => h) (Or.inr ⟨by rfl, rfl⟩) ?_ ?_
           rotate_left
           ·simp only [Act.put, sA, s0, s1, i64_w, i32_w]
            rfl
           refine pure_ (i := 10) (N := some 21) (v := undef) (a' := ?_) (tfA 11 23) rfl rfl (any_of HT_.out (by kernel_rfl)) (fun _ _ _ h => h) (Or.inr ⟨by rfl, rfl⟩) ?_ ?_
           rotate_left
           ·simp only [Act.put, sA, s0, s1, i64_w, i32_w]
            rfl
           refine pure_ (i := 11) (N := some 22) (v := undef) (a' := ?_) (tfA 12 22) rfl rfl (any_of HT_.out (by kernel_rfl)) (fun _ _ _ h => h) (Or.inr ⟨by rfl, rfl⟩) ?_ ?_
           rotate_left
           ·simp only [Act.put, sA, s0, s1, i64_w, i32_w]
            rfl
           refine pure_ (i := 12) (N := some 23) (v := undef) (a' := ?_) (tfA 13 21) rfl rfl (any_of HT_.out (by kernel_rfl)) (fun _ _ _ h => h) (Or.inr ⟨by rfl, rfl⟩) ?_ ?_
           rotate_left
           ·simp only [Act.put, sA, s0, s1, i64_w, i32_w]
            rfl
           refine pure_ (i := 13) (N := some 24) (v := ?_) (a' := ?_) (tfA 14 20) rfl rfl (any_of HT_.out (by kernel_rfl)) (fun _ _ _ h => h) (Or.inl ⟨by rfl, ?_⟩) ?_ ?_
           rotate_left
           ·intro w'
            go_simp
            with_reducible rfl
           rotate_left
           ·simp only [Act.put, sA, s0, s1, i64_w, i32_w]
            rfl
           refine pure_ (i := 14) (N := some 25) (v := ?_) (a' := ?_) (tfA 15 19) rfl rfl (any_of HT_.out (by kernel_rfl)) (fun _ _ _ h => h) (Or.inl ⟨by rfl, ?_⟩) ?_ ?_
           rotate_left
           ·intro w'
            go_simp
            with_reducible rfl
           rotate_left
           ·simp only [Act.put, sA, s0, s1, i64_w, i32_w]
            rfl
           refine pure_ (i := 15) (N := some 26) (v := ?_) (a' := ?_) (tfA 16 18) rfl rfl (any_of HT_.out (by kernel_rfl)) (fun _ _ _ h => h) (Or.inl ⟨by rfl, ?_⟩) ?_ ?_
           rotate_left
           ·intro w'
            go_simp
            with_reducible rfl
           rotate_left
           ·simp only [Act.put, sA, s0, s1, i64_w, i32_w]
            rfl
           refine pure_ (i := 16) (N := some 27) (v := ?_) (a' := ?_) (tfA 17 17) rfl rfl (any_of HT_.out (by kernel_rfl)) (fun _ _ _ h => h) (Or.inl ⟨by rfl, ?_⟩) ?_ ?_
           rotate_left
           ·intro w'
            go_simp
            with_reducible rfl
           rotate_left
           ·simp only [Act.put, sA, s0, s1, i64_w, i32_w]
            rfl
           refine pure_ (i := 19) (N := some 30) (v := ?_) (a' := ?_) (bnA 34 655359) rfl rfl (any_of HT_.out (by kernel_rfl)) (fun _ _ _ h => h) (Or.inl ⟨by rfl, ?_⟩) ?_ ?_
           rotate_left
           ·intro w'
            go_simp
            with_reducible rfl
           rotate_left
           ·simp only [Act.put, sA, s0, s1, i64_w, i32_w]
            rfl
           refine pure_ (i := 20) (N := some 31) (v := ?_) (a' := ?_) (bnA 34 1703935) rfl rfl (any_of HT_.out (by kernel_rfl)) (fun _ _ _ h => h) (Or.inl ⟨by rfl, ?_⟩) ?_ ?_
           rotate_left
           ·intro w'
            go_simp
            with_reducible rfl
           rotate_left
           ·simp only [Act.put, sA, s0, s1, i64_w, i32_w]
            rfl
           refine pure_ (i := 21) (N := some 32) (v := ?_) (a' := ?_) (bnA 34 3801087) rfl rfl (any_of HT_.out (by kernel_rfl)) (fun _ _ _ h => h) (Or.inl ⟨by rfl, ?_⟩) ?_ ?_
           rotate_left
           ·intro w'
            go_simp
            with_reducible rfl
           rotate_left
           ·simp only [Act.put, sA, s0, s1, i64_w, i32_w]
            rfl
           refine take_ (i := 17) (N := some 28) (v := ?_) (a' := ?_) (bnA 34 3932159) rfl rfl (take_ofW HT_.out HW_.out (by kernel_rfl)) (fun _ _ _ h => h) (Or.inl ⟨by rfl, ?_⟩) hHeld ?_ ?_
           rotate_left
           ·rintro w' ⟨s0, s1, s2, s3, s4, s5⟩
            go_simp
            with_reducible rfl
           rotate_left
           ·simp only [Act.put, sA, s0, s1, i64_w, i32_w]
            rfl
           refine pure_ (i := 18) (N := some 29) (v := ?_) (a' := ?_) (tfA 22 12) rfl rfl (any_of HT_.out (by kernel_rfl)) (fun _ _ _ h => h) (Or.inl ⟨by rfl, ?_⟩) ?_ ?_
           rotate_left
           ·intro w'
            go_simp
            with_reducible rfl
           rotate_left
           ·simp only [Act.put, sA, s0, s1, i64_w, i32_w]
            rfl
           refine take_ (i := 22) (N := some 33) (v := ?_) (a' := ?_) (tfA 23 11) rfl rfl (take_ofW HT_.out HW_.out (by kernel_rfl)) (fun _ _ _ h => h) (Or.inl ⟨by rfl, ?_⟩) hHeld ?_ ?_
           rotate_left
           ·rintro w' ⟨s0, s1, s2, s3, s4, s5⟩
            go_simp
            with_reducible rfl
           rotate_left
           ·simp only [Act.put, sA, s0, s1, i64_w, i32_w]
            rfl
           refine pure_ (i := 23) (N := some 34) (v := ?_) (a' := ?_) (tfA 24 10) rfl rfl (any_of HT_.out (by kernel_rfl)) (fun _ _ _ h => h) (Or.inl ⟨by rfl, ?_⟩) ?_ ?_
           rotate_left
           ·intro w'
            go_simp
            with_reducible rfl
           rotate_left
           ·simp only [Act.put, sA, s0, s1, i64_w, i32_w]
            rfl
           refine pure_ (i := 24) (N := some 35) (v := ?_) (a' := ?_) (tfA 25 9) rfl rfl (any_of HT_.out (by kernel_rfl)) (fun _ _ _ h => h) (Or.inl ⟨by rfl, ?_⟩) ?_ ?_
           rotate_left
           ·intro w'
            go_simp
            with_reducible rfl
           rotate_left
           ·simp only [Act.put, sA, s0, s1, i64_w, i32_w]
            rfl
           refine pure_ (i := 25) (N := some 36) (v := ?_) (a' := ?_) (tfA 26 8) rfl rfl (any_of HT_.out (by kernel_rfl)) (fun _ _ _ h => h) (Or.inl ⟨by rfl, ?_⟩) ?_ ?_
           rotate_left
           ·intro w'
            go_simp
            with_reducible rfl
           rotate_left
           ·simp only [Act.put, sA, s0, s1, i64_w, i32_w]
            rfl
           refine pure_ (i := 26) (N := some 37) (v := ?_) (a' := ?_) (tfA 27 7) rfl rfl (any_of HT_.out (by kernel_rfl)) (fun _ _ _ h => h) (Or.inl ⟨by rfl, ?_⟩) ?_ ?_
           rotate_left
           ·intro w'
            go_simp
            with_reducible rfl
           rotate_left
           ·simp only [Act.put, sA, s0, s1, i64_w, i32_w]
            rfl
           refine pure_ (i := 28) (N := some 39) (v := ?_) (a' := ?_) (bnA 34 402653183) rfl rfl (any_of HT_.out (by kernel_rfl)) (fun _ _ _ h => h) (Or.inl ⟨by rfl, ?_⟩) ?_ ?_
           rotate_left
           ·intro w'
            go_simp
            with_reducible rfl
           rotate_left
           ·simp only [Act.put, sA, s0, s1, i64_w, i32_w]
            rfl
           refine take_ (i := 27) (N := some 38) (v := ?_) (a' := ?_) (tfA 29 5) rfl rfl (take_ofW HT_.out HW_.out (by kernel_rfl)) (fun _ _ _ h => h) (Or.inl ⟨by rfl, ?_⟩) hHeld ?_ ?_
           rotate_left
           ·rintro w' ⟨s0, s1, s2, s3, s4, s5⟩
            go_simp
            with_reducible rfl
           rotate_left
           ·simp only [Act.put, sA, s0, s1, i64_w, i32_w]
            rfl
           refine take_ (i := 29) (N := some 40) (v := ?_) (a' := ?_) (tfA 30 4) rfl rfl (take_ofW HT_.out HW_.out (by kernel_rfl)) (fun _ _ _ h => h) (Or.inl ⟨by rfl, ?_⟩) hHeld ?_ ?_
           rotate_left
           ·rintro w' ⟨s0, s1, s2, s3, s4, s5⟩
            go_simp
            with_reducible rfl
           rotate_left
           ·simp only [Act.put, sA, s0, s1, i64_w, i32_w]
            rfl
           refine pure_ (i := 30) (N := some 41) (v := ?_) (a' := ?_) (tfA 31 3) rfl rfl (any_of HT_.out (by kernel_rfl)) (fun _ _ _ h => h) (Or.inl ⟨by rfl, ?_⟩) ?_ ?_
           rotate_left
           ·intro w'
            go_simp
            with_reducible rfl
           rotate_left
           ·simp only [Act.put, sA, s0, s1, i64_w, i32_w]
            rfl
           refine one_ (i := 31) (N := some 42) (tfA 32 2) rfl rfl (one_of HT_.out (by kernel_rfl)) (by decide) (fun K hK => ?_)
           refine goes_ Tryz.func144 (by kernel_rfl) rfl #[.agg #[.string ((rd_T48 l0 x7_1).f0), .slice A101_1 ((rd_T48 l0 x7_1).f1).length c101_1, .slice A101_2 ((rd_T48 l0 x7_1).f2).length c101_2], .int .i64 (((rd_T48 l0 x7_1).f1).length : Int), .int .i64 32, .int .i64 0] (by rfl) rfl rfl (by (try simp only [List.map_toArray, List.map_cons, List.map_nil]); first | done | rfl | (simp only [List.length_drop, List.length_take]; rfl)) ?_
           with_reducible refine (spec_counted.calls k1 ((rd_T48 l0 x7_1).f0) _ _ ((rd_T48 l0 x7_1).f1) _ _ ((rd_T48 l0 x7_1).f2) (((rd_T48 l0 x7_1).f1).length : Int) 32 0 true _ ?side1 ?side2 ?side3 ?side4 A9.out).mono ?_
           (case side1 => repeat (first | exact (Kd.C_below HR101_1.out HB.out) | (with_reducible refine Kd.C_alloc ?_ _) | (with_reducible refine Kd.C_drewN ?_ _) | (with_reducible refine Kd.C_drew ?_)))
           (case side2 => exact HC101_1.out)
           (case side3 => repeat (first | exact (Kd.C_below HR101_2.out HB.out) | (with_reducible refine Kd.C_alloc ?_ _) | (with_reducible refine Kd.C_drewN ?_ _) | (with_reducible refine Kd.C_drew ?_)))
           (case side4 => exact HC101_2.out)
           rintro e w15 ⟨rfl, hb⟩
           refine ⟨_, rfl, ?_⟩
           have n0_ := Aside0.mk (blk_below (g := gb102) (o := .cells #[.string ((rd_T48 l0 x7_1).f0), .slice A101_1 ((rd_T48 l0 x7_1).f1).length c101_1, .slice A101_2 ((rd_T48 l0 x7_1).f2).length c101_2] 48 (0, 0)) (by (with_reducible repeat (first | refine bN ?_ _ | refine bW ?_ | refine bA ?_ _)); exact BK102.out) hb)
           have n1_ := Aside0.mk (below_step belS hb)
           clear BK102
           clear HB
           have BK102 := n0_
           have HB := n1_
           clear n0_ n1_
           (try clear hb)
           (try clear hb2)
           (try clear hk)
           (try clear hi)
           refine hK.out _ _ ⟨(blk_cell BK102.out 0).trans rfl, (blk_cell BK102.out 1).trans rfl, (blk_cell BK102.out 2).trans rfl, ((HB.out.cell (World.block_lt_of_cell? w _ hw103_0)).trans hw103_0), ((HB.out.cell (World.block_lt_of_cell? w _ hw103_1)).trans hw103_1), ((HB.out.cell (World.block_lt_of_cell? w _ hw103_2)).trans hw103_2)⟩ (fun hHeld => ?_)
           clear hK K
           refine norm_ (a' := ?_) ?_ ?_
           rotate_left
           ·show Act.put _ (some 42) _ = _
            simp only [Act.put, sA, s0, s1, i64_w, i32_w]
            rfl
           refine pure_ (i := 32) (N := some 43) (v := ?_) (a' := ?_) (tfA 33 1) rfl rfl (any_of HT_.out (by kernel_rfl)) (fun _ _ _ h => h) (Or.inl ⟨by rfl, ?_⟩) ?_ ?_
           rotate_left
           ·intro w'
            go_simp
            with_reducible rfl
           rotate_left
           ·simp only [Act.put, sA, s0, s1, i64_w, i32_w]
            rfl
           refine pure_ (i := 33) (N := some 44) (v := ?_) (a' := ?_) (tfA 34 0) rfl rfl (any_of HT_.out (by kernel_rfl)) (fun _ _ _ h => h) (Or.inl ⟨by rfl, ?_⟩) ?_ ?_
           rotate_left
           ·intro w'
            go_simp
            with_reducible rfl
           rotate_left
           ·simp only [Act.put, sA, s0, s1, i64_w, i32_w]
            rfl
           refine done_ (done_of HT_.out (by kernel_rfl)) ?_
           try go_wp2
           go_roundg k1
           case measure => have := HK1.out; omega
           case rel => exact ⟨(wrap64 (x7_1 + 1)), (by first | rfl | (simp; done) | (simp [*]; done) | (simp [bne_nil]; done) | (simp [bne_nil, *]; done)), H', ⟨by have := HK1.out; omega⟩, ⟨by repeat (first | (with_reducible first | exact HB.out | apply below_alloc | apply pw_below_drewN | apply below_drew1 | refine below_set ?_ GE102.out) | exact HB.out)⟩⟩
          ·replace c10 := Bool.eq_false_iff.mpr c10
           subst c10
           have H1 : (none) = some r := by rw [if_neg (show ¬ (false = true) by decide)] at H; exact H
           clear H
           have H := H1
           clear H1
           exact absurd H (by simp)
         ·rw [if_neg c8] at H
          have c8b0 : ((((rd_T48 l0 x7_1).f1).length : Int) == (((rd_T48 l0 0).f1).length : Int)) = false := beq_eq_false_iff_ne.mpr c8
          have c8b1 : ((((rd_T48 l0 x7_1).f1).length : Int) != (((rd_T48 l0 0).f1).length : Int)) = true := bne_iff_ne.mpr c8
          have c8b2 : (((rd_T48 l0 x7_1).f1).length == ((rd_T48 l0 0).f1).length) = false := by first | simpa using c8 | (simp at c8 ⊢; omega)
          obtain rfl := Option.some.inj H
          have p101 : 0 ≤ (x7_1 : Int) := of_decide_eq_true (by first | (with_reducible assumption) | assumption)
          have q101 : x7_1 < (l0.length : Int) := of_decide_eq_true (by first | (with_reducible assumption) | assumption)
          obtain ⟨ad101, A101_1, c101_1, A101_2, c101_2, e101, hx101_0, hx101_1, hx101_2, hl101_1, hi101_1, hl101_2, hi101_2⟩ := at_T48 HR0.out x7_1 p101 q101
          cases e101
          replace hx101_0 := (HB.out.cell (World.block_lt_of_cell? w _ hx101_0)).trans hx101_0
          replace hx101_1 := (HB.out.cell (World.block_lt_of_cell? w _ hx101_1)).trans hx101_1
          replace hx101_2 := (HB.out.cell (World.block_lt_of_cell? w _ hx101_2)).trans hx101_2
          have HR101_1 := Aside0.mk hi101_1
          have HC101_1 := Aside0.mk hl101_1
          clear hi101_1 hl101_1
          have HR101_2 := Aside0.mk hi101_2
          have HC101_2 := Aside0.mk hl101_2
          clear hi101_2 hl101_2
          replace p101 := eq_true p101
          replace q101 := eq_true q101
          try go_wp2_with (first | ((with_reducible refine gate_dst (N := 4) rfl ?_); (try (refine gate_guard (by rfl) ?_; dsimp only)); refine box_event ?hg (N := 4) ?hd (cs := #[.string (⟨#[]⟩ : ByteArray), .slice none 0 0, .slice none 0 0]) (t := 48) ?hr ?_; (case hd => rfl); (case hg => rfl); (case hr => first | (go_simp; done) | (go_simp; rfl)); intro gb102 hg w16 hbox hb; have n0_ := Aside0.mk (below_step belH hb); have n1_ := Aside0.mk (hbox); have n2_ := Aside0.mk ((by rw [hg]; exact (below_size belH) : w.heap.size ≤ gb102)); have n3_ := Aside0.mk ((by rw [hg]; exact (below_size belH) : w.heap.size ≤ gb102)); clear HB; have HB := n0_; have BK102 := n1_; have GW102 := n2_; have GE102 := n3_; clear n0_ n1_ n2_ n3_; clear hb hbox hg; have hcz17_0 : w16.cell? ⟨gb102, 0, none⟩ = some (.string (⟨#[]⟩ : ByteArray)) := (blk_cell BK102.out 0).trans rfl; have hcz17_1 : w16.cell? ⟨gb102, 1, none⟩ = some (.slice none 0 0) := (blk_cell BK102.out 1).trans rfl; have hcz17_2 : w16.cell? ⟨gb102, 2, none⟩ = some (.slice none 0 0) := (blk_cell BK102.out 2).trans rfl; have hfz17_0 := blk_frozen BK102.out 0; have hfz17_1 := blk_frozen BK102.out 1; have hfz17_2 := blk_frozen BK102.out 2))
          have n0_ : Aside0 ((((w16.setCell ⟨gb102, 0, none⟩ (.string ((rd_T48 l0 x7_1).f0))).setCell ⟨gb102, 1, none⟩ (.slice A101_1 ((rd_T48 l0 x7_1).f1).length c101_1)).setCell ⟨gb102, 2, none⟩ (.slice A101_2 ((rd_T48 l0 x7_1).f2).length c101_2)).heap[gb102]? = some (.cells #[.string ((rd_T48 l0 x7_1).f0), .slice A101_1 ((rd_T48 l0 x7_1).f1).length c101_1, .slice A101_2 ((rd_T48 l0 x7_1).f2).length c101_2] 48 (0, 0))) := ⟨by (with_reducible repeat (first | refine bN ?_ _ | refine bW ?_ | refine bA ?_ _)); refine blk_put (cs := #[.string ((rd_T48 l0 x7_1).f0), .slice A101_1 ((rd_T48 l0 x7_1).f1).length c101_1, .slice none 0 0]) ?_ 2 _ rfl; (with_reducible repeat (first | refine bN ?_ _ | refine bW ?_ | refine bA ?_ _)); refine blk_put (cs := #[.string ((rd_T48 l0 x7_1).f0), .slice none 0 0, .slice none 0 0]) ?_ 1 _ rfl; (with_reducible repeat (first | refine bN ?_ _ | refine bW ?_ | refine bA ?_ _)); refine blk_put (cs := #[.string (⟨#[]⟩ : ByteArray), .slice none 0 0, .slice none 0 0]) ?_ 0 _ rfl; (with_reducible repeat (first | refine bN ?_ _ | refine bW ?_ | refine bA ?_ _)); exact BK102.out⟩
          have n1_ : Aside0 (Below w.heap.size w (((w16.setCell ⟨gb102, 0, none⟩ (.string ((rd_T48 l0 x7_1).f0))).setCell ⟨gb102, 1, none⟩ (.slice A101_1 ((rd_T48 l0 x7_1).f1).length c101_1)).setCell ⟨gb102, 2, none⟩ (.slice A101_2 ((rd_T48 l0 x7_1).f2).length c101_2))) := ⟨by repeat (first | (with_reducible first | exact HB.out | apply below_alloc | apply pw_below_drewN | apply below_drew1 | refine below_set ?_ GE102.out) | exact HB.out)⟩
          (try clear BK102)
          (try clear HB)
          generalize (((w16.setCell ⟨gb102, 0, none⟩ (.string ((rd_T48 l0 x7_1).f0))).setCell ⟨gb102, 1, none⟩ (.slice A101_1 ((rd_T48 l0 x7_1).f1).length c101_1)).setCell ⟨gb102, 2, none⟩ (.slice A101_2 ((rd_T48 l0 x7_1).f2).length c101_2)) = w18 at n0_ n1_ ⊢
          have BK102 := n0_
          have HB := n1_
          clear n0_ n1_
          have n0_ := Aside0.mk (blk_drew BK102.out)
          have n1_ := Aside0.mk (below_drew1 HB.out)
          clear BK102
          clear HB
          have BK102 := n0_
          have HB := n1_
          clear n0_ n1_
          have p103 : 0 ≤ (0 : Int) := (by omega)
          have q103 : 0 < (l0.length : Int) := of_decide_eq_true (by first | (with_reducible assumption) | assumption)
          obtain ⟨ad103, A103_1, c103_1, A103_2, c103_2, e103, hx103_0, hx103_1, hx103_2, hl103_1, hi103_1, hl103_2, hi103_2⟩ := at_T48 HR0.out 0 p103 q103
          have hw103_2 := hx103_2
          (try rw [show ((0 : Int)).toNat = 0 from rfl] at hw103_2)
          (try rw [show 0 * 3 = 0 from rfl] at hw103_2)
          (try rw [Addr.add_zero'] at hw103_2)
          have hw103_1 := hx103_1
          (try rw [show ((0 : Int)).toNat = 0 from rfl] at hw103_1)
          (try rw [show 0 * 3 = 0 from rfl] at hw103_1)
          (try rw [Addr.add_zero'] at hw103_1)
          have hw103_0 := hx103_0
          (try rw [show ((0 : Int)).toNat = 0 from rfl] at hw103_0)
          (try rw [show 0 * 3 = 0 from rfl] at hw103_0)
          (try rw [Addr.add_zero'] at hw103_0)
          obtain rfl : ad101 = ad103 := (by injection e103)
          have qi103 : (0 < l0.length) = True := eq_true (by omega)
          (try rw [show ((0 : Int)).toNat = 0 from rfl] at hx103_0)
          (try rw [show 0 * 3 = 0 from rfl] at hx103_0)
          (try rw [Addr.add_zero'] at hx103_0)
          (try rw [show ((0 : Int)).toNat = 0 from rfl] at hx103_1)
          (try rw [show 0 * 3 = 0 from rfl] at hx103_1)
          (try rw [Addr.add_zero'] at hx103_1)
          (try rw [show ((0 : Int)).toNat = 0 from rfl] at hx103_2)
          (try rw [show 0 * 3 = 0 from rfl] at hx103_2)
          (try rw [Addr.add_zero'] at hx103_2)
          replace hx103_0 := (HB.out.cell (World.block_lt_of_cell? w _ hx103_0)).trans hx103_0
          replace hx103_1 := (HB.out.cell (World.block_lt_of_cell? w _ hx103_1)).trans hx103_1
          replace hx103_2 := (HB.out.cell (World.block_lt_of_cell? w _ hx103_2)).trans hx103_2
          have HR103_1 := Aside0.mk hi103_1
          have HC103_1 := Aside0.mk hl103_1
          clear hi103_1 hl103_1
          have HR103_2 := Aside0.mk hi103_2
          have HC103_2 := Aside0.mk hl103_2
          clear hi103_2 hl103_2
          replace p103 := eq_true p103
          replace q103 := eq_true q103
          refine start_ (n := 34) (S := fun w' => w'.cell? ⟨gb102, 0, none⟩ = some (.string ((rd_T48 l0 x7_1).f0)) ∧ w'.cell? ⟨gb102, 1, none⟩ = some (.slice A101_1 ((rd_T48 l0 x7_1).f1).length c101_1) ∧ w'.cell? ⟨gb102, 2, none⟩ = some (.slice A101_2 ((rd_T48 l0 x7_1).f2).length c101_2) ∧ w'.cell? ad101 = some (.string ((rd_T48 l0 0).f0)) ∧ w'.cell? ⟨ad101.block, ad101.off + 1, none⟩ = some (.slice A103_1 ((rd_T48 l0 0).f1).length c103_1) ∧ w'.cell? ⟨ad101.block, ad101.off + 2, none⟩ = some (.slice A103_2 ((rd_T48 l0 0).f2).length c103_2)) (ds := []) (tfA 0 34) (by kernel_rfl) rfl rfl ⟨(blk_cell BK102.out 0).trans rfl, (blk_cell BK102.out 1).trans rfl, (blk_cell BK102.out 2).trans rfl, ((HB.out.cell (World.block_lt_of_cell? w _ hw103_0)).trans hw103_0), ((HB.out.cell (World.block_lt_of_cell? w _ hw103_1)).trans hw103_1), ((HB.out.cell (World.block_lt_of_cell? w _ hw103_2)).trans hw103_2)⟩ (fun hHeld => ?_); refine with_tabW spec_softnetFine.tab4 spec_softnetFine.bits4 (fun HT_ HW_ => ?_)
          generalize w18.drew = w19 at BK102 HB HR103_1 HR103_2 hx103_0 hx103_1 hx103_2 hHeld ⊢
          refine pure_ (i := 0) (N := some 11) (v := ?_) (a' := ?_) (tfA 1 33) rfl rfl (any_of HT_.out (by kernel_rfl)) (fun _ _ _ h => h) (Or.inl ⟨by rfl, ?_⟩) ?_ ?_
          rotate_left
          ·intro w'
           go_simp
           with_reducible rfl
          rotate_left
          ·simp only [Act.put, sA, s0, s1, i64_w, i32_w]
           rfl
          refine take_ (i := 1) (N := some 12) (v := ?_) (a' := ?_) (tfA 2 32) rfl rfl (take_ofW HT_.out HW_.out (by kernel_rfl)) (fun _ _ _ h => h) (Or.inl ⟨by rfl, ?_⟩) hHeld ?_ ?_
          rotate_left
          ·rintro w' ⟨s0, s1, s2, s3, s4, s5⟩
           go_simp
           with_reducible rfl
          rotate_left
          ·simp only [Act.put, sA, s0, s1, i64_w, i32_w]
           rfl
          refine pure_ (i := 2) (N := some 13) (v := ?_) (a' := ?_) (tfA 3 31) rfl rfl (any_of HT_.out (by kernel_rfl)) (fun _ _ _ h => h) (Or.inl ⟨by rfl, ?_⟩) ?_ ?_
          rotate_left
          ·intro w'
           go_simp
           with_reducible rfl
          rotate_left
          ·simp only [Act.put, sA, s0, s1, i64_w, i32_w]
           rfl
          refine pure_ (i := 3) (N := some 14) (v := ?_) (a' := ?_) (tfA 4 30) rfl rfl (any_of HT_.out (by kernel_rfl)) (fun _ _ _ h => h) (Or.inl ⟨by rfl, ?_⟩) ?_ ?_
          rotate_left
          ·intro w'
           go_simp
           with_reducible rfl
          rotate_left
          ·simp only [Act.put, sA, s0, s1, i64_w, i32_w]
           rfl
          refine pure_ (i := 4) (N := some 15) (v := ?_) (a' := ?_) (tfA 5 29) rfl rfl (any_of HT_.out (by kernel_rfl)) (fun _ _ _ h => h) (Or.inl ⟨by rfl, ?_⟩) ?_ ?_
          rotate_left
          ·intro w'
           go_simp
           with_reducible rfl
          rotate_left
          ·simp only [Act.put, sA, s0, s1, i64_w, i32_w]
           rfl
          refine take_ (i := 5) (N := some 16) (v := ?_) (a' := ?_) (tfA 6 28) rfl rfl (take_ofW HT_.out HW_.out (by kernel_rfl)) (fun _ _ _ h => h) (Or.inl ⟨by rfl, ?_⟩) hHeld ?_ ?_
          rotate_left
          ·rintro w' ⟨s0, s1, s2, s3, s4, s5⟩
           go_simp
           with_reducible rfl
          rotate_left
          ·simp only [Act.put, sA, s0, s1, i64_w, i32_w]
           rfl
          refine pure_ (i := 6) (N := some 17) (v := ?_) (a' := ?_) (tfA 7 27) rfl rfl (any_of HT_.out (by kernel_rfl)) (fun _ _ _ h => h) (Or.inl ⟨by rfl, ?_⟩) ?_ ?_
          rotate_left
          ·intro w'
           go_simp
           with_reducible rfl
          rotate_left
          ·simp only [Act.put, sA, s0, s1, i64_w, i32_w]
           rfl
          refine pure_ (i := 7) (N := some 18) (v := ?_) (a' := ?_) (tfA 8 26) rfl rfl (any_of HT_.out (by kernel_rfl)) (fun _ _ _ h => h) (Or.inl ⟨by rfl, ?_⟩) ?_ ?_
          rotate_left
          ·intro w'
           go_simp
           with_reducible rfl
          rotate_left
          ·simp only [Act.put, sA, s0, s1, i64_w, i32_w]
           rfl
          refine pure_ (i := 8) (N := some 19) (v := ?_) (a' := ?_) (tfA 9 25) rfl rfl (any_of HT_.out (by kernel_rfl)) (fun _ _ _ h => h) (Or.inl ⟨by rfl, ?_⟩) ?_ ?_
          rotate_left
          ·intro w'
           go_simp
           with_reducible rfl
          rotate_left
          ·simp only [Act.put, sA, s0, s1, i64_w, i32_w]
           rfl
          refine pure_ (i := 9) (N := some 20) (v := undef) (a' := ?_) (tfA 10 24) rfl rfl (any_of HT_.out (by kernel_rfl)) (fun _ _ _ h => h) (Or.inr ⟨by rfl, rfl⟩) ?_ ?_
          rotate_left
          ·simp only [Act.put, sA, s0, s1, i64_w, i32_w]
           rfl
          refine pure_ (i := 10) (N := some 21) (v := undef) (a' := ?_) (tfA 11 23) rfl rfl (any_of HT_.out (by kernel_rfl)) (fun _ _ _ h => h) (Or.inr ⟨by rfl, rfl⟩) ?_ ?_
          rotate_left
          ·simp only [Act.put, sA, s0, s1, i64_w, i32_w]
           rfl
          refine pure_ (i := 11) (N := some 22) (v := undef) (a' := ?_) (tfA 12 22) rfl rfl (any_of HT_.out (by kernel_rfl)) (fun _ _ _ h => h) (Or.inr ⟨by rfl, rfl⟩) ?_ ?_
          rotate_left
          ·simp only [Act.put, sA, s0, s1, i64_w, i32_w]
           rfl
          refine pure_ (i := 12) (N := some 23) (v := undef) (a' := ?_) (tfA 13 21) rfl rfl (any_of HT_.out (by kernel_rfl)) (fun _ _ _ h => h) (Or.inr ⟨by rfl, rfl⟩) ?_ ?_
          rotate_left
          ·simp only [Act.put, sA, s0, s1, i64_w, i32_w]
           rfl
          refine pure_ (i := 13) (N := some 24) (v := ?_) (a' := ?_) (tfA 14 20) rfl rfl (any_of HT_.out (by kernel_rfl)) (fun _ _ _ h => h) (Or.inl ⟨by rfl, ?_⟩) ?_ ?_
          rotate_left
          ·intro w'
           go_simp
           with_reducible rfl
          rotate_left
          ·simp only [Act.put, sA, s0, s1, i64_w, i32_w]
           rfl
          refine pure_ (i := 14) (N := some 25) (v := ?_) (a' := ?_) (tfA 15 19) rfl rfl (any_of HT_.out (by kernel_rfl)) (fun _ _ _ h => h) (Or.inl ⟨by rfl, ?_⟩) ?_ ?_
          rotate_left
          ·intro w'
           go_simp
           with_reducible rfl
          rotate_left
          ·simp only [Act.put, sA, s0, s1, i64_w, i32_w]
           rfl
          refine pure_ (i := 15) (N := some 26) (v := ?_) (a' := ?_) (tfA 16 18) rfl rfl (any_of HT_.out (by kernel_rfl)) (fun _ _ _ h => h) (Or.inl ⟨by rfl, ?_⟩) ?_ ?_
          rotate_left
          ·intro w'
           go_simp
           with_reducible rfl
          rotate_left
          ·simp only [Act.put, sA, s0, s1, i64_w, i32_w]
           rfl
          refine pure_ (i := 16) (N := some 27) (v := ?_) (a' := ?_) (tfA 17 17) rfl rfl (any_of HT_.out (by kernel_rfl)) (fun _ _ _ h => h) (Or.inl ⟨by rfl, ?_⟩) ?_ ?_
          rotate_left
          ·intro w'
           go_simp
           with_reducible rfl
          rotate_left
          ·simp only [Act.put, sA, s0, s1, i64_w, i32_w]
           rfl
          refine pure_ (i := 19) (N := some 30) (v := ?_) (a' := ?_) (bnA 34 655359) rfl rfl (any_of HT_.out (by kernel_rfl)) (fun _ _ _ h => h) (Or.inl ⟨by rfl, ?_⟩) ?_ ?_
          rotate_left
          ·intro w'
           go_simp
           with_reducible rfl
          rotate_left
          ·simp only [Act.put, sA, s0, s1, i64_w, i32_w]
           rfl
          refine pure_ (i := 20) (N := some 31) (v := ?_) (a' := ?_) (bnA 34 1703935) rfl rfl (any_of HT_.out (by kernel_rfl)) (fun _ _ _ h => h) (Or.inl ⟨by rfl, ?_⟩) ?_ ?_
          rotate_left
          ·intro w'
           go_simp
           with_reducible rfl
          rotate_left
          ·simp only [Act.put, sA, s0, s1, i64_w, i32_w]
           rfl
          refine pure_ (i := 21) (N := some 32) (v := ?_) (a' := ?_) (bnA 34 3801087) rfl rfl (any_of HT_.out (by kernel_rfl)) (fun _ _ _ h => h) (Or.inl ⟨by rfl, ?_⟩) ?_ ?_
          rotate_left
          ·intro w'
           go_simp
           with_reducible rfl
          rotate_left
          ·simp only [Act.put, sA, s0, s1, i64_w, i32_w]
           rfl
          refine take_ (i := 17) (N := some 28) (v := ?_) (a' := ?_) (bnA 34 3932159) rfl rfl (take_ofW HT_.out HW_.out (by kernel_rfl)) (fun _ _ _ h => h) (Or.inl ⟨by rfl, ?_⟩) hHeld ?_ ?_
          rotate_left
          ·rintro w' ⟨s0, s1, s2, s3, s4, s5⟩
           go_simp
           with_reducible rfl
          rotate_left
          ·simp only [Act.put, sA, s0, s1, i64_w, i32_w]
           rfl
          refine pure_ (i := 18) (N := some 29) (v := ?_) (a' := ?_) (tfA 22 12) rfl rfl (any_of HT_.out (by kernel_rfl)) (fun _ _ _ h => h) (Or.inl ⟨by rfl, ?_⟩) ?_ ?_
          rotate_left
          ·intro w'
           go_simp
           with_reducible rfl
          rotate_left
          ·simp only [Act.put, sA, s0, s1, i64_w, i32_w]
           rfl
          refine take_ (i := 22) (N := some 33) (v := ?_) (a' := ?_) (tfA 23 11) rfl rfl (take_ofW HT_.out HW_.out (by kernel_rfl)) (fun _ _ _ h => h) (Or.inl ⟨by rfl, ?_⟩) hHeld ?_ ?_
          rotate_left
          ·rintro w' ⟨s0, s1, s2, s3, s4, s5⟩
           go_simp
           with_reducible rfl
          rotate_left
          ·simp only [Act.put, sA, s0, s1, i64_w, i32_w]
           rfl
          refine pure_ (i := 23) (N := some 34) (v := ?_) (a' := ?_) (tfA 24 10) rfl rfl (any_of HT_.out (by kernel_rfl)) (fun _ _ _ h => h) (Or.inl ⟨by rfl, ?_⟩) ?_ ?_
          rotate_left
          ·intro w'
           go_simp
           with_reducible rfl
          rotate_left
          ·simp only [Act.put, sA, s0, s1, i64_w, i32_w]
           rfl
          refine pure_ (i := 24) (N := some 35) (v := ?_) (a' := ?_) (tfA 25 9) rfl rfl (any_of HT_.out (by kernel_rfl)) (fun _ _ _ h => h) (Or.inl ⟨by rfl, ?_⟩) ?_ ?_
          rotate_left
          ·intro w'
           go_simp
           with_reducible rfl
          rotate_left
          ·simp only [Act.put, sA, s0, s1, i64_w, i32_w]
           rfl
          refine pure_ (i := 25) (N := some 36) (v := ?_) (a' := ?_) (tfA 26 8) rfl rfl (any_of HT_.out (by kernel_rfl)) (fun _ _ _ h => h) (Or.inl ⟨by rfl, ?_⟩) ?_ ?_
          rotate_left
          ·intro w'
           go_simp
           with_reducible rfl
          rotate_left
          ·simp only [Act.put, sA, s0, s1, i64_w, i32_w]
           rfl
          refine pure_ (i := 26) (N := some 37) (v := ?_) (a' := ?_) (tfA 27 7) rfl rfl (any_of HT_.out (by kernel_rfl)) (fun _ _ _ h => h) (Or.inl ⟨by rfl, ?_⟩) ?_ ?_
          rotate_left
          ·intro w'
           go_simp
           with_reducible rfl
          rotate_left
          ·simp only [Act.put, sA, s0, s1, i64_w, i32_w]
           rfl
          refine pure_ (i := 27) (N := some 38) (v := undef) (a' := ?_) (tfA 28 6) rfl rfl (any_of HT_.out (by kernel_rfl)) (fun _ _ _ h => h) (Or.inr ⟨by rfl, rfl⟩) ?_ ?_
          rotate_left
          ·simp only [Act.put, sA, s0, s1, i64_w, i32_w]
           rfl
          refine pure_ (i := 28) (N := some 39) (v := undef) (a' := ?_) (tfA 29 5) rfl rfl (any_of HT_.out (by kernel_rfl)) (fun _ _ _ h => h) (Or.inr ⟨by rfl, rfl⟩) ?_ ?_
          rotate_left
          ·simp only [Act.put, sA, s0, s1, i64_w, i32_w]
           rfl
          refine pure_ (i := 29) (N := some 40) (v := undef) (a' := ?_) (tfA 30 4) rfl rfl (any_of HT_.out (by kernel_rfl)) (fun _ _ _ h => h) (Or.inr ⟨by rfl, rfl⟩) ?_ ?_
          rotate_left
          ·simp only [Act.put, sA, s0, s1, i64_w, i32_w]
           rfl
          refine pure_ (i := 30) (N := some 41) (v := undef) (a' := ?_) (tfA 31 3) rfl rfl (any_of HT_.out (by kernel_rfl)) (fun _ _ _ h => h) (Or.inr ⟨by rfl, rfl⟩) ?_ ?_
          rotate_left
          ·simp only [Act.put, sA, s0, s1, i64_w, i32_w]
           rfl
          refine pure_ (i := 31) (N := some 42) (v := undef) (a' := ?_) (tfA 32 2) rfl rfl (any_of HT_.out (by kernel_rfl)) (fun _ _ _ h => h) (Or.inr ⟨by rfl, rfl⟩) ?_ ?_
          rotate_left
          ·simp only [Act.put, sA, s0, s1, i64_w, i32_w]
           rfl
          refine pure_ (i := 32) (N := some 43) (v := undef) (a' := ?_) (tfA 33 1) rfl rfl (any_of HT_.out (by kernel_rfl)) (fun _ _ _ h => h) (Or.inr ⟨by rfl, rfl⟩) ?_ ?_
          rotate_left
          ·simp only [Act.put, sA, s0, s1, i64_w, i32_w]
           rfl
          refine pure_ (i := 33) (N := some 44) (v := ?_) (a' := ?_) (tfA 34 0) rfl rfl (any_of HT_.out (by kernel_rfl)) (fun _ _ _ h => h) (Or.inl ⟨by rfl, ?_⟩) ?_ ?_
          rotate_left
          ·intro w'
           go_simp
           with_reducible rfl
          rotate_left
          ·simp only [Act.put, sA, s0, s1, i64_w, i32_w]
           rfl
          refine done_ (done_of HT_.out (by kernel_rfl)) ?_
          try go_wp2
          go_ret
          exact ⟨by first | rfl | (simp [errW_none, errW_some] <;> rfl) | (simp [*, errW_none, errW_some] <;> rfl), by repeat (first | (with_reducible first | exact HB.out | apply below_alloc | apply pw_below_drewN | apply below_drew1 | refine below_set ?_ GE102.out) | exact HB.out)⟩
        ·rw [if_neg c7] at H
         exact absurd H (by simp)
       ·rw [if_neg c6] at H
        have c6b0 : ((((rd_T48 l0 x7_1).f1).length : Int) == 13) = false := beq_eq_false_iff_ne.mpr c6
        have c6b1 : ((((rd_T48 l0 x7_1).f1).length : Int) != 13) = true := bne_iff_ne.mpr c6
        by_cases c20 : (((rd_T48 l0 x7_1).f1).length : Int) = 15
        ·rw [if_pos c20] at H
         have c20b0 : ((((rd_T48 l0 x7_1).f1).length : Int) == 15) = true := beq_iff_eq.mpr c20
         have c20b1 : ((((rd_T48 l0 x7_1).f1).length : Int) != 15) = false := bne_eq_false_iff_eq.mpr c20
         clear c20
         by_cases c21 : 0 < (l0.length : Int)
         ·rw [if_pos c21] at H
          have c21b0 : decide (0 < (l0.length : Int)) = true := decide_eq_true c21
          have c21b1 : decide (0 < l0.length) = true := decide_eq_true (by omega)
          clear c21
          by_cases c22 : (((rd_T48 l0 x7_1).f1).length : Int) = (((rd_T48 l0 0).f1).length : Int)
          ·rw [if_pos c22] at H
           have c22b0 : ((((rd_T48 l0 x7_1).f1).length : Int) == (((rd_T48 l0 0).f1).length : Int)) = true := beq_iff_eq.mpr c22
           have c22b1 : ((((rd_T48 l0 x7_1).f1).length : Int) != (((rd_T48 l0 0).f1).length : Int)) = false := bne_eq_false_iff_eq.mpr c22
           have c22b2 : (((rd_T48 l0 x7_1).f1).length == ((rd_T48 l0 0).f1).length) = true := by first | simpa using c22 | (simp at c22 ⊢; omega)
           clear c22
           replace H := Option.bind_eq_some_iff.mp H
           obtain ⟨t106, A230, H⟩ := H
           replace H : (if t106 = true then (spec_softnetFine.l0 k1 l0 l0 (l0.length : Int) (wrap64 (x7_1 + 1))) else (none)) = some r := H
           have A23 := Aside0.mk A230
           clear A230
           by_cases c24 : t106 = true
           ·subst c24
            have H1 : (spec_softnetFine.l0 k1 l0 l0 (l0.length : Int) (wrap64 (x7_1 + 1))) = some r := by rw [if_pos rfl] at H; exact H
            clear H
            have H := H1
            clear H1
            have H' := Aside0.mk H
            clear H
            have p101 : 0 ≤ (x7_1 : Int) := of_decide_eq_true (by first | (with_reducible assumption) | assumption)
            have q101 : x7_1 < (l0.length : Int) := of_decide_eq_true (by first | (with_reducible assumption) | assumption)
            obtain ⟨ad101, A101_1, c101_1, A101_2, c101_2, e101, hx101_0, hx101_1, hx101_2, hl101_1, hi101_1, hl101_2, hi101_2⟩ := at_T48 HR0.out x7_1 p101 q101
            cases e101
            replace hx101_0 := (HB.out.cell (World.block_lt_of_cell? w _ hx101_0)).trans hx101_0
            replace hx101_1 := (HB.out.cell (World.block_lt_of_cell? w _ hx101_1)).trans hx101_1
            replace hx101_2 := (HB.out.cell (World.block_lt_of_cell? w _ hx101_2)).trans hx101_2
            have HR101_1 := Aside0.mk hi101_1
            have HC101_1 := Aside0.mk hl101_1
            clear hi101_1 hl101_1
            have HR101_2 := Aside0.mk hi101_2
            have HC101_2 := Aside0.mk hl101_2
            clear hi101_2 hl101_2
            replace p101 := eq_true p101
            replace q101 := eq_true q101
            try go_wp2_with (first | ((with_reducible refine gate_dst (N := 4) rfl ?_); (try (refine gate_guard (by rfl) ?_; dsimp only)); refine box_event ?hg (N := 4) ?hd (cs := #[.string (⟨#[]⟩ : ByteArray), .slice none 0 0, .slice none 0 0]) (t := 48) ?hr ?_; (case hd => rfl); (case hg => rfl); (case hr => first | (go_simp; done) | (go_simp; rfl)); intro gb102 hg w25 hbox hb; have n0_ := Aside0.mk (below_step belH hb); have n1_ := Aside0.mk (hbox); have n2_ := Aside0.mk ((by rw [hg]; exact (below_size belH) : w.heap.size ≤ gb102)); have n3_ := Aside0.mk ((by rw [hg]; exact (below_size belH) : w.heap.size ≤ gb102)); clear HB; have HB := n0_; have BK102 := n1_; have GW102 := n2_; have GE102 := n3_; clear n0_ n1_ n2_ n3_; clear hb hbox hg; have hcz26_0 : w25.cell? ⟨gb102, 0, none⟩ = some (.string (⟨#[]⟩ : ByteArray)) := (blk_cell BK102.out 0).trans rfl; have hcz26_1 : w25.cell? ⟨gb102, 1, none⟩ = some (.slice none 0 0) := (blk_cell BK102.out 1).trans rfl; have hcz26_2 : w25.cell? ⟨gb102, 2, none⟩ = some (.slice none 0 0) := (blk_cell BK102.out 2).trans rfl; have hfz26_0 := blk_frozen BK102.out 0; have hfz26_1 := blk_frozen BK102.out 1; have hfz26_2 := blk_frozen BK102.out 2))
            have n0_ : Aside0 ((((w25.setCell ⟨gb102, 0, none⟩ (.string ((rd_T48 l0 x7_1).f0))).setCell ⟨gb102, 1, none⟩ (.slice A101_1 ((rd_T48 l0 x7_1).f1).length c101_1)).setCell ⟨gb102, 2, none⟩ (.slice A101_2 ((rd_T48 l0 x7_1).f2).length c101_2)).heap[gb102]? = some (.cells #[.string ((rd_T48 l0 x7_1).f0), .slice A101_1 ((rd_T48 l0 x7_1).f1).length c101_1, .slice A101_2 ((rd_T48 l0 x7_1).f2).length c101_2] 48 (0, 0))) := ⟨by (with_reducible repeat (first | refine bN ?_ _ | refine bW ?_ | refine bA ?_ _)); refine blk_put (cs := #[.string ((rd_T48 l0 x7_1).f0), .slice A101_1 ((rd_T48 l0 x7_1).f1).length c101_1, .slice none 0 0]) ?_ 2 _ rfl; (with_reducible repeat (first | refine bN ?_ _ | refine bW ?_ | refine bA ?_ _)); refine blk_put (cs := #[.string ((rd_T48 l0 x7_1).f0), .slice none 0 0, .slice none 0 0]) ?_ 1 _ rfl; (with_reducible repeat (first | refine bN ?_ _ | refine bW ?_ | refine bA ?_ _)); refine blk_put (cs := #[.string (⟨#[]⟩ : ByteArray), .slice none 0 0, .slice none 0 0]) ?_ 0 _ rfl; (with_reducible repeat (first | refine bN ?_ _ | refine bW ?_ | refine bA ?_ _)); exact BK102.out⟩
            have n1_ : Aside0 (Below w.heap.size w (((w25.setCell ⟨gb102, 0, none⟩ (.string ((rd_T48 l0 x7_1).f0))).setCell ⟨gb102, 1, none⟩ (.slice A101_1 ((rd_T48 l0 x7_1).f1).length c101_1)).setCell ⟨gb102, 2, none⟩ (.slice A101_2 ((rd_T48 l0 x7_1).f2).length c101_2))) := ⟨by repeat (first | (with_reducible first | exact HB.out | apply below_alloc | apply pw_below_drewN | apply below_drew1 | refine below_set ?_ GE102.out) | exact HB.out)⟩
            (try clear BK102)
            (try clear HB)
            generalize (((w25.setCell ⟨gb102, 0, none⟩ (.string ((rd_T48 l0 x7_1).f0))).setCell ⟨gb102, 1, none⟩ (.slice A101_1 ((rd_T48 l0 x7_1).f1).length c101_1)).setCell ⟨gb102, 2, none⟩ (.slice A101_2 ((rd_T48 l0 x7_1).f2).length c101_2)) = w27 at n0_ n1_ ⊢
            have BK102 := n0_
            have HB := n1_
            clear n0_ n1_
            have n0_ := Aside0.mk (blk_drew BK102.out)
            have n1_ := Aside0.mk (below_drew1 HB.out)
            clear BK102
            clear HB
            have BK102 := n0_
            have HB := n1_
            clear n0_ n1_
            have p105 : 0 ≤ (0 : Int) := (by omega)
            have q105 : 0 < (l0.length : Int) := of_decide_eq_true (by first | (with_reducible assumption) | assumption)
            obtain ⟨ad105, A105_1, c105_1, A105_2, c105_2, e105, hx105_0, hx105_1, hx105_2, hl105_1, hi105_1, hl105_2, hi105_2⟩ := at_T48 HR0.out 0 p105 q105
            have hw105_2 := hx105_2
            (try rw [show ((0 : Int)).toNat = 0 from rfl] at hw105_2)
            (try rw [show 0 * 3 = 0 from rfl] at hw105_2)
            (try rw [Addr.add_zero'] at hw105_2)
            have hw105_1 := hx105_1
            (try rw [show ((0 : Int)).toNat = 0 from rfl] at hw105_1)
            (try rw [show 0 * 3 = 0 from rfl] at hw105_1)
            (try rw [Addr.add_zero'] at hw105_1)
            have hw105_0 := hx105_0
            (try rw [show ((0 : Int)).toNat = 0 from rfl] at hw105_0)
            (try rw [show 0 * 3 = 0 from rfl] at hw105_0)
            (try rw [Addr.add_zero'] at hw105_0)
            obtain rfl : ad101 = ad105 := (by injection e105)
            have qi105 : (0 < l0.length) = True := eq_true (by omega)
            (try rw [show ((0 : Int)).toNat = 0 from rfl] at hx105_0)
            (try rw [show 0 * 3 = 0 from rfl] at hx105_0)
            (try rw [Addr.add_zero'] at hx105_0)
            (try rw [show ((0 : Int)).toNat = 0 from rfl] at hx105_1)
            (try rw [show 0 * 3 = 0 from rfl] at hx105_1)
            (try rw [Addr.add_zero'] at hx105_1)
            (try rw [show ((0 : Int)).toNat = 0 from rfl] at hx105_2)
            (try rw [show 0 * 3 = 0 from rfl] at hx105_2)
            (try rw [Addr.add_zero'] at hx105_2)
            replace hx105_0 := (HB.out.cell (World.block_lt_of_cell? w _ hx105_0)).trans hx105_0
            replace hx105_1 := (HB.out.cell (World.block_lt_of_cell? w _ hx105_1)).trans hx105_1
            replace hx105_2 := (HB.out.cell (World.block_lt_of_cell? w _ hx105_2)).trans hx105_2
            have HR105_1 := Aside0.mk hi105_1
            have HC105_1 := Aside0.mk hl105_1
            clear hi105_1 hl105_1
            have HR105_2 := Aside0.mk hi105_2
            have HC105_2 := Aside0.mk hl105_2
            clear hi105_2 hl105_2
            replace p105 := eq_true p105
            replace q105 := eq_true q105
            refine start_ (n := 34) (S := fun w' => w'.cell? ⟨gb102, 0, none⟩ = some (.string ((rd_T48 l0 x7_1).f0)) ∧ w'.cell? ⟨gb102, 1, none⟩ = some (.slice A101_1 ((rd_T48 l0 x7_1).f1).length c101_1) ∧ w'.cell? ⟨gb102, 2, none⟩ = some (.slice A101_2 ((rd_T48 l0 x7_1).f2).length c101_2) ∧ w'.cell? ad101 = some (.string ((rd_T48 l0 0).f0)) ∧ w'.cell? ⟨ad101.block, ad101.off + 1, none⟩ = some (.slice A105_1 ((rd_T48 l0 0).f1).length c105_1) ∧ w'.cell? ⟨ad101.block, ad101.off + 2, none⟩ = some (.slice A105_2 ((rd_T48 l0 0).f2).length c105_2)) (ds := []) (tfA 0 34) (by kernel_rfl) rfl rfl ⟨(blk_cell BK102.out 0).trans rfl, (blk_cell BK102.out 1).trans rfl, (blk_cell BK102.out 2).trans rfl, ((HB.out.cell (World.block_lt_of_cell? w _ hw105_0)).trans hw105_0), ((HB.out.cell (World.block_lt_of_cell? w _ hw105_1)).trans hw105_1), ((HB.out.cell (World.block_lt_of_cell? w _ hw105_2)).trans hw105_2)⟩ (fun hHeld => ?_); refine with_tabW spec_softnetFine.tab4 spec_softnetFine.bits4 (fun HT_ HW_ => ?_)
            generalize w27.drew = w28 at BK102 HB HR105_1 HR105_2 hx105_0 hx105_1 hx105_2 hHeld ⊢
            refine pure_ (i := 0) (N := some 11) (v := ?_) (a' := ?_) (tfA 1 33) rfl rfl (any_of HT_.out (by kernel_rfl)) (fun _ _ _ h => h) (Or.inl ⟨by rfl, ?_⟩) ?_ ?_
            rotate_left
            ·intro w'
             go_simp
             with_reducible rfl
            rotate_left
            ·simp only [Act.put, sA, s0, s1, i64_w, i32_w]
             rfl
            refine take_ (i := 1) (N := some 12) (v := ?_) (a' := ?_) (tfA 2 32) rfl rfl (take_ofW HT_.out HW_.out (by kernel_rfl)) (fun _ _ _ h => h) (Or.inl ⟨by rfl, ?_⟩) hHeld ?_ ?_
            rotate_left
            ·rintro w' ⟨s0, s1, s2, s3, s4, s5⟩
             go_simp
             with_reducible rfl
            rotate_left
            ·simp only [Act.put, sA, s0, s1, i64_w, i32_w]
             rfl
            refine pure_ (i := 2) (N := some 13) (v := ?_) (a' := ?_) (tfA 3 31) rfl rfl (any_of HT_.out (by kernel_rfl)) (fun _ _ _ h => h) (Or.inl ⟨by rfl, ?_⟩) ?_ ?_
            rotate_left
            ·intro w'
             go_simp
             with_reducible rfl
            rotate_left
            ·simp only [Act.put, sA, s0, s1, i64_w, i32_w]
             rfl
            refine pure_ (i := 3) (N := some 14) (v := ?_) (a' := ?_) (tfA 4 30) rfl rfl (any_of HT_.out (by kernel_rfl)) (fun _ _ _ h => h) (Or.inl ⟨by rfl, ?_⟩) ?_ ?_
            rotate_left
            ·intro w'
             go_simp
             with_reducible rfl
            rotate_left
            ·simp only [Act.put, sA, s0, s1, i64_w, i32_w]
             rfl
            refine pure_ (i := 4) (N := some 15) (v := ?_) (a' := ?_) (tfA 5 29) rfl rfl (any_of HT_.out (by kernel_rfl)) (fun _ _ _ h => h) (Or.inl ⟨by rfl, ?_⟩) ?_ ?_
            rotate_left
            ·intro w'
             go_simp
             with_reducible rfl
            rotate_left
            ·simp only [Act.put, sA, s0, s1, i64_w, i32_w]
             rfl
            refine take_ (i := 5) (N := some 16) (v := ?_) (a' := ?_) (tfA 6 28) rfl rfl (take_ofW HT_.out HW_.out (by kernel_rfl)) (fun _ _ _ h => h) (Or.inl ⟨by rfl, ?_⟩) hHeld ?_ ?_
            rotate_left
            ·rintro w' ⟨s0, s1, s2, s3, s4, s5⟩
             go_simp
             with_reducible rfl
            rotate_left
            ·simp only [Act.put, sA, s0, s1, i64_w, i32_w]
             rfl
            refine pure_ (i := 6) (N := some 17) (v := ?_) (a' := ?_) (tfA 7 27) rfl rfl (any_of HT_.out (by kernel_rfl)) (fun _ _ _ h => h) (Or.inl ⟨by rfl, ?_⟩) ?_ ?_
            rotate_left
            ·intro w'
             go_simp
             with_reducible rfl
            rotate_left
            ·simp only [Act.put, sA, s0, s1, i64_w, i32_w]
             rfl
            refine pure_ (i := 7) (N := some 18) (v := ?_) (a' := ?_) (tfA 8 26) rfl rfl (any_of HT_.out (by kernel_rfl)) (fun _ _ _ h => h) (Or.inl ⟨by rfl, ?_⟩) ?_ ?_
            rotate_left
            ·intro w'
             go_simp
             with_reducible rfl
            rotate_left
            ·simp only [Act.put, sA, s0, s1, i64_w, i32_w]
             rfl
            refine pure_ (i := 8) (N := some 19) (v := ?_) (a' := ?_) (tfA 9 25) rfl rfl (any_of HT_.out (by kernel_rfl)) (fun _ _ _ h => h) (Or.inl ⟨by rfl, ?_⟩) ?_ ?_
            rotate_left
            ·intro w'
             go_simp
             with_reducible rfl
            rotate_left
            ·simp only [Act.put, sA, s0, s1, i64_w, i32_w]
             rfl
            refine pure_ (i := 9) (N := some 20) (v := ?_) (a' := ?_) (tfA 10 24) rfl rfl (any_of HT_.out (by kernel_rfl)) (fun _ _ _ h => h) (Or.inl ⟨by rfl, ?_⟩) ?_ ?_
            rotate_left
            ·intro w'
             go_simp
             with_reducible rfl
            rotate_left
            ·simp only [Act.put, sA, s0, s1, i64_w, i32_w]
             rfl
            refine take_ (i := 10) (N := some 21) (v := ?_) (a' := ?_) (tfA 11 23) rfl rfl (take_ofW HT_.out HW_.out (by kernel_rfl)) (fun _ _ _ h => h) (Or.inl ⟨by rfl, ?_⟩) hHeld ?_ ?_
            rotate_left
            ·rintro w' ⟨s0, s1, s2, s3, s4, s5⟩
             go_simp
             with_reducible rfl
            rotate_left
            ·simp only [Act.put, sA, s0, s1, i64_w, i32_w]
             rfl
            refine pure_ (i := 11) (N := some 22) (v := ?_) (a' := ?_) (tfA 12 22) rfl rfl (any_of HT_.out (by kernel_rfl)) (fun _ _ _ h => h) (Or.inl ⟨by rfl, ?_⟩) ?_ ?_
            rotate_left
            ·intro w'
             go_simp
             with_reducible rfl
            rotate_left
            ·simp only [Act.put, sA, s0, s1, i64_w, i32_w]
             rfl
            refine pure_ (i := 12) (N := some 23) (v := ?_) (a' := ?_) (tfA 13 21) rfl rfl (any_of HT_.out (by kernel_rfl)) (fun _ _ _ h => h) (Or.inl ⟨by rfl, ?_⟩) ?_ ?_
            rotate_left
            ·intro w'
             go_simp
             with_reducible rfl
            rotate_left
            ·simp only [Act.put, sA, s0, s1, i64_w, i32_w]
             rfl
            refine pure_ (i := 13) (N := some 24) (v := ?_) (a' := ?_) (tfA 14 20) rfl rfl (any_of HT_.out (by kernel_rfl)) (fun _ _ _ h => h) (Or.inl ⟨by rfl, ?_⟩) ?_ ?_
            rotate_left
            ·intro w'
             go_simp
             with_reducible rfl
            rotate_left
            ·simp only [Act.put, sA, s0, s1, i64_w, i32_w]
             rfl
            refine pure_ (i := 14) (N := some 25) (v := ?_) (a' := ?_) (tfA 15 19) rfl rfl (any_of HT_.out (by kernel_rfl)) (fun _ _ _ h => h) (Or.inl ⟨by rfl, ?_⟩) ?_ ?_
            rotate_left
            ·intro w'
             go_simp
             with_reducible rfl
            rotate_left
            ·simp only [Act.put, sA, s0, s1, i64_w, i32_w]
             rfl
            refine pure_ (i := 15) (N := some 26) (v := ?_) (a' := ?_) (tfA 16 18) rfl rfl (any_of HT_.out (by kernel_rfl)) (fun _ _ _ h => h) (Or.inl ⟨by rfl, ?_⟩) ?_ ?_
            rotate_left
            ·intro w'
             go_simp
             with_reducible rfl
            rotate_left
            ·simp only [Act.put, sA, s0, s1, i64_w, i32_w]
             rfl
            refine pure_ (i := 16) (N := some 27) (v := ?_) (a' := ?_) (tfA 17 17) rfl rfl (any_of HT_.out (by kernel_rfl)) (fun _ _ _ h => h) (Or.inl ⟨by rfl, ?_⟩) ?_ ?_
            rotate_left
            ·intro w'
             go_simp
             with_reducible rfl
            rotate_left
            ·simp only [Act.put, sA, s0, s1, i64_w, i32_w]
             rfl
            refine pure_ (i := 19) (N := some 30) (v := ?_) (a' := ?_) (bnA 34 655359) rfl rfl (any_of HT_.out (by kernel_rfl)) (fun _ _ _ h => h) (Or.inl ⟨by rfl, ?_⟩) ?_ ?_
            rotate_left
            ·intro w'
             go_simp
             with_reducible rfl
            rotate_left
            ·simp only [Act.put, sA, s0, s1, i64_w, i32_w]
             rfl
            refine pure_ (i := 20) (N := some 31) (v := ?_) (a' := ?_) (bnA 34 1703935) rfl rfl (any_of HT_.out (by kernel_rfl)) (fun _ _ _ h => h) (Or.inl ⟨by rfl, ?_⟩) ?_ ?_
            rotate_left
            ·intro w'
             go_simp
             with_reducible rfl
            rotate_left
            ·simp only [Act.put, sA, s0, s1, i64_w, i32_w]
             rfl
            refine pure_ (i := 21) (N := some 32) (v := ?_) (a' := ?_) (bnA 34 3801087) rfl rfl (any_of HT_.out (by kernel_rfl)) (fun _ _ _ h => h) (Or.inl ⟨by rfl, ?_⟩) ?_ ?_
            rotate_left
            ·intro w'
             go_simp
             with_reducible rfl
            rotate_left
            ·simp only [Act.put, sA, s0, s1, i64_w, i32_w]
             rfl
            refine take_ (i := 17) (N := some 28) (v := ?_) (a' := ?_) (bnA 34 3932159) rfl rfl (take_ofW HT_.out HW_.out (by kernel_rfl)) (fun _ _ _ h => h) (Or.inl ⟨by rfl, ?_⟩) hHeld ?_ ?_
            rotate_left
            ·rintro w' ⟨s0, s1, s2, s3, s4, s5⟩
             go_simp
             with_reducible rfl
            rotate_left
            ·simp only [Act.put, sA, s0, s1, i64_w, i32_w]
             rfl
            refine pure_ (i := 18) (N := some 29) (v := ?_) (a' := ?_) (tfA 22 12) rfl rfl (any_of HT_.out (by kernel_rfl)) (fun _ _ _ h => h) (Or.inl ⟨by rfl, ?_⟩) ?_ ?_
            rotate_left
            ·intro w'
             go_simp
             with_reducible rfl
            rotate_left
            ·simp only [Act.put, sA, s0, s1, i64_w, i32_w]
             rfl
            refine take_ (i := 22) (N := some 33) (v := ?_) (a' := ?_) (tfA 23 11) rfl rfl (take_ofW HT_.out HW_.out (by kernel_rfl)) (fun _ _ _ h => h) (Or.inl ⟨by rfl, ?_⟩) hHeld ?_ ?_
            rotate_left
            ·rintro w' ⟨s0, s1, s2, s3, s4, s5⟩
             go_simp
             with_reducible rfl
            rotate_left
            ·simp only [Act.put, sA, s0, s1, i64_w, i32_w]
             rfl
            refine pure_ (i := 23) (N := some 34) (v := ?_) (a' := ?_) (tfA 24 10) rfl rfl (any_of HT_.out (by kernel_rfl)) (fun _ _ _ h => h) (Or.inl ⟨by rfl, ?_⟩) ?_ ?_
            rotate_left
            ·intro w'
             go_simp
             with_reducible rfl
            rotate_left
            ·simp only [Act.put, sA, s0, s1, i64_w, i32_w]
             rfl
            refine pure_ (i := 24) (N := some 35) (v := ?_) (a' := ?_) (tfA 25 9) rfl rfl (any_of HT_.out (by kernel_rfl)) (fun _ _ _ h => h) (Or.inl ⟨by rfl, ?_⟩) ?_ ?_
            rotate_left
            ·intro w'
             go_simp
             with_reducible rfl
            rotate_left
            ·simp only [Act.put, sA, s0, s1, i64_w, i32_w]
             rfl
            refine pure_ (i := 25) (N := some 36) (v := ?_) (a' := ?_) (tfA 26 8) rfl rfl (any_of HT_.out (by kernel_rfl)) (fun _ _ _ h => h) (Or.inl ⟨by rfl, ?_⟩) ?_ ?_
            rotate_left
            ·intro w'
             go_simp
             with_reducible rfl
            rotate_left
            ·simp only [Act.put, sA, s0, s1, i64_w, i32_w]
             rfl
            refine pure_ (i := 26) (N := some 37) (v := ?_) (a' := ?_) (tfA 27 7) rfl rfl (any_of HT_.out (by kernel_rfl)) (fun _ _ _ h => h) (Or.inl ⟨by rfl, ?_⟩) ?_ ?_
            rotate_left
            ·intro w'
             go_simp
             with_reducible rfl
            rotate_left
            ·simp only [Act.put, sA, s0, s1, i64_w, i32_w]
             rfl
            refine pure_ (i := 28) (N := some 39) (v := ?_) (a' := ?_) (bnA 34 402653183) rfl rfl (any_of HT_.out (by kernel_rfl)) (fun _ _ _ h => h) (Or.inl ⟨by rfl, ?_⟩) ?_ ?_
            rotate_left
            ·intro w'
             go_simp
             with_reducible rfl
            rotate_left
            ·simp only [Act.put, sA, s0, s1, i64_w, i32_w]
             rfl
            refine take_ (i := 27) (N := some 38) (v := ?_) (a' := ?_) (tfA 29 5) rfl rfl (take_ofW HT_.out HW_.out (by kernel_rfl)) (fun _ _ _ h => h) (Or.inl ⟨by rfl, ?_⟩) hHeld ?_ ?_
            rotate_left
            ·rintro w' ⟨s0, s1, s2, s3, s4, s5⟩
             go_simp
             with_reducible rfl
            rotate_left
            ·simp only [Act.put, sA, s0, s1, i64_w, i32_w]
             rfl
            refine take_ (i := 29) (N := some 40) (v := ?_) (a' := ?_) (tfA 30 4) rfl rfl (take_ofW HT_.out HW_.out (by kernel_rfl)) (fun _ _ _ h => h) (Or.inl ⟨by rfl, ?_⟩) hHeld ?_ ?_
            rotate_left
            ·rintro w' ⟨s0, s1, s2, s3, s4, s5⟩
             go_simp
             with_reducible rfl
            rotate_left
            ·simp only [Act.put, sA, s0, s1, i64_w, i32_w]
             rfl
            refine pure_ (i := 30) (N := some 41) (v := ?_) (a' := ?_) (tfA 31 3) rfl rfl (any_of HT_.out (by kernel_rfl)) (fun _ _ _ h => h) (Or.inl ⟨by rfl, ?_⟩) ?_ ?_
            rotate_left
            ·intro w'
             go_simp
             with_reducible rfl
            rotate_left
            ·simp only [Act.put, sA, s0, s1, i64_w, i32_w]
             rfl
            refine one_ (i := 31) (N := some 42) (tfA 32 2) rfl rfl (one_of HT_.out (by kernel_rfl)) (by decide) (fun K hK => ?_)
            refine goes_ Tryz.func144 (by kernel_rfl) rfl #[.agg #[.string ((rd_T48 l0 x7_1).f0), .slice A101_1 ((rd_T48 l0 x7_1).f1).length c101_1, .slice A101_2 ((rd_T48 l0 x7_1).f2).length c101_2], .int .i64 (((rd_T48 l0 x7_1).f1).length : Int), .int .i64 32, .int .i64 0] (by rfl) rfl rfl (by (try simp only [List.map_toArray, List.map_cons, List.map_nil]); first | done | rfl | (simp only [List.length_drop, List.length_take]; rfl)) ?_
            with_reducible refine (spec_counted.calls k1 ((rd_T48 l0 x7_1).f0) _ _ ((rd_T48 l0 x7_1).f1) _ _ ((rd_T48 l0 x7_1).f2) (((rd_T48 l0 x7_1).f1).length : Int) 32 0 true _ ?side1 ?side2 ?side3 ?side4 A23.out).mono ?_
            (case side1 => repeat (first | exact (Kd.C_below HR101_1.out HB.out) | (with_reducible refine Kd.C_alloc ?_ _) | (with_reducible refine Kd.C_drewN ?_ _) | (with_reducible refine Kd.C_drew ?_)))
            (case side2 => exact HC101_1.out)
            (case side3 => repeat (first | exact (Kd.C_below HR101_2.out HB.out) | (with_reducible refine Kd.C_alloc ?_ _) | (with_reducible refine Kd.C_drewN ?_ _) | (with_reducible refine Kd.C_drew ?_)))
            (case side4 => exact HC101_2.out)
            rintro e w29 ⟨rfl, hb⟩
            refine ⟨_, rfl, ?_⟩
            have n0_ := Aside0.mk (blk_below (g := gb102) (o := .cells #[.string ((rd_T48 l0 x7_1).f0), .slice A101_1 ((rd_T48 l0 x7_1).f1).length c101_1, .slice A101_2 ((rd_T48 l0 x7_1).f2).length c101_2] 48 (0, 0)) (by (with_reducible repeat (first | refine bN ?_ _ | refine bW ?_ | refine bA ?_ _)); exact BK102.out) hb)
            have n1_ := Aside0.mk (below_step belS hb)
            clear BK102
            clear HB
            have BK102 := n0_
            have HB := n1_
            clear n0_ n1_
            (try clear hb)
            (try clear hb2)
            (try clear hk)
            (try clear hi)
            refine hK.out _ _ ⟨(blk_cell BK102.out 0).trans rfl, (blk_cell BK102.out 1).trans rfl, (blk_cell BK102.out 2).trans rfl, ((HB.out.cell (World.block_lt_of_cell? w _ hw105_0)).trans hw105_0), ((HB.out.cell (World.block_lt_of_cell? w _ hw105_1)).trans hw105_1), ((HB.out.cell (World.block_lt_of_cell? w _ hw105_2)).trans hw105_2)⟩ (fun hHeld => ?_)
            clear hK K
            refine norm_ (a' := ?_) ?_ ?_
            rotate_left
            ·show Act.put _ (some 42) _ = _
             simp only [Act.put, sA, s0, s1, i64_w, i32_w]
             rfl
            refine pure_ (i := 32) (N := some 43) (v := ?_) (a' := ?_) (tfA 33 1) rfl rfl (any_of HT_.out (by kernel_rfl)) (fun _ _ _ h => h) (Or.inl ⟨by rfl, ?_⟩) ?_ ?_
            rotate_left
            ·intro w'
             go_simp
             with_reducible rfl
            rotate_left
            ·simp only [Act.put, sA, s0, s1, i64_w, i32_w]
             rfl
            refine pure_ (i := 33) (N := some 44) (v := ?_) (a' := ?_) (tfA 34 0) rfl rfl (any_of HT_.out (by kernel_rfl)) (fun _ _ _ h => h) (Or.inl ⟨by rfl, ?_⟩) ?_ ?_
            rotate_left
            ·intro w'
             go_simp
             with_reducible rfl
            rotate_left
            ·simp only [Act.put, sA, s0, s1, i64_w, i32_w]
             rfl
            refine done_ (done_of HT_.out (by kernel_rfl)) ?_
            try go_wp2
            go_roundg k1
            case measure => have := HK1.out; omega
            case rel => exact ⟨(wrap64 (x7_1 + 1)), (by first | rfl | (simp; done) | (simp [*]; done) | (simp [bne_nil]; done) | (simp [bne_nil, *]; done)), H', ⟨by have := HK1.out; omega⟩, ⟨by repeat (first | (with_reducible first | exact HB.out | apply below_alloc | apply pw_below_drewN | apply below_drew1 | refine below_set ?_ GE102.out) | exact HB.out)⟩⟩
           ·replace c24 := Bool.eq_false_iff.mpr c24
            subst c24
            have H1 : (none) = some r := by rw [if_neg (show ¬ (false = true) by decide)] at H; exact H
            clear H
            have H := H1
            clear H1
            exact absurd H (by simp)
          ·rw [if_neg c22] at H
           have c22b0 : ((((rd_T48 l0 x7_1).f1).length : Int) == (((rd_T48 l0 0).f1).length : Int)) = false := beq_eq_false_iff_ne.mpr c22
           have c22b1 : ((((rd_T48 l0 x7_1).f1).length : Int) != (((rd_T48 l0 0).f1).length : Int)) = true := bne_iff_ne.mpr c22
           have c22b2 : (((rd_T48 l0 x7_1).f1).length == ((rd_T48 l0 0).f1).length) = false := by first | simpa using c22 | (simp at c22 ⊢; omega)
           obtain rfl := Option.some.inj H
           have p101 : 0 ≤ (x7_1 : Int) := of_decide_eq_true (by first | (with_reducible assumption) | assumption)
           have q101 : x7_1 < (l0.length : Int) := of_decide_eq_true (by first | (with_reducible assumption) | assumption)
           obtain ⟨ad101, A101_1, c101_1, A101_2, c101_2, e101, hx101_0, hx101_1, hx101_2, hl101_1, hi101_1, hl101_2, hi101_2⟩ := at_T48 HR0.out x7_1 p101 q101
           cases e101
           replace hx101_0 := (HB.out.cell (World.block_lt_of_cell? w _ hx101_0)).trans hx101_0
           replace hx101_1 := (HB.out.cell (World.block_lt_of_cell? w _ hx101_1)).trans hx101_1
           replace hx101_2 := (HB.out.cell (World.block_lt_of_cell? w _ hx101_2)).trans hx101_2
           have HR101_1 := Aside0.mk hi101_1
           have HC101_1 := Aside0.mk hl101_1
           clear hi101_1 hl101_1
           have HR101_2 := Aside0.mk hi101_2
           have HC101_2 := Aside0.mk hl101_2
           clear hi101_2 hl101_2
           replace p101 := eq_true p101
           replace q101 := eq_true q101
           try go_wp2_with (first | ((with_reducible refine gate_dst (N := 4) rfl ?_); (try (refine gate_guard (by rfl) ?_; dsimp only)); refine box_event ?hg (N := 4) ?hd (cs := #[.string (⟨#[]⟩ : ByteArray), .slice none 0 0, .slice none 0 0]) (t := 48) ?hr ?_; (case hd => rfl); (case hg => rfl); (case hr => first | (go_simp; done) | (go_simp; rfl)); intro gb102 hg w30 hbox hb; have n0_ := Aside0.mk (below_step belH hb); have n1_ := Aside0.mk (hbox); have n2_ := Aside0.mk ((by rw [hg]; exact (below_size belH) : w.heap.size ≤ gb102)); have n3_ := Aside0.mk ((by rw [hg]; exact (below_size belH) : w.heap.size ≤ gb102)); clear HB; have HB := n0_; have BK102 := n1_; have GW102 := n2_; have GE102 := n3_; clear n0_ n1_ n2_ n3_; clear hb hbox hg; have hcz31_0 : w30.cell? ⟨gb102, 0, none⟩ = some (.string (⟨#[]⟩ : ByteArray)) := (blk_cell BK102.out 0).trans rfl; have hcz31_1 : w30.cell? ⟨gb102, 1, none⟩ = some (.slice none 0 0) := (blk_cell BK102.out 1).trans rfl; have hcz31_2 : w30.cell? ⟨gb102, 2, none⟩ = some (.slice none 0 0) := (blk_cell BK102.out 2).trans rfl; have hfz31_0 := blk_frozen BK102.out 0; have hfz31_1 := blk_frozen BK102.out 1; have hfz31_2 := blk_frozen BK102.out 2))
           have n0_ : Aside0 ((((w30.setCell ⟨gb102, 0, none⟩ (.string ((rd_T48 l0 x7_1).f0))).setCell ⟨gb102, 1, none⟩ (.slice A101_1 ((rd_T48 l0 x7_1).f1).length c101_1)).setCell ⟨gb102, 2, none⟩ (.slice A101_2 ((rd_T48 l0 x7_1).f2).length c101_2)).heap[gb102]? = some (.cells #[.string ((rd_T48 l0 x7_1).f0), .slice A101_1 ((rd_T48 l0 x7_1).f1).length c101_1, .slice A101_2 ((rd_T48 l0 x7_1).f2).length c101_2] 48 (0, 0))) := ⟨by (with_reducible repeat (first | refine bN ?_ _ | refine bW ?_ | refine bA ?_ _)); refine blk_put (cs := #[.string ((rd_T48 l0 x7_1).f0), .slice A101_1 ((rd_T48 l0 x7_1).f1).length c101_1, .slice none 0 0]) ?_ 2 _ rfl; (with_reducible repeat (first | refine bN ?_ _ | refine bW ?_ | refine bA ?_ _)); refine blk_put (cs := #[.string ((rd_T48 l0 x7_1).f0), .slice none 0 0, .slice none 0 0]) ?_ 1 _ rfl; (with_reducible repeat (first | refine bN ?_ _ | refine bW ?_ | refine bA ?_ _)); refine blk_put (cs := #[.string (⟨#[]⟩ : ByteArray), .slice none 0 0, .slice none 0 0]) ?_ 0 _ rfl; (with_reducible repeat (first | refine bN ?_ _ | refine bW ?_ | refine bA ?_ _)); exact BK102.out⟩
           have n1_ : Aside0 (Below w.heap.size w (((w30.setCell ⟨gb102, 0, none⟩ (.string ((rd_T48 l0 x7_1).f0))).setCell ⟨gb102, 1, none⟩ (.slice A101_1 ((rd_T48 l0 x7_1).f1).length c101_1)).setCell ⟨gb102, 2, none⟩ (.slice A101_2 ((rd_T48 l0 x7_1).f2).length c101_2))) := ⟨by repeat (first | (with_reducible first | exact HB.out | apply below_alloc | apply pw_below_drewN | apply below_drew1 | refine below_set ?_ GE102.out) | exact HB.out)⟩
           (try clear BK102)
           (try clear HB)
           generalize (((w30.setCell ⟨gb102, 0, none⟩ (.string ((rd_T48 l0 x7_1).f0))).setCell ⟨gb102, 1, none⟩ (.slice A101_1 ((rd_T48 l0 x7_1).f1).length c101_1)).setCell ⟨gb102, 2, none⟩ (.slice A101_2 ((rd_T48 l0 x7_1).f2).length c101_2)) = w32 at n0_ n1_ ⊢
           have BK102 := n0_
           have HB := n1_
           clear n0_ n1_
           have n0_ := Aside0.mk (blk_drew BK102.out)
           have n1_ := Aside0.mk (below_drew1 HB.out)
           clear BK102
           clear HB
           have BK102 := n0_
           have HB := n1_
           clear n0_ n1_
           have p105 : 0 ≤ (0 : Int) := (by omega)
           have q105 : 0 < (l0.length : Int) := of_decide_eq_true (by first | (with_reducible assumption) | assumption)
           obtain ⟨ad105, A105_1, c105_1, A105_2, c105_2, e105, hx105_0, hx105_1, hx105_2, hl105_1, hi105_1, hl105_2, hi105_2⟩ := at_T48 HR0.out 0 p105 q105
           have hw105_2 := hx105_2
           (try rw [show ((0 : Int)).toNat = 0 from rfl] at hw105_2)
           (try rw [show 0 * 3 = 0 from rfl] at hw105_2)
           (try rw [Addr.add_zero'] at hw105_2)
           have hw105_1 := hx105_1
           (try rw [show ((0 : Int)).toNat = 0 from rfl] at hw105_1)
           (try rw [show 0 * 3 = 0 from rfl] at hw105_1)
           (try rw [Addr.add_zero'] at hw105_1)
           have hw105_0 := hx105_0
           (try rw [show ((0 : Int)).toNat = 0 from rfl] at hw105_0)
           (try rw [show 0 * 3 = 0 from rfl] at hw105_0)
           (try rw [Addr.add_zero'] at hw105_0)
           obtain rfl : ad101 = ad105 := (by injection e105)
           have qi105 : (0 < l0.length) = True := eq_true (by omega)
           (try rw [show ((0 : Int)).toNat = 0 from rfl] at hx105_0)
           (try rw [show 0 * 3 = 0 from rfl] at hx105_0)
           (try rw [Addr.add_zero'] at hx105_0)
           (try rw [show ((0 : Int)).toNat = 0 from rfl] at hx105_1)
           (try rw [show 0 * 3 = 0 from rfl] at hx105_1)
           (try rw [Addr.add_zero'] at hx105_1)
           (try rw [show ((0 : Int)).toNat = 0 from rfl] at hx105_2)
           (try rw [show 0 * 3 = 0 from rfl] at hx105_2)
           (try rw [Addr.add_zero'] at hx105_2)
           replace hx105_0 := (HB.out.cell (World.block_lt_of_cell? w _ hx105_0)).trans hx105_0
           replace hx105_1 := (HB.out.cell (World.block_lt_of_cell? w _ hx105_1)).trans hx105_1
           replace hx105_2 := (HB.out.cell (World.block_lt_of_cell? w _ hx105_2)).trans hx105_2
           have HR105_1 := Aside0.mk hi105_1
           have HC105_1 := Aside0.mk hl105_1
           clear hi105_1 hl105_1
           have HR105_2 := Aside0.mk hi105_2
           have HC105_2 := Aside0.mk hl105_2
           clear hi105_2 hl105_2
           replace p105 := eq_true p105
           replace q105 := eq_true q105
           refine start_ (n := 34) (S := fun w' => w'.cell? ⟨gb102, 0, none⟩ = some (.string ((rd_T48 l0 x7_1).f0)) ∧ w'.cell? ⟨gb102, 1, none⟩ = some (.slice A101_1 ((rd_T48 l0 x7_1).f1).length c101_1) ∧ w'.cell? ⟨gb102, 2, none⟩ = some (.slice A101_2 ((rd_T48 l0 x7_1).f2).length c101_2) ∧ w'.cell? ad101 = some (.string ((rd_T48 l0 0).f0)) ∧ w'.cell? ⟨ad101.block, ad101.off + 1, none⟩ = some (.slice A105_1 ((rd_T48 l0 0).f1).length c105_1) ∧ w'.cell? ⟨ad101.block, ad101.off + 2, none⟩ = some (.slice A105_2 ((rd_T48 l0 0).f2).length c105_2)) (ds := []) (tfA 0 34) (by kernel_rfl) rfl rfl ⟨(blk_cell BK102.out 0).trans rfl, (blk_cell BK102.out 1).trans rfl, (blk_cell BK102.out 2).trans rfl, ((HB.out.cell (World.block_lt_of_cell? w _ hw105_0)).trans hw105_0), ((HB.out.cell (World.block_lt_of_cell? w _ hw105_1)).trans hw105_1), ((HB.out.cell (World.block_lt_of_cell? w _ hw105_2)).trans hw105_2)⟩ (fun hHeld => ?_); refine with_tabW spec_softnetFine.tab4 spec_softnetFine.bits4 (fun HT_ HW_ => ?_)
           generalize w32.drew = w33 at BK102 HB HR105_1 HR105_2 hx105_0 hx105_1 hx105_2 hHeld ⊢
           refine pure_ (i := 0) (N := some 11) (v := ?_) (a' := ?_) (tfA 1 33) rfl rfl (any_of HT_.out (by kernel_rfl)) (fun _ _ _ h => h) (Or.inl ⟨by rfl, ?_⟩) ?_ ?_
           rotate_left
           ·intro w'
            go_simp
            with_reducible rfl
           rotate_left
           ·simp only [Act.put, sA, s0, s1, i64_w, i32_w]
            rfl
           refine take_ (i := 1) (N := some 12) (v := ?_) (a' := ?_) (tfA 2 32) rfl rfl (take_ofW HT_.out HW_.out (by kernel_rfl)) (fun _ _ _ h => h) (Or.inl ⟨by rfl, ?_⟩) hHeld ?_ ?_
           rotate_left
           ·rintro w' ⟨s0, s1, s2, s3, s4, s5⟩
            go_simp
            with_reducible rfl
           rotate_left
           ·simp only [Act.put, sA, s0, s1, i64_w, i32_w]
            rfl
           refine pure_ (i := 2) (N := some 13) (v := ?_) (a' := ?_) (tfA 3 31) rfl rfl (any_of HT_.out (by kernel_rfl)) (fun _ _ _ h => h) (Or.inl ⟨by rfl, ?_⟩) ?_ ?_
           rotate_left
           ·intro w'
            go_simp
            with_reducible rfl
           rotate_left
           ·simp only [Act.put, sA, s0, s1, i64_w, i32_w]
            rfl
           refine pure_ (i := 3) (N := some 14) (v := ?_) (a' := ?_) (tfA 4 30) rfl rfl (any_of HT_.out (by kernel_rfl)) (fun _ _ _ h => h) (Or.inl ⟨by rfl, ?_⟩) ?_ ?_
           rotate_left
           ·intro w'
            go_simp
            with_reducible rfl
           rotate_left
           ·simp only [Act.put, sA, s0, s1, i64_w, i32_w]
            rfl
           refine pure_ (i := 4) (N := some 15) (v := ?_) (a' := ?_) (tfA 5 29) rfl rfl (any_of HT_.out (by kernel_rfl)) (fun _ _ _ h => h) (Or.inl ⟨by rfl, ?_⟩) ?_ ?_
           rotate_left
           ·intro w'
            go_simp
            with_reducible rfl
           rotate_left
           ·simp only [Act.put, sA, s0, s1, i64_w, i32_w]
            rfl
           refine take_ (i := 5) (N := some 16) (v := ?_) (a' := ?_) (tfA 6 28) rfl rfl (take_ofW HT_.out HW_.out (by kernel_rfl)) (fun _ _ _ h => h) (Or.inl ⟨by rfl, ?_⟩) hHeld ?_ ?_
           rotate_left
           ·rintro w' ⟨s0, s1, s2, s3, s4, s5⟩
            go_simp
            with_reducible rfl
           rotate_left
           ·simp only [Act.put, sA, s0, s1, i64_w, i32_w]
            rfl
           refine pure_ (i := 6) (N := some 17) (v := ?_) (a' := ?_) (tfA 7 27) rfl rfl (any_of HT_.out (by kernel_rfl)) (fun _ _ _ h => h) (Or.inl ⟨by rfl, ?_⟩) ?_ ?_
           rotate_left
           ·intro w'
            go_simp
            with_reducible rfl
           rotate_left
           ·simp only [Act.put, sA, s0, s1, i64_w, i32_w]
            rfl
           refine pure_ (i := 7) (N := some 18) (v := ?_) (a' := ?_) (tfA 8 26) rfl rfl (any_of HT_.out (by kernel_rfl)) (fun _ _ _ h => h) (Or.inl ⟨by rfl, ?_⟩) ?_ ?_
           rotate_left
           ·intro w'
            go_simp
            with_reducible rfl
           rotate_left
           ·simp only [Act.put, sA, s0, s1, i64_w, i32_w]
            rfl
           refine pure_ (i := 8) (N := some 19) (v := ?_) (a' := ?_) (tfA 9 25) rfl rfl (any_of HT_.out (by kernel_rfl)) (fun _ _ _ h => h) (Or.inl ⟨by rfl, ?_⟩) ?_ ?_
           rotate_left
           ·intro w'
            go_simp
            with_reducible rfl
           rotate_left
           ·simp only [Act.put, sA, s0, s1, i64_w, i32_w]
            rfl
           refine pure_ (i := 9) (N := some 20) (v := ?_) (a' := ?_) (tfA 10 24) rfl rfl (any_of HT_.out (by kernel_rfl)) (fun _ _ _ h => h) (Or.inl ⟨by rfl, ?_⟩) ?_ ?_
           rotate_left
           ·intro w'
            go_simp
            with_reducible rfl
           rotate_left
           ·simp only [Act.put, sA, s0, s1, i64_w, i32_w]
            rfl
           refine take_ (i := 10) (N := some 21) (v := ?_) (a' := ?_) (tfA 11 23) rfl rfl (take_ofW HT_.out HW_.out (by kernel_rfl)) (fun _ _ _ h => h) (Or.inl ⟨by rfl, ?_⟩) hHeld ?_ ?_
           rotate_left
           ·rintro w' ⟨s0, s1, s2, s3, s4, s5⟩
            go_simp
            with_reducible rfl
           rotate_left
           ·simp only [Act.put, sA, s0, s1, i64_w, i32_w]
            rfl
           refine pure_ (i := 11) (N := some 22) (v := ?_) (a' := ?_) (tfA 12 22) rfl rfl (any_of HT_.out (by kernel_rfl)) (fun _ _ _ h => h) (Or.inl ⟨by rfl, ?_⟩) ?_ ?_
           rotate_left
           ·intro w'
            go_simp
            with_reducible rfl
           rotate_left
           ·simp only [Act.put, sA, s0, s1, i64_w, i32_w]
            rfl
           refine pure_ (i := 12) (N := some 23) (v := ?_) (a' := ?_) (tfA 13 21) rfl rfl (any_of HT_.out (by kernel_rfl)) (fun _ _ _ h => h) (Or.inl ⟨by rfl, ?_⟩) ?_ ?_
           rotate_left
           ·intro w'
            go_simp
            with_reducible rfl
           rotate_left
           ·simp only [Act.put, sA, s0, s1, i64_w, i32_w]
            rfl
           refine pure_ (i := 13) (N := some 24) (v := ?_) (a' := ?_) (tfA 14 20) rfl rfl (any_of HT_.out (by kernel_rfl)) (fun _ _ _ h => h) (Or.inl ⟨by rfl, ?_⟩) ?_ ?_
           rotate_left
           ·intro w'
            go_simp
            with_reducible rfl
           rotate_left
           ·simp only [Act.put, sA, s0, s1, i64_w, i32_w]
            rfl
           refine pure_ (i := 14) (N := some 25) (v := ?_) (a' := ?_) (tfA 15 19) rfl rfl (any_of HT_.out (by kernel_rfl)) (fun _ _ _ h => h) (Or.inl ⟨by rfl, ?_⟩) ?_ ?_
           rotate_left
           ·intro w'
            go_simp
            with_reducible rfl
           rotate_left
           ·simp only [Act.put, sA, s0, s1, i64_w, i32_w]
            rfl
           refine pure_ (i := 15) (N := some 26) (v := ?_) (a' := ?_) (tfA 16 18) rfl rfl (any_of HT_.out (by kernel_rfl)) (fun _ _ _ h => h) (Or.inl ⟨by rfl, ?_⟩) ?_ ?_
           rotate_left
           ·intro w'
            go_simp
            with_reducible rfl
           rotate_left
           ·simp only [Act.put, sA, s0, s1, i64_w, i32_w]
            rfl
           refine pure_ (i := 16) (N := some 27) (v := ?_) (a' := ?_) (tfA 17 17) rfl rfl (any_of HT_.out (by kernel_rfl)) (fun _ _ _ h => h) (Or.inl ⟨by rfl, ?_⟩) ?_ ?_
           rotate_left
           ·intro w'
            go_simp
            with_reducible rfl
           rotate_left
           ·simp only [Act.put, sA, s0, s1, i64_w, i32_w]
            rfl
           refine pure_ (i := 19) (N := some 30) (v := ?_) (a' := ?_) (bnA 34 655359) rfl rfl (any_of HT_.out (by kernel_rfl)) (fun _ _ _ h => h) (Or.inl ⟨by rfl, ?_⟩) ?_ ?_
           rotate_left
           ·intro w'
            go_simp
            with_reducible rfl
           rotate_left
           ·simp only [Act.put, sA, s0, s1, i64_w, i32_w]
            rfl
           refine pure_ (i := 20) (N := some 31) (v := ?_) (a' := ?_) (bnA 34 1703935) rfl rfl (any_of HT_.out (by kernel_rfl)) (fun _ _ _ h => h) (Or.inl ⟨by rfl, ?_⟩) ?_ ?_
           rotate_left
           ·intro w'
            go_simp
            with_reducible rfl
           rotate_left
           ·simp only [Act.put, sA, s0, s1, i64_w, i32_w]
            rfl
           refine pure_ (i := 21) (N := some 32) (v := ?_) (a' := ?_) (bnA 34 3801087) rfl rfl (any_of HT_.out (by kernel_rfl)) (fun _ _ _ h => h) (Or.inl ⟨by rfl, ?_⟩) ?_ ?_
           rotate_left
           ·intro w'
            go_simp
            with_reducible rfl
           rotate_left
           ·simp only [Act.put, sA, s0, s1, i64_w, i32_w]
            rfl
           refine take_ (i := 17) (N := some 28) (v := ?_) (a' := ?_) (bnA 34 3932159) rfl rfl (take_ofW HT_.out HW_.out (by kernel_rfl)) (fun _ _ _ h => h) (Or.inl ⟨by rfl, ?_⟩) hHeld ?_ ?_
           rotate_left
           ·rintro w' ⟨s0, s1, s2, s3, s4, s5⟩
            go_simp
            with_reducible rfl
           rotate_left
           ·simp only [Act.put, sA, s0, s1, i64_w, i32_w]
            rfl
           refine pure_ (i := 18) (N := some 29) (v := ?_) (a' := ?_) (tfA 22 12) rfl rfl (any_of HT_.out (by kernel_rfl)) (fun _ _ _ h => h) (Or.inl ⟨by rfl, ?_⟩) ?_ ?_
           rotate_left
           ·intro w'
            go_simp
            with_reducible rfl
           rotate_left
           ·simp only [Act.put, sA, s0, s1, i64_w, i32_w]
            rfl
           refine take_ (i := 22) (N := some 33) (v := ?_) (a' := ?_) (tfA 23 11) rfl rfl (take_ofW HT_.out HW_.out (by kernel_rfl)) (fun _ _ _ h => h) (Or.inl ⟨by rfl, ?_⟩) hHeld ?_ ?_
           rotate_left
           ·rintro w' ⟨s0, s1, s2, s3, s4, s5⟩
            go_simp
            with_reducible rfl
           rotate_left
           ·simp only [Act.put, sA, s0, s1, i64_w, i32_w]
            rfl
           refine pure_ (i := 23) (N := some 34) (v := ?_) (a' := ?_) (tfA 24 10) rfl rfl (any_of HT_.out (by kernel_rfl)) (fun _ _ _ h => h) (Or.inl ⟨by rfl, ?_⟩) ?_ ?_
           rotate_left
           ·intro w'
            go_simp
            with_reducible rfl
           rotate_left
           ·simp only [Act.put, sA, s0, s1, i64_w, i32_w]
            rfl
           refine pure_ (i := 24) (N := some 35) (v := ?_) (a' := ?_) (tfA 25 9) rfl rfl (any_of HT_.out (by kernel_rfl)) (fun _ _ _ h => h) (Or.inl ⟨by rfl, ?_⟩) ?_ ?_
           rotate_left
           ·intro w'
            go_simp
            with_reducible rfl
           rotate_left
           ·simp only [Act.put, sA, s0, s1, i64_w, i32_w]
            rfl
           refine pure_ (i := 25) (N := some 36) (v := ?_) (a' := ?_) (tfA 26 8) rfl rfl (any_of HT_.out (by kernel_rfl)) (fun _ _ _ h => h) (Or.inl ⟨by rfl, ?_⟩) ?_ ?_
           rotate_left
           ·intro w'
            go_simp
            with_reducible rfl
           rotate_left
           ·simp only [Act.put, sA, s0, s1, i64_w, i32_w]
            rfl
           refine pure_ (i := 26) (N := some 37) (v := ?_) (a' := ?_) (tfA 27 7) rfl rfl (any_of HT_.out (by kernel_rfl)) (fun _ _ _ h => h) (Or.inl ⟨by rfl, ?_⟩) ?_ ?_
           rotate_left
           ·intro w'
            go_simp
            with_reducible rfl
           rotate_left
           ·simp only [Act.put, sA, s0, s1, i64_w, i32_w]
            rfl
           refine pure_ (i := 27) (N := some 38) (v := undef) (a' := ?_) (tfA 28 6) rfl rfl (any_of HT_.out (by kernel_rfl)) (fun _ _ _ h => h) (Or.inr ⟨by rfl, rfl⟩) ?_ ?_
           rotate_left
           ·simp only [Act.put, sA, s0, s1, i64_w, i32_w]
            rfl
           refine pure_ (i := 28) (N := some 39) (v := undef) (a' := ?_) (tfA 29 5) rfl rfl (any_of HT_.out (by kernel_rfl)) (fun _ _ _ h => h) (Or.inr ⟨by rfl, rfl⟩) ?_ ?_
           rotate_left
           ·simp only [Act.put, sA, s0, s1, i64_w, i32_w]
            rfl
           refine pure_ (i := 29) (N := some 40) (v := undef) (a' := ?_) (tfA 30 4) rfl rfl (any_of HT_.out (by kernel_rfl)) (fun _ _ _ h => h) (Or.inr ⟨by rfl, rfl⟩) ?_ ?_
           rotate_left
           ·simp only [Act.put, sA, s0, s1, i64_w, i32_w]
            rfl
           refine pure_ (i := 30) (N := some 41) (v := undef) (a' := ?_) (tfA 31 3) rfl rfl (any_of HT_.out (by kernel_rfl)) (fun _ _ _ h => h) (Or.inr ⟨by rfl, rfl⟩) ?_ ?_
           rotate_left
           ·simp only [Act.put, sA, s0, s1, i64_w, i32_w]
            rfl
           refine pure_ (i := 31) (N := some 42) (v := undef) (a' := ?_) (tfA 32 2) rfl rfl (any_of HT_.out (by kernel_rfl)) (fun _ _ _ h => h) (Or.inr ⟨by rfl, rfl⟩) ?_ ?_
           rotate_left
           ·simp only [Act.put, sA, s0, s1, i64_w, i32_w]
            rfl
           refine pure_ (i := 32) (N := some 43) (v := undef) (a' := ?_) (tfA 33 1) rfl rfl (any_of HT_.out (by kernel_rfl)) (fun _ _ _ h => h) (Or.inr ⟨by rfl, rfl⟩) ?_ ?_
           rotate_left
           ·simp only [Act.put, sA, s0, s1, i64_w, i32_w]
            rfl
           refine pure_ (i := 33) (N := some 44) (v := ?_) (a' := ?_) (tfA 34 0) rfl rfl (any_of HT_.out (by kernel_rfl)) (fun _ _ _ h => h) (Or.inl ⟨by rfl, ?_⟩) ?_ ?_
           rotate_left
           ·intro w'
            go_simp
            with_reducible rfl
           rotate_left
           ·simp only [Act.put, sA, s0, s1, i64_w, i32_w]
            rfl
           refine done_ (done_of HT_.out (by kernel_rfl)) ?_
           try go_wp2
           go_ret
           exact ⟨by first | rfl | (simp [errW_none, errW_some] <;> rfl) | (simp [*, errW_none, errW_some] <;> rfl), by repeat (first | (with_reducible first | exact HB.out | apply below_alloc | apply pw_below_drewN | apply below_drew1 | refine below_set ?_ GE102.out) | exact HB.out)⟩
         ·rw [if_neg c21] at H
          exact absurd H (by simp)
        ·rw [if_neg c20] at H
         have c20b0 : ((((rd_T48 l0 x7_1).f1).length : Int) == 15) = false := beq_eq_false_iff_ne.mpr c20
         have c20b1 : ((((rd_T48 l0 x7_1).f1).length : Int) != 15) = true := bne_iff_ne.mpr c20
         obtain rfl := Option.some.inj H
         have p101 : 0 ≤ (x7_1 : Int) := of_decide_eq_true (by first | (with_reducible assumption) | assumption)
         have q101 : x7_1 < (l0.length : Int) := of_decide_eq_true (by first | (with_reducible assumption) | assumption)
         obtain ⟨ad101, A101_1, c101_1, A101_2, c101_2, e101, hx101_0, hx101_1, hx101_2, hl101_1, hi101_1, hl101_2, hi101_2⟩ := at_T48 HR0.out x7_1 p101 q101
         cases e101
         replace hx101_0 := (HB.out.cell (World.block_lt_of_cell? w _ hx101_0)).trans hx101_0
         replace hx101_1 := (HB.out.cell (World.block_lt_of_cell? w _ hx101_1)).trans hx101_1
         replace hx101_2 := (HB.out.cell (World.block_lt_of_cell? w _ hx101_2)).trans hx101_2
         have HR101_1 := Aside0.mk hi101_1
         have HC101_1 := Aside0.mk hl101_1
         clear hi101_1 hl101_1
         have HR101_2 := Aside0.mk hi101_2
         have HC101_2 := Aside0.mk hl101_2
         clear hi101_2 hl101_2
         replace p101 := eq_true p101
         replace q101 := eq_true q101
         try go_wp2_with (first | ((with_reducible refine gate_dst (N := 4) rfl ?_); (try (refine gate_guard (by rfl) ?_; dsimp only)); refine box_event ?hg (N := 4) ?hd (cs := #[.string (⟨#[]⟩ : ByteArray), .slice none 0 0, .slice none 0 0]) (t := 48) ?hr ?_; (case hd => rfl); (case hg => rfl); (case hr => first | (go_simp; done) | (go_simp; rfl)); intro gb102 hg w34 hbox hb; have n0_ := Aside0.mk (below_step belH hb); have n1_ := Aside0.mk (hbox); have n2_ := Aside0.mk ((by rw [hg]; exact (below_size belH) : w.heap.size ≤ gb102)); have n3_ := Aside0.mk ((by rw [hg]; exact (below_size belH) : w.heap.size ≤ gb102)); clear HB; have HB := n0_; have BK102 := n1_; have GW102 := n2_; have GE102 := n3_; clear n0_ n1_ n2_ n3_; clear hb hbox hg; have hcz35_0 : w34.cell? ⟨gb102, 0, none⟩ = some (.string (⟨#[]⟩ : ByteArray)) := (blk_cell BK102.out 0).trans rfl; have hcz35_1 : w34.cell? ⟨gb102, 1, none⟩ = some (.slice none 0 0) := (blk_cell BK102.out 1).trans rfl; have hcz35_2 : w34.cell? ⟨gb102, 2, none⟩ = some (.slice none 0 0) := (blk_cell BK102.out 2).trans rfl; have hfz35_0 := blk_frozen BK102.out 0; have hfz35_1 := blk_frozen BK102.out 1; have hfz35_2 := blk_frozen BK102.out 2))
         have n0_ : Aside0 ((((w34.setCell ⟨gb102, 0, none⟩ (.string ((rd_T48 l0 x7_1).f0))).setCell ⟨gb102, 1, none⟩ (.slice A101_1 ((rd_T48 l0 x7_1).f1).length c101_1)).setCell ⟨gb102, 2, none⟩ (.slice A101_2 ((rd_T48 l0 x7_1).f2).length c101_2)).heap[gb102]? = some (.cells #[.string ((rd_T48 l0 x7_1).f0), .slice A101_1 ((rd_T48 l0 x7_1).f1).length c101_1, .slice A101_2 ((rd_T48 l0 x7_1).f2).length c101_2] 48 (0, 0))) := ⟨by (with_reducible repeat (first | refine bN ?_ _ | refine bW ?_ | refine bA ?_ _)); refine blk_put (cs := #[.string ((rd_T48 l0 x7_1).f0), .slice A101_1 ((rd_T48 l0 x7_1).f1).length c101_1, .slice none 0 0]) ?_ 2 _ rfl; (with_reducible repeat (first | refine bN ?_ _ | refine bW ?_ | refine bA ?_ _)); refine blk_put (cs := #[.string ((rd_T48 l0 x7_1).f0), .slice none 0 0, .slice none 0 0]) ?_ 1 _ rfl; (with_reducible repeat (first | refine bN ?_ _ | refine bW ?_ | refine bA ?_ _)); refine blk_put (cs := #[.string (⟨#[]⟩ : ByteArray), .slice none 0 0, .slice none 0 0]) ?_ 0 _ rfl; (with_reducible repeat (first | refine bN ?_ _ | refine bW ?_ | refine bA ?_ _)); exact BK102.out⟩
         have n1_ : Aside0 (Below w.heap.size w (((w34.setCell ⟨gb102, 0, none⟩ (.string ((rd_T48 l0 x7_1).f0))).setCell ⟨gb102, 1, none⟩ (.slice A101_1 ((rd_T48 l0 x7_1).f1).length c101_1)).setCell ⟨gb102, 2, none⟩ (.slice A101_2 ((rd_T48 l0 x7_1).f2).length c101_2))) := ⟨by repeat (first | (with_reducible first | exact HB.out | apply below_alloc | apply pw_below_drewN | apply below_drew1 | refine below_set ?_ GE102.out) | exact HB.out)⟩
         (try clear BK102)
         (try clear HB)
         generalize (((w34.setCell ⟨gb102, 0, none⟩ (.string ((rd_T48 l0 x7_1).f0))).setCell ⟨gb102, 1, none⟩ (.slice A101_1 ((rd_T48 l0 x7_1).f1).length c101_1)).setCell ⟨gb102, 2, none⟩ (.slice A101_2 ((rd_T48 l0 x7_1).f2).length c101_2)) = w36 at n0_ n1_ ⊢
         have BK102 := n0_
         have HB := n1_
         clear n0_ n1_
         have n0_ := Aside0.mk (blk_drew BK102.out)
         have n1_ := Aside0.mk (below_drew1 HB.out)
         clear BK102
         clear HB
         have BK102 := n0_
         have HB := n1_
         clear n0_ n1_
         refine start_ (n := 34) (S := fun w' => w'.cell? ⟨gb102, 0, none⟩ = some (.string ((rd_T48 l0 x7_1).f0)) ∧ w'.cell? ⟨gb102, 1, none⟩ = some (.slice A101_1 ((rd_T48 l0 x7_1).f1).length c101_1) ∧ w'.cell? ⟨gb102, 2, none⟩ = some (.slice A101_2 ((rd_T48 l0 x7_1).f2).length c101_2)) (ds := []) (tfA 0 34) (by kernel_rfl) rfl rfl ⟨(blk_cell BK102.out 0).trans rfl, (blk_cell BK102.out 1).trans rfl, (blk_cell BK102.out 2).trans rfl⟩ (fun hHeld => ?_); refine with_tabW spec_softnetFine.tab4 spec_softnetFine.bits4 (fun HT_ HW_ => ?_)
         generalize w36.drew = w37 at BK102 HB hHeld ⊢
         refine pure_ (i := 0) (N := some 11) (v := ?_) (a' := ?_) (tfA 1 33) rfl rfl (any_of HT_.out (by kernel_rfl)) (fun _ _ _ h => h) (Or.inl ⟨by rfl, ?_⟩) ?_ ?_
         rotate_left
         ·intro w'
          go_simp
          with_reducible rfl
         rotate_left
         ·simp only [Act.put, sA, s0, s1, i64_w, i32_w]
          rfl
         refine take_ (i := 1) (N := some 12) (v := ?_) (a' := ?_) (tfA 2 32) rfl rfl (take_ofW HT_.out HW_.out (by kernel_rfl)) (fun _ _ _ h => h) (Or.inl ⟨by rfl, ?_⟩) hHeld ?_ ?_
         rotate_left
         ·rintro w' ⟨s0, s1, s2⟩
          go_simp
          with_reducible rfl
         rotate_left
         ·simp only [Act.put, sA, s0, s1, i64_w, i32_w]
          rfl
         refine pure_ (i := 2) (N := some 13) (v := ?_) (a' := ?_) (tfA 3 31) rfl rfl (any_of HT_.out (by kernel_rfl)) (fun _ _ _ h => h) (Or.inl ⟨by rfl, ?_⟩) ?_ ?_
         rotate_left
         ·intro w'
          go_simp
          with_reducible rfl
         rotate_left
         ·simp only [Act.put, sA, s0, s1, i64_w, i32_w]
          rfl
         refine pure_ (i := 3) (N := some 14) (v := ?_) (a' := ?_) (tfA 4 30) rfl rfl (any_of HT_.out (by kernel_rfl)) (fun _ _ _ h => h) (Or.inl ⟨by rfl, ?_⟩) ?_ ?_
         rotate_left
         ·intro w'
          go_simp
          with_reducible rfl
         rotate_left
         ·simp only [Act.put, sA, s0, s1, i64_w, i32_w]
          rfl
         refine pure_ (i := 4) (N := some 15) (v := ?_) (a' := ?_) (tfA 5 29) rfl rfl (any_of HT_.out (by kernel_rfl)) (fun _ _ _ h => h) (Or.inl ⟨by rfl, ?_⟩) ?_ ?_
         rotate_left
         ·intro w'
          go_simp
          with_reducible rfl
         rotate_left
         ·simp only [Act.put, sA, s0, s1, i64_w, i32_w]
          rfl
         refine take_ (i := 5) (N := some 16) (v := ?_) (a' := ?_) (tfA 6 28) rfl rfl (take_ofW HT_.out HW_.out (by kernel_rfl)) (fun _ _ _ h => h) (Or.inl ⟨by rfl, ?_⟩) hHeld ?_ ?_
         rotate_left
         ·rintro w' ⟨s0, s1, s2⟩
          go_simp
          with_reducible rfl
         rotate_left
         ·simp only [Act.put, sA, s0, s1, i64_w, i32_w]
          rfl
         refine pure_ (i := 6) (N := some 17) (v := ?_) (a' := ?_) (tfA 7 27) rfl rfl (any_of HT_.out (by kernel_rfl)) (fun _ _ _ h => h) (Or.inl ⟨by rfl, ?_⟩) ?_ ?_
         rotate_left
         ·intro w'
          go_simp
          with_reducible rfl
         rotate_left
         ·simp only [Act.put, sA, s0, s1, i64_w, i32_w]
          rfl
         refine pure_ (i := 7) (N := some 18) (v := ?_) (a' := ?_) (tfA 8 26) rfl rfl (any_of HT_.out (by kernel_rfl)) (fun _ _ _ h => h) (Or.inl ⟨by rfl, ?_⟩) ?_ ?_
         rotate_left
         ·intro w'
          go_simp
          with_reducible rfl
         rotate_left
         ·simp only [Act.put, sA, s0, s1, i64_w, i32_w]
          rfl
         refine pure_ (i := 8) (N := some 19) (v := ?_) (a' := ?_) (tfA 9 25) rfl rfl (any_of HT_.out (by kernel_rfl)) (fun _ _ _ h => h) (Or.inl ⟨by rfl, ?_⟩) ?_ ?_
         rotate_left
         ·intro w'
          go_simp
          with_reducible rfl
         rotate_left
         ·simp only [Act.put, sA, s0, s1, i64_w, i32_w]
          rfl
         refine pure_ (i := 9) (N := some 20) (v := ?_) (a' := ?_) (tfA 10 24) rfl rfl (any_of HT_.out (by kernel_rfl)) (fun _ _ _ h => h) (Or.inl ⟨by rfl, ?_⟩) ?_ ?_
         rotate_left
         ·intro w'
          go_simp
          with_reducible rfl
         rotate_left
         ·simp only [Act.put, sA, s0, s1, i64_w, i32_w]
          rfl
         refine take_ (i := 10) (N := some 21) (v := ?_) (a' := ?_) (tfA 11 23) rfl rfl (take_ofW HT_.out HW_.out (by kernel_rfl)) (fun _ _ _ h => h) (Or.inl ⟨by rfl, ?_⟩) hHeld ?_ ?_
         rotate_left
         ·rintro w' ⟨s0, s1, s2⟩
          go_simp
          with_reducible rfl
         rotate_left
         ·simp only [Act.put, sA, s0, s1, i64_w, i32_w]
          rfl
         refine pure_ (i := 11) (N := some 22) (v := ?_) (a' := ?_) (tfA 12 22) rfl rfl (any_of HT_.out (by kernel_rfl)) (fun _ _ _ h => h) (Or.inl ⟨by rfl, ?_⟩) ?_ ?_
         rotate_left
         ·intro w'
          go_simp
          with_reducible rfl
         rotate_left
         ·simp only [Act.put, sA, s0, s1, i64_w, i32_w]
          rfl
         refine pure_ (i := 12) (N := some 23) (v := ?_) (a' := ?_) (tfA 13 21) rfl rfl (any_of HT_.out (by kernel_rfl)) (fun _ _ _ h => h) (Or.inl ⟨by rfl, ?_⟩) ?_ ?_
         rotate_left
         ·intro w'
          go_simp
          with_reducible rfl
         rotate_left
         ·simp only [Act.put, sA, s0, s1, i64_w, i32_w]
          rfl
         refine pure_ (i := 13) (N := some 24) (v := ?_) (a' := ?_) (tfA 14 20) rfl rfl (any_of HT_.out (by kernel_rfl)) (fun _ _ _ h => h) (Or.inl ⟨by rfl, ?_⟩) ?_ ?_
         rotate_left
         ·intro w'
          go_simp
          with_reducible rfl
         rotate_left
         ·simp only [Act.put, sA, s0, s1, i64_w, i32_w]
          rfl
         refine pure_ (i := 14) (N := some 25) (v := ?_) (a' := ?_) (tfA 15 19) rfl rfl (any_of HT_.out (by kernel_rfl)) (fun _ _ _ h => h) (Or.inl ⟨by rfl, ?_⟩) ?_ ?_
         rotate_left
         ·intro w'
          go_simp
          with_reducible rfl
         rotate_left
         ·simp only [Act.put, sA, s0, s1, i64_w, i32_w]
          rfl
         refine pure_ (i := 15) (N := some 26) (v := ?_) (a' := ?_) (tfA 16 18) rfl rfl (any_of HT_.out (by kernel_rfl)) (fun _ _ _ h => h) (Or.inl ⟨by rfl, ?_⟩) ?_ ?_
         rotate_left
         ·intro w'
          go_simp
          with_reducible rfl
         rotate_left
         ·simp only [Act.put, sA, s0, s1, i64_w, i32_w]
          rfl
         refine pure_ (i := 16) (N := some 27) (v := undef) (a' := ?_) (tfA 17 17) rfl rfl (any_of HT_.out (by kernel_rfl)) (fun _ _ _ h => h) (Or.inr ⟨by rfl, rfl⟩) ?_ ?_
         rotate_left
         ·simp only [Act.put, sA, s0, s1, i64_w, i32_w]
          rfl
         refine pure_ (i := 17) (N := some 28) (v := undef) (a' := ?_) (tfA 18 16) rfl rfl (any_of HT_.out (by kernel_rfl)) (fun _ _ _ h => h) (Or.inr ⟨by rfl, rfl⟩) ?_ ?_
         rotate_left
         ·simp only [Act.put, sA, s0, s1, i64_w, i32_w]
          rfl
         refine pure_ (i := 18) (N := some 29) (v := undef) (a' := ?_) (tfA 19 15) rfl rfl (any_of HT_.out (by kernel_rfl)) (fun _ _ _ h => h) (Or.inr ⟨by rfl, rfl⟩) ?_ ?_
         rotate_left
         ·simp only [Act.put, sA, s0, s1, i64_w, i32_w]
          rfl
         refine pure_ (i := 19) (N := some 30) (v := undef) (a' := ?_) (tfA 20 14) rfl rfl (any_of HT_.out (by kernel_rfl)) (fun _ _ _ h => h) (Or.inr ⟨by rfl, rfl⟩) ?_ ?_
         rotate_left
         ·simp only [Act.put, sA, s0, s1, i64_w, i32_w]
          rfl
         refine pure_ (i := 20) (N := some 31) (v := undef) (a' := ?_) (tfA 21 13) rfl rfl (any_of HT_.out (by kernel_rfl)) (fun _ _ _ h => h) (Or.inr ⟨by rfl, rfl⟩) ?_ ?_
         rotate_left
         ·simp only [Act.put, sA, s0, s1, i64_w, i32_w]
          rfl
         refine pure_ (i := 21) (N := some 32) (v := undef) (a' := ?_) (tfA 22 12) rfl rfl (any_of HT_.out (by kernel_rfl)) (fun _ _ _ h => h) (Or.inr ⟨by rfl, rfl⟩) ?_ ?_
         rotate_left
         ·simp only [Act.put, sA, s0, s1, i64_w, i32_w]
          rfl
         refine pure_ (i := 22) (N := some 33) (v := undef) (a' := ?_) (tfA 23 11) rfl rfl (any_of HT_.out (by kernel_rfl)) (fun _ _ _ h => h) (Or.inr ⟨by rfl, rfl⟩) ?_ ?_
         rotate_left
         ·simp only [Act.put, sA, s0, s1, i64_w, i32_w]
          rfl
         refine pure_ (i := 23) (N := some 34) (v := undef) (a' := ?_) (tfA 24 10) rfl rfl (any_of HT_.out (by kernel_rfl)) (fun _ _ _ h => h) (Or.inr ⟨by rfl, rfl⟩) ?_ ?_
         rotate_left
         ·simp only [Act.put, sA, s0, s1, i64_w, i32_w]
          rfl
         refine pure_ (i := 24) (N := some 35) (v := undef) (a' := ?_) (tfA 25 9) rfl rfl (any_of HT_.out (by kernel_rfl)) (fun _ _ _ h => h) (Or.inr ⟨by rfl, rfl⟩) ?_ ?_
         rotate_left
         ·simp only [Act.put, sA, s0, s1, i64_w, i32_w]
          rfl
         refine pure_ (i := 25) (N := some 36) (v := ?_) (a' := ?_) (tfA 26 8) rfl rfl (any_of HT_.out (by kernel_rfl)) (fun _ _ _ h => h) (Or.inl ⟨by rfl, ?_⟩) ?_ ?_
         rotate_left
         ·intro w'
          go_simp
          with_reducible rfl
         rotate_left
         ·simp only [Act.put, sA, s0, s1, i64_w, i32_w]
          rfl
         refine pure_ (i := 26) (N := some 37) (v := ?_) (a' := ?_) (tfA 27 7) rfl rfl (any_of HT_.out (by kernel_rfl)) (fun _ _ _ h => h) (Or.inl ⟨by rfl, ?_⟩) ?_ ?_
         rotate_left
         ·intro w'
          go_simp
          with_reducible rfl
         rotate_left
         ·simp only [Act.put, sA, s0, s1, i64_w, i32_w]
          rfl
         refine pure_ (i := 27) (N := some 38) (v := undef) (a' := ?_) (tfA 28 6) rfl rfl (any_of HT_.out (by kernel_rfl)) (fun _ _ _ h => h) (Or.inr ⟨by rfl, rfl⟩) ?_ ?_
         rotate_left
         ·simp only [Act.put, sA, s0, s1, i64_w, i32_w]
          rfl
         refine pure_ (i := 28) (N := some 39) (v := undef) (a' := ?_) (tfA 29 5) rfl rfl (any_of HT_.out (by kernel_rfl)) (fun _ _ _ h => h) (Or.inr ⟨by rfl, rfl⟩) ?_ ?_
         rotate_left
         ·simp only [Act.put, sA, s0, s1, i64_w, i32_w]
          rfl
         refine pure_ (i := 29) (N := some 40) (v := undef) (a' := ?_) (tfA 30 4) rfl rfl (any_of HT_.out (by kernel_rfl)) (fun _ _ _ h => h) (Or.inr ⟨by rfl, rfl⟩) ?_ ?_
         rotate_left
         ·simp only [Act.put, sA, s0, s1, i64_w, i32_w]
          rfl
         refine pure_ (i := 30) (N := some 41) (v := undef) (a' := ?_) (tfA 31 3) rfl rfl (any_of HT_.out (by kernel_rfl)) (fun _ _ _ h => h) (Or.inr ⟨by rfl, rfl⟩) ?_ ?_
         rotate_left
         ·simp only [Act.put, sA, s0, s1, i64_w, i32_w]
          rfl
         refine pure_ (i := 31) (N := some 42) (v := undef) (a' := ?_) (tfA 32 2) rfl rfl (any_of HT_.out (by kernel_rfl)) (fun _ _ _ h => h) (Or.inr ⟨by rfl, rfl⟩) ?_ ?_
         rotate_left
         ·simp only [Act.put, sA, s0, s1, i64_w, i32_w]
          rfl
         refine pure_ (i := 32) (N := some 43) (v := undef) (a' := ?_) (tfA 33 1) rfl rfl (any_of HT_.out (by kernel_rfl)) (fun _ _ _ h => h) (Or.inr ⟨by rfl, rfl⟩) ?_ ?_
         rotate_left
         ·simp only [Act.put, sA, s0, s1, i64_w, i32_w]
          rfl
         refine pure_ (i := 33) (N := some 44) (v := ?_) (a' := ?_) (tfA 34 0) rfl rfl (any_of HT_.out (by kernel_rfl)) (fun _ _ _ h => h) (Or.inl ⟨by rfl, ?_⟩) ?_ ?_
         rotate_left
         ·intro w'
          go_simp
          with_reducible rfl
         rotate_left
         ·simp only [Act.put, sA, s0, s1, i64_w, i32_w]
          rfl
         refine done_ (done_of HT_.out (by kernel_rfl)) ?_
         try go_wp2
         go_ret
         exact ⟨by first | rfl | (simp [errW_none, errW_some] <;> rfl) | (simp [*, errW_none, errW_some] <;> rfl), by repeat (first | (with_reducible first | exact HB.out | apply below_alloc | apply pw_below_drewN | apply below_drew1 | refine below_set ?_ GE102.out) | exact HB.out)⟩
      ·rw [if_neg c5] at H
       exact absurd H (by simp)
     ·rw [if_neg c4] at H
      exact absurd H (by simp)
    ·rw [if_neg c3] at H
     exact absurd H (by simp)
   ·rw [if_neg c2] at H
    have c2b0 : decide (x7_1 < (l0.length : Int)) = false := decide_eq_false c2
    clear c2
    obtain rfl := Option.some.inj H
    go_wp2
    go_ret
    exact ⟨by first | rfl | (simp [errW_none, errW_some] <;> rfl) | (simp [*, errW_none, errW_some] <;> rfl), by repeat (first | (with_reducible first | exact HB.out | apply below_alloc | apply pw_below_drewN | apply below_drew1) | exact HB.out)⟩

end Go.Proofs.YtdmpbaanonafbaaGreatDoor.N
