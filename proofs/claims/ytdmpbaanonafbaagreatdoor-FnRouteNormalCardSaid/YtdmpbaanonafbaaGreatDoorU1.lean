-- written by a program of this session (wip/tools/pp.py)
import Derived.Test.YtdmpbaanonafbaaGreatDoorU0
namespace Go.Proofs.YtdmpbaanonafbaaGreatDoor.U
open Go.RowKit Go.Proofs.YtdmpbaanonafbaaGreatDoorW.PrintWords Go.Proofs.YtdmpbaanonafbaaGreatDoorW.PrintLast Go.Proofs.YtdmpbaanonafbaaGreatDoor.Flt Go.Proofs.YtdmpbaanonafbaaGreatDoor.GivZ Go.Proofs.YtdmpbaanonafbaaGreatDoor.E Go.Proofs.YtdmpbaanonafbaaGreatDoor.L Go.Proofs.YtdmpbaanonafbaaGreatDoor.V Go.Proofs.YtdmpbaanonafbaaGreatDoor.DoorRt Go.Proofs.YtdmpbaanonafbaaGreatDoor.Lives Go.Proofs.YtdmpbaanonafbaaGreatDoor.R Go.Proofs.YtdmpbaanonafbaaGreatDoor.Upper Go.Proofs.YtdmpbaanonafbaaGreatDoorW.PrintMore
attribute [local go_sem] max2_int min2_int max_two min_two max_three min_three max_four min_four   -- for this text's walks alone
set_option linter.unusedVariables false
set_option linter.unusedSimpArgs false

/-! ### spec_routeFine: function 98 -/
def spec_routeFine.l0 : Nat → List (S48) → Int → Int → Option (Bool)
 | 0, _, _, _ => none
 | k + 1, x5, x6, x7 => if x7 < x6 then (if 0 ≤ x7 then (if x7 < (x5.length : Int) then ((spec_ifName.f k ((rd_T48 x5 x7).f0)).bind fun t103 => (if t103 = true then ((spec_counted.f k ((rd_T48 x5 x7).f0) ((rd_T48 x5 x7).f1) ((rd_T48 x5 x7).f2) 10 32 0).bind fun t104 => (if t104 = true then (if 2 < (((rd_T48 x5 x7).f1).length : Int) then (if (rd ((rd_T48 x5 x7).f1) 2) > 9 then (some false) else (spec_routeFine.l0 k x5 x6 (wrap64 (x7 + 1)))) else (none)) else (some false))) else (some false))) else (none)) else (none)) else (some true)
def spec_routeFine.f (k : Nat) (l0 : List (S48)) : Option (Bool) := spec_routeFine.l0 k l0 (l0.length : Int) 0
theorem spec_routeFine.mono_l : ∀ k, (∀ y0 y1 y2, LeO (spec_routeFine.l0 k y0 y1 y2) (spec_routeFine.l0 (k + 1) y0 y1 y2))
 | 0 => fun _ _ _ r h => by simp [spec_routeFine.l0] at h
 | k + 1 => by
  have ih0 := spec_routeFine.mono_l k
  ·intro y0 y1 y2
   unfold spec_routeFine.l0
   repeat' first
   | (with_reducible exact ih0 _ _ _)
   | (with_reducible exact spec_counted.mono _ _ _ _ _ _ _)
   | (with_reducible exact spec_ifName.mono _ _)
   | (with_reducible exact LeO.refl _)
   | (with_reducible exact LeO.none _)
   | (with_reducible refine LeO.ite ?_ ?_)
   | (with_reducible refine LeO.bind ?_ (fun _ => ?_))
   | exact ih0 _ _ _
   | exact spec_counted.mono _ _ _ _ _ _ _
   | exact spec_ifName.mono _ _
   | exact LeO.none _
   | refine LeO.ite ?_ ?_
   | refine LeO.bind ?_ (fun _ => ?_)
theorem spec_routeFine.mono : ∀ a0 k, LeO (spec_routeFine.f k a0) (spec_routeFine.f (k + 1) a0) := by
 intro a0 k
 have ih0 := spec_routeFine.mono_l k
 unfold spec_routeFine.f
 repeat' first
   | (with_reducible exact ih0 _ _ _)
   | (with_reducible exact spec_counted.mono _ _ _ _ _ _ _)
   | (with_reducible exact spec_ifName.mono _ _)
   | (with_reducible exact LeO.refl _)
   | (with_reducible exact LeO.none _)
   | (with_reducible refine LeO.ite ?_ ?_)
   | (with_reducible refine LeO.bind ?_ (fun _ => ?_))
   | exact ih0 _ _ _
   | exact spec_counted.mono _ _ _ _ _ _ _
   | exact spec_ifName.mono _ _
   | exact LeO.none _
   | refine LeO.ite ?_ ?_
   | refine LeO.bind ?_ (fun _ => ?_)
set_option maxHeartbeats 8000000 in
set_option maxRecDepth 100000 in
theorem spec_routeFine.calls (k : Nat) (A0 : Option Addr) (c0 : Nat) (l0 : List (S48)) (r : Bool) (w : World) (hr0 : Kd.C k48 w A0 l0.length l0) (hc0 : l0.length ≤ c0) (h : spec_routeFine.f k l0 = some r) :
  Calls Tryz.prog 98 #[.slice A0 l0.length c0] w fun e w' => e = .returned (.bool r) ∧ Below w.heap.size w w' := by
 have hu48 := Tryz.underlying48
 have HR0 := Aside0.mk hr0
 have HC0 := Aside0.mk hc0
 clear hr0 hc0
 have HB := Aside0.mk (Below.refl w.heap.size w)
 have H : (spec_routeFine.l0 k l0 (l0.length : Int) 0) = some r := h
 clear h
 have H' := Aside0.mk H
 clear H
 go_enter Tryz.func98, Tryz.ntmps98
 go_wp2
 go_loopg [7] k (fun kq v7 w' => ∃ (x7_1 : Int), v7 = .int .i64 x7_1 ∧ Aside0 (spec_routeFine.l0 kq l0 (l0.length : Int) x7_1 = some r) ∧ Aside0 (kq ≤ k) ∧ Aside0 (Below w.heap.size w w'))
 case atStart => exact ⟨(0), (by first | rfl | (simp; done) | (simp [*]; done) | (simp [bne_nil]; done) | (simp [bne_nil, *]; done)), H', ⟨Nat.le_refl _⟩, ⟨by repeat (first | (with_reducible first | exact HB.out | apply below_alloc | apply pw_below_drewN | apply below_drew1) | exact HB.out)⟩⟩
 case round =>
  clear H'
  obtain ⟨x7_1, rfl, HA, HK1, HB⟩ := hrel
  cases gk with
  | zero => exact absurd HA.out (by simp [spec_routeFine.l0])
  | succ k1 =>
   have H := HA.out
   clear HA
   simp only [spec_routeFine.l0] at H
   by_cases c2 : x7_1 < (l0.length : Int)
   ·rw [if_pos c2] at H
    have c2b0 : decide (x7_1 < (l0.length : Int)) = true := decide_eq_true c2
    clear c2
    by_cases c3 : 0 ≤ x7_1
    ·rw [if_pos c3] at H
     have c3b0 : decide (0 ≤ x7_1) = true := decide_eq_true c3
     clear c3
     by_cases c4 : x7_1 < (l0.length : Int)
     ·rw [if_pos c4] at H
      have c4b0 : decide (x7_1 < (l0.length : Int)) = true := decide_eq_true c4
      clear c4
      replace H := Option.bind_eq_some_iff.mp H
      obtain ⟨t103, A50, H⟩ := H
      have A5 := Aside0.mk A50
      clear A50
      by_cases c6 : t103 = true
      ·subst c6
       have H1 : ((spec_counted.f k1 ((rd_T48 l0 x7_1).f0) ((rd_T48 l0 x7_1).f1) ((rd_T48 l0 x7_1).f2) 10 32 0).bind fun t104 => (if t104 = true then (if 2 < (((rd_T48 l0 x7_1).f1).length : Int) then (if (rd ((rd_T48 l0 x7_1).f1) 2) > 9 then (some false) else (spec_routeFine.l0 k1 l0 (l0.length : Int) (wrap64 (x7_1 + 1)))) else (none)) else (some false))) = some r := by rw [if_pos rfl] at H; exact H
       clear H
       have H := H1
       clear H1
       replace H := Option.bind_eq_some_iff.mp H
       obtain ⟨t104, A70, H⟩ := H
       have A7 := Aside0.mk A70
       clear A70
       by_cases c8 : t104 = true
       ·subst c8
        have H1 : (if 2 < (((rd_T48 l0 x7_1).f1).length : Int) then (if (rd ((rd_T48 l0 x7_1).f1) 2) > 9 then (some false) else (spec_routeFine.l0 k1 l0 (l0.length : Int) (wrap64 (x7_1 + 1)))) else (none)) = some r := by rw [if_pos rfl] at H; exact H
        clear H
        have H := H1
        clear H1
        by_cases c9 : 2 < (((rd_T48 l0 x7_1).f1).length : Int)
        ·rw [if_pos c9] at H
         have c9b0 : decide (2 < (((rd_T48 l0 x7_1).f1).length : Int)) = true := decide_eq_true c9
         have c9b1 : decide (2 < ((rd_T48 l0 x7_1).f1).length) = true := decide_eq_true (by omega)
         clear c9
         by_cases c10 : (rd ((rd_T48 l0 x7_1).f1) 2) > 9
         ·rw [if_pos c10] at H
          have c10b0 : decide (9 < (rd ((rd_T48 l0 x7_1).f1) 2)) = true := decide_eq_true c10
          clear c10
          obtain rfl := Option.some.inj H
          have p101 : 0 ≤ (x7_1 : Int) := of_decide_eq_true (by first | (with_reducible assumption) | assumption)
          have q101 : x7_1 < (l0.length : Int) := of_decide_eq_true (by first | (with_reducible assumption) | assumption)
          obtain ⟨ad101, A101_1, c101_1, A101_2, c101_2, e101, hx101_0, hx101_1, hx101_2, hl101_1, hi101_1, hl101_2, hi101_2⟩ := at_T48 HR0.out x7_1 p101 q101
          cases e101
          replace hx101_0 := (HB.out.cell (World.block_lt_of_cell? w _ hx101_0)).trans hx101_0
          replace hx101_1 := (HB.out.cell (World.block_lt_of_cell? w _ hx101_1)).trans hx101_1
          replace hx101_2 := (HB.out.cell (World.block_lt_of_cell? w _ hx101_2)).trans hx101_2
          have HR101_1 := Aside0.mk hi101_1
          have HC101_1 := Aside0.mk hl101_1
          clear hi101_1 hl101_1
          have HR101_2 := Aside0.mk hi101_2
          have HC101_2 := Aside0.mk hl101_2
          clear hi101_2 hl101_2
          replace p101 := eq_true p101
          replace q101 := eq_true q101
          go_wp2_with (first | ((with_reducible refine gate_dst (N := 4) rfl ?_); refine box_event ?hg (N := 4) ?hd (cs := #[.string (⟨#[]⟩ : ByteArray), .slice none 0 0, .slice none 0 0]) (t := 48) ?hr ?_; (case hd => rfl); (case hg => rfl); (case hr => first | (go_simp; done) | (go_simp; rfl)); intro gb102 hg w11 hbox hb; have n0_ := Aside0.mk (below_step belH hb); have n1_ := Aside0.mk (hbox); have n2_ := Aside0.mk ((by rw [hg]; exact (below_size belH) : w.heap.size ≤ gb102)); have n3_ := Aside0.mk ((by rw [hg]; exact (below_size belH) : w.heap.size ≤ gb102)); clear HB; have HB := n0_; have BK102 := n1_; have GW102 := n2_; have GE102 := n3_; clear n0_ n1_ n2_ n3_; clear hb hbox hg; obtain ⟨hcz12_0, hcz12_1, hcz12_2, hfz12_0, hfz12_1, hfz12_2⟩ := rows3 (w := w11) BK102) | ((with_reducible refine gate_callee (f := 150) rfl ?_); refine goesL_ (some 13) rfl rfl Tryz.func150 (by kernel_rfl) rfl #[.string ((rd_T48 l0 x7_1).f0)] rfl (by (try simp only [List.map_toArray, List.map_cons, List.map_nil]); first | done | rfl | (simp only [List.length_drop, List.length_take]; rfl)) ?_; (with_reducible refine (spec_ifName.calls k1 ((rd_T48 l0 x7_1).f0) true _ A5.out).mono ?_); rintro e w' ⟨rfl, ⟨nd, rfl⟩⟩; refine ⟨_, rfl, ?_⟩) | (go_at_call 144; (with_reducible refine (spec_counted.calls k1 ((rd_T48 l0 x7_1).f0) _ _ ((rd_T48 l0 x7_1).f1) _ _ ((rd_T48 l0 x7_1).f2) 10 32 0 true _ ?side1 ?side2 ?side3 ?side4 A7.out).mono ?_); (case side1 => exact Kd.C_below HR101_1.out belS); (case side2 => exact HC101_1.out); (case side3 => exact Kd.C_below HR101_2.out belS); (case side4 => exact HC101_2.out); rintro e w13 ⟨rfl, hb⟩; have n0_ := Aside0.mk (blk_below (g := gb102) (o := .cells #[.string ((rd_T48 l0 x7_1).f0), .slice A101_1 ((rd_T48 l0 x7_1).f1).length c101_1, .slice A101_2 ((rd_T48 l0 x7_1).f2).length c101_2] 48 (0, 0)) (by refine bY ?_; refine blk_put (cs := #[.string ((rd_T48 l0 x7_1).f0), .slice A101_1 ((rd_T48 l0 x7_1).f1).length c101_1, .slice none 0 0]) ?_ 2 _ rfl; refine bY ?_; refine blk_put (cs := #[.string ((rd_T48 l0 x7_1).f0), .slice none 0 0, .slice none 0 0]) ?_ 1 _ rfl; refine bY ?_; refine blk_put (cs := #[.string (⟨#[]⟩ : ByteArray), .slice none 0 0, .slice none 0 0]) ?_ 0 _ rfl; refine bY ?_; exact BK102.out) hb); have n1_ := Aside0.mk (below_step belS hb); clear BK102; clear HB; have BK102 := n0_; have HB := n1_; clear n0_ n1_; (try clear hb); (try clear hb2); (try clear hk); (try clear hi); obtain ⟨hcz14_0, hcz14_1, hcz14_2, hfz14_0, hfz14_1, hfz14_2⟩ := rows3 (w := w13) BK102; have p105 : 0 ≤ (2 : Int) := (by omega); have q105 : 2 < (((rd_T48 l0 x7_1).f1).length : Int) := of_decide_eq_true (by first | (with_reducible assumption) | assumption); obtain ⟨ad105, e105, hx105_0⟩ := Kd.at_int HR101_1.out 2 p105 q105; cases e105; (try simp only [show (2 : Int).toNat = 2 from rfl, Nat.reduceMul, Nat.reduceEqDiff, Go.Addr.add, ↓reduceIte] at hx105_0); have qi105 : (2 < ((rd_T48 l0 x7_1).f1).length) = True := eq_true (by omega); (try rw [show ((2 : Int)).toNat = 2 from rfl] at hx105_0); replace hx105_0 := (HB.out.cell (World.block_lt_of_cell? w _ hx105_0)).trans hx105_0; replace p105 := eq_true p105; replace q105 := eq_true q105))
          go_ret
          exact ⟨by first | rfl | (simp [errW_none, errW_some] <;> rfl) | (simp [*, errW_none, errW_some] <;> rfl), by repeat (first | (with_reducible first | exact HB.out | apply below_alloc | apply pw_below_drewN | apply below_drew1 | refine below_set ?_ GE102.out) | exact HB.out)⟩
         ·rw [if_neg c10] at H
          have c10b0 : decide (9 < (rd ((rd_T48 l0 x7_1).f1) 2)) = false := decide_eq_false c10
          clear c10
          have H' := Aside0.mk H
          clear H
          have p101 : 0 ≤ (x7_1 : Int) := of_decide_eq_true (by first | (with_reducible assumption) | assumption)
          have q101 : x7_1 < (l0.length : Int) := of_decide_eq_true (by first | (with_reducible assumption) | assumption)
          obtain ⟨ad101, A101_1, c101_1, A101_2, c101_2, e101, hx101_0, hx101_1, hx101_2, hl101_1, hi101_1, hl101_2, hi101_2⟩ := at_T48 HR0.out x7_1 p101 q101
          cases e101
          replace hx101_0 := (HB.out.cell (World.block_lt_of_cell? w _ hx101_0)).trans hx101_0
          replace hx101_1 := (HB.out.cell (World.block_lt_of_cell? w _ hx101_1)).trans hx101_1
          replace hx101_2 := (HB.out.cell (World.block_lt_of_cell? w _ hx101_2)).trans hx101_2
          have HR101_1 := Aside0.mk hi101_1
          have HC101_1 := Aside0.mk hl101_1
          clear hi101_1 hl101_1
          have HR101_2 := Aside0.mk hi101_2
          have HC101_2 := Aside0.mk hl101_2
          clear hi101_2 hl101_2
          replace p101 := eq_true p101
          replace q101 := eq_true q101
          go_wp2_with (first | ((with_reducible refine gate_dst (N := 4) rfl ?_); refine box_event ?hg (N := 4) ?hd (cs := #[.string (⟨#[]⟩ : ByteArray), .slice none 0 0, .slice none 0 0]) (t := 48) ?hr ?_; (case hd => rfl); (case hg => rfl); (case hr => first | (go_simp; done) | (go_simp; rfl)); intro gb102 hg w15 hbox hb; have n0_ := Aside0.mk (below_step belH hb); have n1_ := Aside0.mk (hbox); have n2_ := Aside0.mk ((by rw [hg]; exact (below_size belH) : w.heap.size ≤ gb102)); have n3_ := Aside0.mk ((by rw [hg]; exact (below_size belH) : w.heap.size ≤ gb102)); clear HB; have HB := n0_; have BK102 := n1_; have GW102 := n2_; have GE102 := n3_; clear n0_ n1_ n2_ n3_; clear hb hbox hg; obtain ⟨hcz16_0, hcz16_1, hcz16_2, hfz16_0, hfz16_1, hfz16_2⟩ := rows3 (w := w15) BK102) | ((with_reducible refine gate_callee (f := 150) rfl ?_); refine goesL_ (some 13) rfl rfl Tryz.func150 (by kernel_rfl) rfl #[.string ((rd_T48 l0 x7_1).f0)] rfl (by (try simp only [List.map_toArray, List.map_cons, List.map_nil]); first | done | rfl | (simp only [List.length_drop, List.length_take]; rfl)) ?_; (with_reducible refine (spec_ifName.calls k1 ((rd_T48 l0 x7_1).f0) true _ A5.out).mono ?_); rintro e w' ⟨rfl, ⟨nd, rfl⟩⟩; refine ⟨_, rfl, ?_⟩) | (go_at_call 144; (with_reducible refine (spec_counted.calls k1 ((rd_T48 l0 x7_1).f0) _ _ ((rd_T48 l0 x7_1).f1) _ _ ((rd_T48 l0 x7_1).f2) 10 32 0 true _ ?side1 ?side2 ?side3 ?side4 A7.out).mono ?_); (case side1 => exact Kd.C_below HR101_1.out belS); (case side2 => exact HC101_1.out); (case side3 => exact Kd.C_below HR101_2.out belS); (case side4 => exact HC101_2.out); rintro e w17 ⟨rfl, hb⟩; have n0_ := Aside0.mk (blk_below (g := gb102) (o := .cells #[.string ((rd_T48 l0 x7_1).f0), .slice A101_1 ((rd_T48 l0 x7_1).f1).length c101_1, .slice A101_2 ((rd_T48 l0 x7_1).f2).length c101_2] 48 (0, 0)) (by refine bY ?_; refine blk_put (cs := #[.string ((rd_T48 l0 x7_1).f0), .slice A101_1 ((rd_T48 l0 x7_1).f1).length c101_1, .slice none 0 0]) ?_ 2 _ rfl; refine bY ?_; refine blk_put (cs := #[.string ((rd_T48 l0 x7_1).f0), .slice none 0 0, .slice none 0 0]) ?_ 1 _ rfl; refine bY ?_; refine blk_put (cs := #[.string (⟨#[]⟩ : ByteArray), .slice none 0 0, .slice none 0 0]) ?_ 0 _ rfl; refine bY ?_; exact BK102.out) hb); have n1_ := Aside0.mk (below_step belS hb); clear BK102; clear HB; have BK102 := n0_; have HB := n1_; clear n0_ n1_; (try clear hb); (try clear hb2); (try clear hk); (try clear hi); obtain ⟨hcz18_0, hcz18_1, hcz18_2, hfz18_0, hfz18_1, hfz18_2⟩ := rows3 (w := w17) BK102; have p105 : 0 ≤ (2 : Int) := (by omega); have q105 : 2 < (((rd_T48 l0 x7_1).f1).length : Int) := of_decide_eq_true (by first | (with_reducible assumption) | assumption); obtain ⟨ad105, e105, hx105_0⟩ := Kd.at_int HR101_1.out 2 p105 q105; cases e105; (try simp only [show (2 : Int).toNat = 2 from rfl, Nat.reduceMul, Nat.reduceEqDiff, Go.Addr.add, ↓reduceIte] at hx105_0); have qi105 : (2 < ((rd_T48 l0 x7_1).f1).length) = True := eq_true (by omega); (try rw [show ((2 : Int)).toNat = 2 from rfl] at hx105_0); replace hx105_0 := (HB.out.cell (World.block_lt_of_cell? w _ hx105_0)).trans hx105_0; replace p105 := eq_true p105; replace q105 := eq_true q105))
          go_roundg k1
          case measure => have := HK1.out; omega
          case rel => exact ⟨(wrap64 (x7_1 + 1)), (by first | rfl | (simp; done) | (simp [*]; done) | (simp [bne_nil]; done) | (simp [bne_nil, *]; done)), H', ⟨by have := HK1.out; omega⟩, ⟨by repeat (first | (with_reducible first | exact HB.out | apply below_alloc | apply pw_below_drewN | apply below_drew1 | refine below_set ?_ GE102.out) | exact HB.out)⟩⟩
        ·rw [if_neg c9] at H
         exact absurd H (by simp)
       ·replace c8 := Bool.eq_false_iff.mpr c8
        subst c8
        have H1 : (some false) = some r := by rw [if_neg (show ¬ (false = true) by decide)] at H; exact H
        clear H
        have H := H1
        clear H1
        obtain rfl := Option.some.inj H
        have p101 : 0 ≤ (x7_1 : Int) := of_decide_eq_true (by first | (with_reducible assumption) | assumption)
        have q101 : x7_1 < (l0.length : Int) := of_decide_eq_true (by first | (with_reducible assumption) | assumption)
        obtain ⟨ad101, A101_1, c101_1, A101_2, c101_2, e101, hx101_0, hx101_1, hx101_2, hl101_1, hi101_1, hl101_2, hi101_2⟩ := at_T48 HR0.out x7_1 p101 q101
        cases e101
        replace hx101_0 := (HB.out.cell (World.block_lt_of_cell? w _ hx101_0)).trans hx101_0
        replace hx101_1 := (HB.out.cell (World.block_lt_of_cell? w _ hx101_1)).trans hx101_1
        replace hx101_2 := (HB.out.cell (World.block_lt_of_cell? w _ hx101_2)).trans hx101_2
        have HR101_1 := Aside0.mk hi101_1
        have HC101_1 := Aside0.mk hl101_1
        clear hi101_1 hl101_1
        have HR101_2 := Aside0.mk hi101_2
        have HC101_2 := Aside0.mk hl101_2
        clear hi101_2 hl101_2
        replace p101 := eq_true p101
        replace q101 := eq_true q101
        go_wp2_with (first | ((with_reducible refine gate_dst (N := 4) rfl ?_); refine box_event ?hg (N := 4) ?hd (cs := #[.string (⟨#[]⟩ : ByteArray), .slice none 0 0, .slice none 0 0]) (t := 48) ?hr ?_; (case hd => rfl); (case hg => rfl); (case hr => first | (go_simp; done) | (go_simp; rfl)); intro gb102 hg w19 hbox hb; have n0_ := Aside0.mk (below_step belH hb); have n1_ := Aside0.mk (hbox); have n2_ := Aside0.mk ((by rw [hg]; exact (below_size belH) : w.heap.size ≤ gb102)); have n3_ := Aside0.mk ((by rw [hg]; exact (below_size belH) : w.heap.size ≤ gb102)); clear HB; have HB := n0_; have BK102 := n1_; have GW102 := n2_; have GE102 := n3_; clear n0_ n1_ n2_ n3_; clear hb hbox hg; obtain ⟨hcz20_0, hcz20_1, hcz20_2, hfz20_0, hfz20_1, hfz20_2⟩ := rows3 (w := w19) BK102) | ((with_reducible refine gate_callee (f := 150) rfl ?_); refine goesL_ (some 13) rfl rfl Tryz.func150 (by kernel_rfl) rfl #[.string ((rd_T48 l0 x7_1).f0)] rfl (by (try simp only [List.map_toArray, List.map_cons, List.map_nil]); first | done | rfl | (simp only [List.length_drop, List.length_take]; rfl)) ?_; (with_reducible refine (spec_ifName.calls k1 ((rd_T48 l0 x7_1).f0) true _ A5.out).mono ?_); rintro e w' ⟨rfl, ⟨nd, rfl⟩⟩; refine ⟨_, rfl, ?_⟩) | (go_at_call 144; (with_reducible refine (spec_counted.calls k1 ((rd_T48 l0 x7_1).f0) _ _ ((rd_T48 l0 x7_1).f1) _ _ ((rd_T48 l0 x7_1).f2) 10 32 0 false _ ?side1 ?side2 ?side3 ?side4 A7.out).mono ?_); (case side1 => exact Kd.C_below HR101_1.out belS); (case side2 => exact HC101_1.out); (case side3 => exact Kd.C_below HR101_2.out belS); (case side4 => exact HC101_2.out); rintro e w21 ⟨rfl, hb⟩; have n0_ := Aside0.mk (blk_below (g := gb102) (o := .cells #[.string ((rd_T48 l0 x7_1).f0), .slice A101_1 ((rd_T48 l0 x7_1).f1).length c101_1, .slice A101_2 ((rd_T48 l0 x7_1).f2).length c101_2] 48 (0, 0)) (by refine bY ?_; refine blk_put (cs := #[.string ((rd_T48 l0 x7_1).f0), .slice A101_1 ((rd_T48 l0 x7_1).f1).length c101_1, .slice none 0 0]) ?_ 2 _ rfl; refine bY ?_; refine blk_put (cs := #[.string ((rd_T48 l0 x7_1).f0), .slice none 0 0, .slice none 0 0]) ?_ 1 _ rfl; refine bY ?_; refine blk_put (cs := #[.string (⟨#[]⟩ : ByteArray), .slice none 0 0, .slice none 0 0]) ?_ 0 _ rfl; refine bY ?_; exact BK102.out) hb); have n1_ := Aside0.mk (below_step belS hb); clear BK102; clear HB; have BK102 := n0_; have HB := n1_; clear n0_ n1_; (try clear hb); (try clear hb2); (try clear hk); (try clear hi)))
        go_ret
        exact ⟨by first | rfl | (simp [errW_none, errW_some] <;> rfl) | (simp [*, errW_none, errW_some] <;> rfl), by repeat (first | (with_reducible first | exact HB.out | apply below_alloc | apply pw_below_drewN | apply below_drew1 | refine below_set ?_ GE102.out) | exact HB.out)⟩
      ·replace c6 := Bool.eq_false_iff.mpr c6
       subst c6
       have H1 : (some false) = some r := by rw [if_neg (show ¬ (false = true) by decide)] at H; exact H
       clear H
       have H := H1
       clear H1
       obtain rfl := Option.some.inj H
       have p101 : 0 ≤ (x7_1 : Int) := of_decide_eq_true (by first | (with_reducible assumption) | assumption)
       have q101 : x7_1 < (l0.length : Int) := of_decide_eq_true (by first | (with_reducible assumption) | assumption)
       obtain ⟨ad101, A101_1, c101_1, A101_2, c101_2, e101, hx101_0, hx101_1, hx101_2, hl101_1, hi101_1, hl101_2, hi101_2⟩ := at_T48 HR0.out x7_1 p101 q101
       cases e101
       replace hx101_0 := (HB.out.cell (World.block_lt_of_cell? w _ hx101_0)).trans hx101_0
       replace hx101_1 := (HB.out.cell (World.block_lt_of_cell? w _ hx101_1)).trans hx101_1
       replace hx101_2 := (HB.out.cell (World.block_lt_of_cell? w _ hx101_2)).trans hx101_2
       have HR101_1 := Aside0.mk hi101_1
       have HC101_1 := Aside0.mk hl101_1
       clear hi101_1 hl101_1
       have HR101_2 := Aside0.mk hi101_2
       have HC101_2 := Aside0.mk hl101_2
       clear hi101_2 hl101_2
       replace p101 := eq_true p101
       replace q101 := eq_true q101
       go_wp2_with (first | ((with_reducible refine gate_dst (N := 4) rfl ?_); refine box_event ?hg (N := 4) ?hd (cs := #[.string (⟨#[]⟩ : ByteArray), .slice none 0 0, .slice none 0 0]) (t := 48) ?hr ?_; (case hd => rfl); (case hg => rfl); (case hr => first | (go_simp; done) | (go_simp; rfl)); intro gb102 hg w22 hbox hb; have n0_ := Aside0.mk (below_step belH hb); have n1_ := Aside0.mk (hbox); have n2_ := Aside0.mk ((by rw [hg]; exact (below_size belH) : w.heap.size ≤ gb102)); have n3_ := Aside0.mk ((by rw [hg]; exact (below_size belH) : w.heap.size ≤ gb102)); clear HB; have HB := n0_; have BK102 := n1_; have GW102 := n2_; have GE102 := n3_; clear n0_ n1_ n2_ n3_; clear hb hbox hg; obtain ⟨hcz23_0, hcz23_1, hcz23_2, hfz23_0, hfz23_1, hfz23_2⟩ := rows3 (w := w22) BK102) | ((with_reducible refine gate_callee (f := 150) rfl ?_); refine goesL_ (some 13) rfl rfl Tryz.func150 (by kernel_rfl) rfl #[.string ((rd_T48 l0 x7_1).f0)] rfl (by (try simp only [List.map_toArray, List.map_cons, List.map_nil]); first | done | rfl | (simp only [List.length_drop, List.length_take]; rfl)) ?_; (with_reducible refine (spec_ifName.calls k1 ((rd_T48 l0 x7_1).f0) false _ A5.out).mono ?_); rintro e w' ⟨rfl, ⟨nd, rfl⟩⟩; refine ⟨_, rfl, ?_⟩))
       go_ret
       exact ⟨by first | rfl | (simp [errW_none, errW_some] <;> rfl) | (simp [*, errW_none, errW_some] <;> rfl), by repeat (first | (with_reducible first | exact HB.out | apply below_alloc | apply pw_below_drewN | apply below_drew1 | refine below_set ?_ GE102.out) | exact HB.out)⟩
     ·rw [if_neg c4] at H
      exact absurd H (by simp)
    ·rw [if_neg c3] at H
     exact absurd H (by simp)
   ·rw [if_neg c2] at H
    have c2b0 : decide (x7_1 < (l0.length : Int)) = false := decide_eq_false c2
    clear c2
    obtain rfl := Option.some.inj H
    go_wp2
    go_ret
    exact ⟨by first | rfl | (simp [errW_none, errW_some] <;> rfl) | (simp [*, errW_none, errW_some] <;> rfl), by repeat (first | (with_reducible first | exact HB.out | apply below_alloc | apply pw_below_drewN | apply below_drew1) | exact HB.out)⟩

end Go.Proofs.YtdmpbaanonafbaaGreatDoor.U
