-- written by a program of this session (wip/tools/pp.py)
import Derived.Test.YtdmpbaanonafbaaGreatDoorJ0
namespace Go.Proofs.YtdmpbaanonafbaaGreatDoor.J
open Go.RowKit Go.Proofs.YtdmpbaanonafbaaGreatDoorW.PrintWords Go.Proofs.YtdmpbaanonafbaaGreatDoorW.PrintLast Go.Proofs.YtdmpbaanonafbaaGreatDoor.Flt Go.Proofs.YtdmpbaanonafbaaGreatDoor.GivZ Go.Proofs.YtdmpbaanonafbaaGreatDoor.E Go.Proofs.YtdmpbaanonafbaaGreatDoor.L Go.Proofs.YtdmpbaanonafbaaGreatDoor.V Go.Proofs.YtdmpbaanonafbaaGreatDoor.DoorCt Go.Proofs.YtdmpbaanonafbaaGreatDoor.Lives Go.Proofs.YtdmpbaanonafbaaGreatDoor.R Go.Proofs.YtdmpbaanonafbaaGreatDoorW.PrintMore
attribute [local go_sem] max2_int min2_int max_two min_two max_three min_three max_four min_four   -- for this text's walks alone
set_option linter.unusedVariables false
set_option linter.unusedSimpArgs false

/-! ### spec_conntrackFine: function 83 -/
def spec_conntrackFine.l0 : Nat → List (S48) → Int → Int → Option (Bool)
 | 0, _, _, _ => none
 | k + 1, x5, x6, x7 => if x7 < x6 then (if 0 ≤ x7 then (if x7 < (x5.length : Int) then (if ((rd_T48 x5 x7).f0).toList = ([] : List UInt8) then ((spec_counted.f k ((rd_T48 x5 x7).f0) ((rd_T48 x5 x7).f1) ((rd_T48 x5 x7).f2) 17 32 0).bind fun t103 => (if t103 = true then (spec_conntrackFine.l0 k x5 x6 (wrap64 (x7 + 1))) else (some false))) else (none)) else (none)) else (none)) else (some true)
def spec_conntrackFine.f (k : Nat) (l0 : List (S48)) : Option (Bool) := spec_conntrackFine.l0 k l0 (l0.length : Int) 0
theorem spec_conntrackFine.mono_l : ∀ k, (∀ y0 y1 y2, LeO (spec_conntrackFine.l0 k y0 y1 y2) (spec_conntrackFine.l0 (k + 1) y0 y1 y2))
 | 0 => fun _ _ _ r h => by simp [spec_conntrackFine.l0] at h
 | k + 1 => by
  have ih0 := spec_conntrackFine.mono_l k
  ·intro y0 y1 y2
   unfold spec_conntrackFine.l0
   repeat' first
   | (with_reducible exact ih0 _ _ _)
   | (with_reducible exact spec_counted.mono _ _ _ _ _ _ _)
   | (with_reducible exact LeO.refl _)
   | (with_reducible exact LeO.none _)
   | (with_reducible refine LeO.ite ?_ ?_)
   | (with_reducible refine LeO.bind ?_ (fun _ => ?_))
   | exact ih0 _ _ _
   | exact spec_counted.mono _ _ _ _ _ _ _
   | exact LeO.none _
   | refine LeO.ite ?_ ?_
   | refine LeO.bind ?_ (fun _ => ?_)
theorem spec_conntrackFine.mono : ∀ a0 k, LeO (spec_conntrackFine.f k a0) (spec_conntrackFine.f (k + 1) a0) := by
 intro a0 k
 have ih0 := spec_conntrackFine.mono_l k
 unfold spec_conntrackFine.f
 repeat' first
   | (with_reducible exact ih0 _ _ _)
   | (with_reducible exact spec_counted.mono _ _ _ _ _ _ _)
   | (with_reducible exact LeO.refl _)
   | (with_reducible exact LeO.none _)
   | (with_reducible refine LeO.ite ?_ ?_)
   | (with_reducible refine LeO.bind ?_ (fun _ => ?_))
   | exact ih0 _ _ _
   | exact spec_counted.mono _ _ _ _ _ _ _
   | exact LeO.none _
   | refine LeO.ite ?_ ?_
   | refine LeO.bind ?_ (fun _ => ?_)
set_option maxHeartbeats 8000000 in
set_option maxRecDepth 100000 in
theorem spec_conntrackFine.calls (k : Nat) (A0 : Option Addr) (c0 : Nat) (l0 : List (S48)) (r : Bool) (w : World) (hr0 : Kd.C k48 w A0 l0.length l0) (hc0 : l0.length ≤ c0) (h : spec_conntrackFine.f k l0 = some r) :
  Calls Tryz.prog 83 #[.slice A0 l0.length c0] w fun e w' => e = .returned (.bool r) ∧ Below w.heap.size w w' := by
 have hu48 := Tryz.underlying48
 have HR0 := Aside0.mk hr0
 have HC0 := Aside0.mk hc0
 clear hr0 hc0
 have HB := Aside0.mk (Below.refl w.heap.size w)
 have H : (spec_conntrackFine.l0 k l0 (l0.length : Int) 0) = some r := h
 clear h
 have H' := Aside0.mk H
 clear H
 go_enter Tryz.func83, Tryz.ntmps83
 go_wp2
 go_loopg [7] k (fun kq v7 w' => ∃ (x7_1 : Int), v7 = .int .i64 x7_1 ∧ Aside0 (spec_conntrackFine.l0 kq l0 (l0.length : Int) x7_1 = some r) ∧ Aside0 (kq ≤ k) ∧ Aside0 (Below w.heap.size w w'))
 case atStart => exact ⟨(0), (by first | rfl | (simp; done) | (simp [*]; done) | (simp [bne_nil]; done) | (simp [bne_nil, *]; done)), H', ⟨Nat.le_refl _⟩, ⟨by repeat (first | (with_reducible first | exact HB.out | apply below_alloc | apply pw_below_drewN | apply below_drew1) | exact HB.out)⟩⟩
 case round =>
  clear H'
  obtain ⟨x7_1, rfl, HA, HK1, HB⟩ := hrel
  cases gk with
  | zero => exact absurd HA.out (by simp [spec_conntrackFine.l0])
  | succ k1 =>
   have H := HA.out
   clear HA
   simp only [spec_conntrackFine.l0] at H
   by_cases c2 : x7_1 < (l0.length : Int)
   ·rw [if_pos c2] at H
    have c2b0 : decide (x7_1 < (l0.length : Int)) = true := decide_eq_true c2
    clear c2
    by_cases c3 : 0 ≤ x7_1
    ·rw [if_pos c3] at H
     have c3b0 : decide (0 ≤ x7_1) = true := decide_eq_true c3
     clear c3
     by_cases c4 : x7_1 < (l0.length : Int)
     ·rw [if_pos c4] at H
      have c4b0 : decide (x7_1 < (l0.length : Int)) = true := decide_eq_true c4
      clear c4
      by_cases c5 : ((rd_T48 l0 x7_1).f0).toList = ([] : List UInt8)
      ·rw [if_pos c5] at H
       have c5b0 : (((rd_T48 l0 x7_1).f0).toList == ([] : List UInt8)) = true := beq_iff_eq.mpr c5
       have c5b1 : (((rd_T48 l0 x7_1).f0).toList != ([] : List UInt8)) = false := bne_eq_false_iff_eq.mpr c5
       clear c5
       replace H := Option.bind_eq_some_iff.mp H
       obtain ⟨t103, A60, H⟩ := H
       have A6 := Aside0.mk A60
       clear A60
       by_cases c7 : t103 = true
       ·subst c7
        have H1 : (spec_conntrackFine.l0 k1 l0 (l0.length : Int) (wrap64 (x7_1 + 1))) = some r := by rw [if_pos rfl] at H; exact H
        clear H
        have H := H1
        clear H1
        have H' := Aside0.mk H
        clear H
        have p101 : 0 ≤ (x7_1 : Int) := of_decide_eq_true (by first | (with_reducible assumption) | assumption)
        have q101 : x7_1 < (l0.length : Int) := of_decide_eq_true (by first | (with_reducible assumption) | assumption)
        obtain ⟨ad101, A101_1, c101_1, A101_2, c101_2, e101, hx101_0, hx101_1, hx101_2, hl101_1, hi101_1, hl101_2, hi101_2⟩ := at_T48 HR0.out x7_1 p101 q101
        cases e101
        replace hx101_0 := (HB.out.cell (World.block_lt_of_cell? w _ hx101_0)).trans hx101_0
        replace hx101_1 := (HB.out.cell (World.block_lt_of_cell? w _ hx101_1)).trans hx101_1
        replace hx101_2 := (HB.out.cell (World.block_lt_of_cell? w _ hx101_2)).trans hx101_2
        have HR101_1 := Aside0.mk hi101_1
        have HC101_1 := Aside0.mk hl101_1
        clear hi101_1 hl101_1
        have HR101_2 := Aside0.mk hi101_2
        have HC101_2 := Aside0.mk hl101_2
        clear hi101_2 hl101_2
        replace p101 := eq_true p101
        replace q101 := eq_true q101
        go_wp2_with (first | ((with_reducible refine gate_dst (N := 4) rfl ?_); refine box_event ?hg (N := 4) ?hd (cs := #[.string (⟨#[]⟩ : ByteArray), .slice none 0 0, .slice none 0 0]) (t := 48) ?hr ?_; (case hd => rfl); (case hg => rfl); (case hr => first | (go_simp; done) | (go_simp; rfl)); intro gb102 hg w8 hbox hb; have n0_ := Aside0.mk (below_step belH hb); have n1_ := Aside0.mk (hbox); have n2_ := Aside0.mk ((by rw [hg]; exact (below_size belH) : w.heap.size ≤ gb102)); have n3_ := Aside0.mk ((by rw [hg]; exact (below_size belH) : w.heap.size ≤ gb102)); clear HB; have HB := n0_; have BK102 := n1_; have GW102 := n2_; have GE102 := n3_; clear n0_ n1_ n2_ n3_; clear hb hbox hg; obtain ⟨hcz9_0, hcz9_1, hcz9_2, hfz9_0, hfz9_1, hfz9_2⟩ := rows3 (w := w8) BK102) | (go_at_call 144; (with_reducible refine (spec_counted.calls k1 ((rd_T48 l0 x7_1).f0) _ _ ((rd_T48 l0 x7_1).f1) _ _ ((rd_T48 l0 x7_1).f2) 17 32 0 true _ ?side1 ?side2 ?side3 ?side4 A6.out).mono ?_); (case side1 => exact Kd.C_below HR101_1.out belS); (case side2 => exact HC101_1.out); (case side3 => exact Kd.C_below HR101_2.out belS); (case side4 => exact HC101_2.out); rintro e w10 ⟨rfl, hb⟩; have n0_ := Aside0.mk (blk_below (g := gb102) (o := .cells #[.string ((rd_T48 l0 x7_1).f0), .slice A101_1 ((rd_T48 l0 x7_1).f1).length c101_1, .slice A101_2 ((rd_T48 l0 x7_1).f2).length c101_2] 48 (0, 0)) (by refine bY ?_; refine blk_put (cs := #[.string ((rd_T48 l0 x7_1).f0), .slice A101_1 ((rd_T48 l0 x7_1).f1).length c101_1, .slice none 0 0]) ?_ 2 _ rfl; refine bY ?_; refine blk_put (cs := #[.string ((rd_T48 l0 x7_1).f0), .slice none 0 0, .slice none 0 0]) ?_ 1 _ rfl; refine bY ?_; refine blk_put (cs := #[.string (⟨#[]⟩ : ByteArray), .slice none 0 0, .slice none 0 0]) ?_ 0 _ rfl; refine bY ?_; exact BK102.out) hb); have n1_ := Aside0.mk (below_step belS hb); clear BK102; clear HB; have BK102 := n0_; have HB := n1_; clear n0_ n1_; (try clear hb); (try clear hb2); (try clear hk); (try clear hi)))
        go_roundg k1
        case measure => have := HK1.out; omega
        case rel => exact ⟨(wrap64 (x7_1 + 1)), (by first | rfl | (simp; done) | (simp [*]; done) | (simp [bne_nil]; done) | (simp [bne_nil, *]; done)), H', ⟨by have := HK1.out; omega⟩, ⟨by repeat (first | (with_reducible first | exact HB.out | apply below_alloc | apply pw_below_drewN | apply below_drew1 | refine below_set ?_ GE102.out) | exact HB.out)⟩⟩
       ·replace c7 := Bool.eq_false_iff.mpr c7
        subst c7
        have H1 : (some false) = some r := by rw [if_neg (show ¬ (false = true) by decide)] at H; exact H
        clear H
        have H := H1
        clear H1
        obtain rfl := Option.some.inj H
        have p101 : 0 ≤ (x7_1 : Int) := of_decide_eq_true (by first | (with_reducible assumption) | assumption)
        have q101 : x7_1 < (l0.length : Int) := of_decide_eq_true (by first | (with_reducible assumption) | assumption)
        obtain ⟨ad101, A101_1, c101_1, A101_2, c101_2, e101, hx101_0, hx101_1, hx101_2, hl101_1, hi101_1, hl101_2, hi101_2⟩ := at_T48 HR0.out x7_1 p101 q101
        cases e101
        replace hx101_0 := (HB.out.cell (World.block_lt_of_cell? w _ hx101_0)).trans hx101_0
        replace hx101_1 := (HB.out.cell (World.block_lt_of_cell? w _ hx101_1)).trans hx101_1
        replace hx101_2 := (HB.out.cell (World.block_lt_of_cell? w _ hx101_2)).trans hx101_2
        have HR101_1 := Aside0.mk hi101_1
        have HC101_1 := Aside0.mk hl101_1
        clear hi101_1 hl101_1
        have HR101_2 := Aside0.mk hi101_2
        have HC101_2 := Aside0.mk hl101_2
        clear hi101_2 hl101_2
        replace p101 := eq_true p101
        replace q101 := eq_true q101
        go_wp2_with (first | ((with_reducible refine gate_dst (N := 4) rfl ?_); refine box_event ?hg (N := 4) ?hd (cs := #[.string (⟨#[]⟩ : ByteArray), .slice none 0 0, .slice none 0 0]) (t := 48) ?hr ?_; (case hd => rfl); (case hg => rfl); (case hr => first | (go_simp; done) | (go_simp; rfl)); intro gb102 hg w11 hbox hb; have n0_ := Aside0.mk (below_step belH hb); have n1_ := Aside0.mk (hbox); have n2_ := Aside0.mk ((by rw [hg]; exact (below_size belH) : w.heap.size ≤ gb102)); have n3_ := Aside0.mk ((by rw [hg]; exact (below_size belH) : w.heap.size ≤ gb102)); clear HB; have HB := n0_; have BK102 := n1_; have GW102 := n2_; have GE102 := n3_; clear n0_ n1_ n2_ n3_; clear hb hbox hg; obtain ⟨hcz12_0, hcz12_1, hcz12_2, hfz12_0, hfz12_1, hfz12_2⟩ := rows3 (w := w11) BK102) | (go_at_call 144; (with_reducible refine (spec_counted.calls k1 ((rd_T48 l0 x7_1).f0) _ _ ((rd_T48 l0 x7_1).f1) _ _ ((rd_T48 l0 x7_1).f2) 17 32 0 false _ ?side1 ?side2 ?side3 ?side4 A6.out).mono ?_); (case side1 => exact Kd.C_below HR101_1.out belS); (case side2 => exact HC101_1.out); (case side3 => exact Kd.C_below HR101_2.out belS); (case side4 => exact HC101_2.out); rintro e w13 ⟨rfl, hb⟩; have n0_ := Aside0.mk (blk_below (g := gb102) (o := .cells #[.string ((rd_T48 l0 x7_1).f0), .slice A101_1 ((rd_T48 l0 x7_1).f1).length c101_1, .slice A101_2 ((rd_T48 l0 x7_1).f2).length c101_2] 48 (0, 0)) (by refine bY ?_; refine blk_put (cs := #[.string ((rd_T48 l0 x7_1).f0), .slice A101_1 ((rd_T48 l0 x7_1).f1).length c101_1, .slice none 0 0]) ?_ 2 _ rfl; refine bY ?_; refine blk_put (cs := #[.string ((rd_T48 l0 x7_1).f0), .slice none 0 0, .slice none 0 0]) ?_ 1 _ rfl; refine bY ?_; refine blk_put (cs := #[.string (⟨#[]⟩ : ByteArray), .slice none 0 0, .slice none 0 0]) ?_ 0 _ rfl; refine bY ?_; exact BK102.out) hb); have n1_ := Aside0.mk (below_step belS hb); clear BK102; clear HB; have BK102 := n0_; have HB := n1_; clear n0_ n1_; (try clear hb); (try clear hb2); (try clear hk); (try clear hi)))
        go_ret
        exact ⟨by first | rfl | (simp [errW_none, errW_some] <;> rfl) | (simp [*, errW_none, errW_some] <;> rfl), by repeat (first | (with_reducible first | exact HB.out | apply below_alloc | apply pw_below_drewN | apply below_drew1 | refine below_set ?_ GE102.out) | exact HB.out)⟩
      ·rw [if_neg c5] at H
       exact absurd H (by simp)
     ·rw [if_neg c4] at H
      exact absurd H (by simp)
    ·rw [if_neg c3] at H
     exact absurd H (by simp)
   ·rw [if_neg c2] at H
    have c2b0 : decide (x7_1 < (l0.length : Int)) = false := decide_eq_false c2
    clear c2
    obtain rfl := Option.some.inj H
    go_wp2
    go_ret
    exact ⟨by first | rfl | (simp [errW_none, errW_some] <;> rfl) | (simp [*, errW_none, errW_some] <;> rfl), by repeat (first | (with_reducible first | exact HB.out | apply below_alloc | apply pw_below_drewN | apply below_drew1) | exact HB.out)⟩

/-! ### spec_ConntrackRead: function 24 -/
mutual
def spec_ConntrackRead.j0 : Nat → ByteArray → Bool → Option ((List (S48)) × Bool × Int)
 | 0, _, _ => none
 | k + 1, x0, x20 => if x20 = true then (some (([] : List (S48)), false, 2)) else (if 165 ≤ (x0.size : Int) then ((spec_Lines.f k (x0.extract 165 x0.size)).bind fun t106 => (spec_ConntrackRead.l0 k ([] : List (S48)) t106 (t106.length : Int) 0)) else (none))
def spec_ConntrackRead.l0 : Nat → List (S48) → List ByteArray → Int → Int → Option ((List (S48)) × Bool × Int)
 | 0, _, _, _, _ => none
 | k + 1, x5, x23, x24, x25 => if x25 < x24 then (if 0 ≤ x25 then (if x25 < (x23.length : Int) then ((spec_Fields.f k (rdOf ByteArray.empty x23 x25)).bind fun t113 => (spec_ConntrackRead.l1 k x5 x23 x24 x25 t113 (t113.length : Int) 0 (⟨#[]⟩ : ByteArray) ([] : List Int))) else (none)) else (none)) else ((spec_conntrackFine.f k x5).bind fun t109 => ((spec_told.f t109).bind fun t110 => (some (x5, true, t110))))
def spec_ConntrackRead.l1 : Nat → List (S48) → List ByteArray → Int → Int → List ByteArray → Int → Int → ByteArray → List Int → Option ((List (S48)) × Bool × Int)
 | 0, _, _, _, _, _, _, _, _, _ => none
 | k + 1, x5, x23, x24, x25, x30, x31, x32, x113000, x113001 => if x32 < x31 then (if 0 ≤ x32 then (if x32 < (x30.length : Int) then ((spec_Number.f k (rdOf ByteArray.empty x30 x32) 16).bind fun bt117 => (if bt117.2 = true then (if ((rdOf ByteArray.empty x30 x32).size : Int) = 8 then (if x113001.length < 17592186044416 then (spec_ConntrackRead.l1 k x5 x23 x24 x25 x30 x31 (wrap64 (x32 + 1)) x113000 (x113001 ++ [bt117.1])) else (none)) else (some (([] : List (S48)), false, 2))) else (some (([] : List (S48)), false, 2)))) else (none)) else (none)) else (if x5.length < 2199023255552 then (spec_ConntrackRead.l0 k (x5 ++ [(⟨x113000, x113001, ([] : List ByteArray)⟩ : S48)]) x23 x24 (wrap64 (x25 + 1))) else (none))
end
def spec_ConntrackRead.f (k : Nat) (a0 : ByteArray) : Option ((List (S48)) × Bool × Int) := (spec_Plain.f k a0).bind fun t104 => (if t104 = true then ((spec_Begins.f a0 (⟨#[101, 110, 116, 114, 105, 101, 115, 32, 32, 115, 101, 97, 114, 99, 104, 101, 100, 32, 102, 111, 117, 110, 100, 32, 110, 101, 119, 32, 105, 110, 118, 97, 108, 105, 100, 32, 105, 103, 110, 111, 114, 101, 32, 100, 101, 108, 101, 116, 101, 32, 100, 101, 108, 101, 116, 101, 95, 108, 105, 115, 116, 32, 105, 110, 115, 101, 114, 116, 32, 105, 110, 115, 101, 114, 116, 95, 102, 97, 105, 108, 101, 100, 32, 100, 114, 111, 112, 32, 101, 97, 114, 108, 121, 95, 100, 114, 111, 112, 32, 105, 99, 109, 112, 95, 101, 114, 114, 111, 114, 32, 32, 101, 120, 112, 101, 99, 116, 95, 110, 101, 119, 32, 101, 120, 112, 101, 99, 116, 95, 99, 114, 101, 97, 116, 101, 32, 101, 120, 112, 101, 99, 116, 95, 100, 101, 108, 101, 116, 101, 32, 115, 101, 97, 114, 99, 104, 95, 114, 101, 115, 116, 97, 114, 116, 10]⟩ : ByteArray)).bind fun t105 => (spec_ConntrackRead.j0 k a0 (!t105))) else (spec_ConntrackRead.j0 k a0 true))
theorem spec_ConntrackRead.mono_l : ∀ k, (∀ y0 y1, LeO (spec_ConntrackRead.j0 k y0 y1) (spec_ConntrackRead.j0 (k + 1) y0 y1)) ∧ (∀ y0 y1 y2 y3, LeO (spec_ConntrackRead.l0 k y0 y1 y2 y3) (spec_ConntrackRead.l0 (k + 1) y0 y1 y2 y3)) ∧ (∀ y0 y1 y2 y3 y4 y5 y6 y7 y8, LeO (spec_ConntrackRead.l1 k y0 y1 y2 y3 y4 y5 y6 y7 y8) (spec_ConntrackRead.l1 (k + 1) y0 y1 y2 y3 y4 y5 y6 y7 y8))
 | 0 => ⟨fun _ _ r h => by simp [spec_ConntrackRead.j0] at h, fun _ _ _ _ r h => by simp [spec_ConntrackRead.l0] at h, fun _ _ _ _ _ _ _ _ _ r h => by simp [spec_ConntrackRead.l1] at h⟩
 | k + 1 => by
  obtain ⟨ih0, ih1, ih2⟩ := spec_ConntrackRead.mono_l k
  refine ⟨?_, ?_, ?_⟩
  ·intro y0 y1
   unfold spec_ConntrackRead.j0
   repeat' first
   | (with_reducible exact ih0 _ _)
   | (with_reducible exact ih1 _ _ _ _)
   | (with_reducible exact ih2 _ _ _ _ _ _ _ _ _)
   | (with_reducible exact spec_Fields.mono _ _)
   | (with_reducible exact spec_Lines.mono _ _)
   | (with_reducible exact spec_Number.mono _ _ _)
   | (with_reducible exact spec_Plain.mono _ _)
   | (with_reducible exact spec_conntrackFine.mono _ _)
   | (with_reducible exact LeO.refl _)
   | (with_reducible exact LeO.none _)
   | (with_reducible refine LeO.ite ?_ ?_)
   | (with_reducible refine LeO.bind ?_ (fun _ => ?_))
   | exact ih0 _ _
   | exact ih1 _ _ _ _
   | exact ih2 _ _ _ _ _ _ _ _ _
   | exact spec_Fields.mono _ _
   | exact spec_Lines.mono _ _
   | exact spec_Number.mono _ _ _
   | exact spec_Plain.mono _ _
   | exact spec_conntrackFine.mono _ _
   | exact LeO.none _
   | refine LeO.ite ?_ ?_
   | refine LeO.bind ?_ (fun _ => ?_)
  ·intro y0 y1 y2 y3
   unfold spec_ConntrackRead.l0
   repeat' first
   | (with_reducible exact ih0 _ _)
   | (with_reducible exact ih1 _ _ _ _)
   | (with_reducible exact ih2 _ _ _ _ _ _ _ _ _)
   | (with_reducible exact spec_Fields.mono _ _)
   | (with_reducible exact spec_Lines.mono _ _)
   | (with_reducible exact spec_Number.mono _ _ _)
   | (with_reducible exact spec_Plain.mono _ _)
   | (with_reducible exact spec_conntrackFine.mono _ _)
   | (with_reducible exact LeO.refl _)
   | (with_reducible exact LeO.none _)
   | (with_reducible refine LeO.ite ?_ ?_)
   | (with_reducible refine LeO.bind ?_ (fun _ => ?_))
   | exact ih0 _ _
   | exact ih1 _ _ _ _
   | exact ih2 _ _ _ _ _ _ _ _ _
   | exact spec_Fields.mono _ _
   | exact spec_Lines.mono _ _
   | exact spec_Number.mono _ _ _
   | exact spec_Plain.mono _ _
   | exact spec_conntrackFine.mono _ _
   | exact LeO.none _
   | refine LeO.ite ?_ ?_
   | refine LeO.bind ?_ (fun _ => ?_)
  ·intro y0 y1 y2 y3 y4 y5 y6 y7 y8
   unfold spec_ConntrackRead.l1
   repeat' first
   | (with_reducible exact ih0 _ _)
   | (with_reducible exact ih1 _ _ _ _)
   | (with_reducible exact ih2 _ _ _ _ _ _ _ _ _)
   | (with_reducible exact spec_Fields.mono _ _)
   | (with_reducible exact spec_Lines.mono _ _)
   | (with_reducible exact spec_Number.mono _ _ _)
   | (with_reducible exact spec_Plain.mono _ _)
   | (with_reducible exact spec_conntrackFine.mono _ _)
   | (with_reducible exact LeO.refl _)
   | (with_reducible exact LeO.none _)
   | (with_reducible refine LeO.ite ?_ ?_)
   | (with_reducible refine LeO.bind ?_ (fun _ => ?_))
   | exact ih0 _ _
   | exact ih1 _ _ _ _
   | exact ih2 _ _ _ _ _ _ _ _ _
   | exact spec_Fields.mono _ _
   | exact spec_Lines.mono _ _
   | exact spec_Number.mono _ _ _
   | exact spec_Plain.mono _ _
   | exact spec_conntrackFine.mono _ _
   | exact LeO.none _
   | refine LeO.ite ?_ ?_
   | refine LeO.bind ?_ (fun _ => ?_)
theorem spec_ConntrackRead.mono : ∀ a0 k, LeO (spec_ConntrackRead.f k a0) (spec_ConntrackRead.f (k + 1) a0) := by
 intro a0 k
 obtain ⟨ih0, ih1, ih2⟩ := spec_ConntrackRead.mono_l k
 unfold spec_ConntrackRead.f
 repeat' first
   | (with_reducible exact ih0 _ _)
   | (with_reducible exact ih1 _ _ _ _)
   | (with_reducible exact ih2 _ _ _ _ _ _ _ _ _)
   | (with_reducible exact spec_Fields.mono _ _)
   | (with_reducible exact spec_Lines.mono _ _)
   | (with_reducible exact spec_Number.mono _ _ _)
   | (with_reducible exact spec_Plain.mono _ _)
   | (with_reducible exact spec_conntrackFine.mono _ _)
   | (with_reducible exact LeO.refl _)
   | (with_reducible exact LeO.none _)
   | (with_reducible refine LeO.ite ?_ ?_)
   | (with_reducible refine LeO.bind ?_ (fun _ => ?_))
   | exact ih0 _ _
   | exact ih1 _ _ _ _
   | exact ih2 _ _ _ _ _ _ _ _ _
   | exact spec_Fields.mono _ _
   | exact spec_Lines.mono _ _
   | exact spec_Number.mono _ _ _
   | exact spec_Plain.mono _ _
   | exact spec_conntrackFine.mono _ _
   | exact LeO.none _
   | refine LeO.ite ?_ ?_
   | refine LeO.bind ?_ (fun _ => ?_)
set_option maxHeartbeats 8000000 in
set_option maxRecDepth 100000 in
theorem spec_ConntrackRead.calls (k : Nat) (a0 : ByteArray) (r1 : List (S48)) (r2 : Bool) (r3 : Int) (w : World) (h : spec_ConntrackRead.f k a0 = some (r1, r2, r3)) :
  Calls Tryz.prog 24 #[.string a0] w fun e w' => ∃ v0_ : Value, e = .returned (.tuple #[v0_, .bool r2, .int .i64 r3]) ∧ Kd.S k48 48 w' w.heap.size (fun _ => True) v0_ r1 ∧ Below w.heap.size w w' := by
 have hu48 := Tryz.underlying48
 have HB := Aside0.mk (Below.refl w.heap.size w)
 have H : ((spec_Plain.f k a0).bind fun t104 => (if t104 = true then ((spec_Begins.f a0 (⟨#[101, 110, 116, 114, 105, 101, 115, 32, 32, 115, 101, 97, 114, 99, 104, 101, 100, 32, 102, 111, 117, 110, 100, 32, 110, 101, 119, 32, 105, 110, 118, 97, 108, 105, 100, 32, 105, 103, 110, 111, 114, 101, 32, 100, 101, 108, 101, 116, 101, 32, 100, 101, 108, 101, 116, 101, 95, 108, 105, 115, 116, 32, 105, 110, 115, 101, 114, 116, 32, 105, 110, 115, 101, 114, 116, 95, 102, 97, 105, 108, 101, 100, 32, 100, 114, 111, 112, 32, 101, 97, 114, 108, 121, 95, 100, 114, 111, 112, 32, 105, 99, 109, 112, 95, 101, 114, 114, 111, 114, 32, 32, 101, 120, 112, 101, 99, 116, 95, 110, 101, 119, 32, 101, 120, 112, 101, 99, 116, 95, 99, 114, 101, 97, 116, 101, 32, 101, 120, 112, 101, 99, 116, 95, 100, 101, 108, 101, 116, 101, 32, 115, 101, 97, 114, 99, 104, 95, 114, 101, 115, 116, 97, 114, 116, 10]⟩ : ByteArray)).bind fun t105 => (spec_ConntrackRead.j0 k a0 (!t105))) else (spec_ConntrackRead.j0 k a0 true))) = some (r1, r2, r3) := h
 clear h
 have HC2 := Aside0.mk H
 clear H
 go_enter Tryz.func24, Tryz.ntmps24
 go_upto_region 1 with (fail)
 go_cut [20] (fun v20 wc => ∃ (kq : Nat) (x20_1 : Bool), v20 = .bool x20_1 ∧ Aside0 (spec_ConntrackRead.j0 kq a0 x20_1 = some (r1, r2, r3)) ∧ Aside0 (kq ≤ k) ∧ Aside0 (Below w.heap.size w wc))
 case first =>
  have H := HC2.out
  clear HC2
  replace H := Option.bind_eq_some_iff.mp H
  obtain ⟨t104, A30, H⟩ := H
  have A3 := Aside0.mk A30
  clear A30
  by_cases c4 : t104 = true
  ·subst c4
   have H1 : ((spec_Begins.f a0 (⟨#[101, 110, 116, 114, 105, 101, 115, 32, 32, 115, 101, 97, 114, 99, 104, 101, 100, 32, 102, 111, 117, 110, 100, 32, 110, 101, 119, 32, 105, 110, 118, 97, 108, 105, 100, 32, 105, 103, 110, 111, 114, 101, 32, 100, 101, 108, 101, 116, 101, 32, 100, 101, 108, 101, 116, 101, 95, 108, 105, 115, 116, 32, 105, 110, 115, 101, 114, 116, 32, 105, 110, 115, 101, 114, 116, 95, 102, 97, 105, 108, 101, 100, 32, 100, 114, 111, 112, 32, 101, 97, 114, 108, 121, 95, 100, 114, 111, 112, 32, 105, 99, 109, 112, 95, 101, 114, 114, 111, 114, 32, 32, 101, 120, 112, 101, 99, 116, 95, 110, 101, 119, 32, 101, 120, 112, 101, 99, 116, 95, 99, 114, 101, 97, 116, 101, 32, 101, 120, 112, 101, 99, 116, 95, 100, 101, 108, 101, 116, 101, 32, 115, 101, 97, 114, 99, 104, 95, 114, 101, 115, 116, 97, 114, 116, 10]⟩ : ByteArray)).bind fun t105 => (spec_ConntrackRead.j0 k a0 (!t105))) = some (r1, r2, r3) := by rw [if_pos rfl] at H; exact H
   clear H
   have H := H1
   clear H1
   replace H := Option.bind_eq_some_iff.mp H
   obtain ⟨t105, A50, H⟩ := H
   have A5 := Aside0.mk A50
   clear A50
   have H' := Aside0.mk H
   clear H
   go_wp2_with (first | ((with_reducible refine gate_callee (f := 80) rfl ?_); refine goesL_ (some 14) rfl rfl Tryz.func80 (by kernel_rfl) rfl #[.string a0] rfl (by (try simp only [List.map_toArray, List.map_cons, List.map_nil]); first | done | rfl | (simp only [List.length_drop, List.length_take]; rfl)) ?_; (with_reducible refine (spec_Plain.calls k a0 true _ A3.out).mono ?_); rintro e w' ⟨rfl, ⟨nd, rfl⟩⟩; refine ⟨_, rfl, ?_⟩) | (go_at_call 73; (with_reducible refine (spec_Begins.calls a0 (⟨#[101, 110, 116, 114, 105, 101, 115, 32, 32, 115, 101, 97, 114, 99, 104, 101, 100, 32, 102, 111, 117, 110, 100, 32, 110, 101, 119, 32, 105, 110, 118, 97, 108, 105, 100, 32, 105, 103, 110, 111, 114, 101, 32, 100, 101, 108, 101, 116, 101, 32, 100, 101, 108, 101, 116, 101, 95, 108, 105, 115, 116, 32, 105, 110, 115, 101, 114, 116, 32, 105, 110, 115, 101, 114, 116, 95, 102, 97, 105, 108, 101, 100, 32, 100, 114, 111, 112, 32, 101, 97, 114, 108, 121, 95, 100, 114, 111, 112, 32, 105, 99, 109, 112, 95, 101, 114, 114, 111, 114, 32, 32, 101, 120, 112, 101, 99, 116, 95, 110, 101, 119, 32, 101, 120, 112, 101, 99, 116, 95, 99, 114, 101, 97, 116, 101, 32, 101, 120, 112, 101, 99, 116, 95, 100, 101, 108, 101, 116, 101, 32, 115, 101, 97, 114, 99, 104, 95, 114, 101, 115, 116, 97, 114, 116, 10]⟩ : ByteArray) t105 _ A5.out).mono ?_); rintro e w' ⟨rfl, ⟨nd, rfl⟩⟩))
   go_meet
   case rel => exact ⟨_, (!t105), (by first | rfl | (simp; done) | (simp [*]; done) | (simp [bne_nil]; done) | (simp [bne_nil, *]; done)), H', ⟨by first | omega | exact Nat.le_refl _⟩, ⟨by repeat (first | (with_reducible first | exact HB.out | apply below_alloc | apply pw_below_drewN | apply below_drew1) | exact HB.out)⟩⟩
  ·replace c4 := Bool.eq_false_iff.mpr c4
   subst c4
   have H1 : (spec_ConntrackRead.j0 k a0 true) = some (r1, r2, r3) := by rw [if_neg (show ¬ (false = true) by decide)] at H; exact H
   clear H
   have H := H1
   clear H1
   have H' := Aside0.mk H
   clear H
   go_wp2_with (first | ((with_reducible refine gate_callee (f := 80) rfl ?_); refine goesL_ (some 14) rfl rfl Tryz.func80 (by kernel_rfl) rfl #[.string a0] rfl (by (try simp only [List.map_toArray, List.map_cons, List.map_nil]); first | done | rfl | (simp only [List.length_drop, List.length_take]; rfl)) ?_; (with_reducible refine (spec_Plain.calls k a0 false _ A3.out).mono ?_); rintro e w' ⟨rfl, ⟨nd, rfl⟩⟩; refine ⟨_, rfl, ?_⟩))
   go_meet
   case rel => exact ⟨_, (true), (by first | rfl | (simp; done) | (simp [*]; done) | (simp [bne_nil]; done) | (simp [bne_nil, *]; done)), H', ⟨by first | omega | exact Nat.le_refl _⟩, ⟨by repeat (first | (with_reducible first | exact HB.out | apply below_alloc | apply pw_below_drewN | apply below_drew1) | exact HB.out)⟩⟩
 case rest =>
  clear HC2
  try clear c2
  try clear p2
  try clear c4
  obtain ⟨kq, x20_1, rfl, HA, HJ1, HB⟩ := hcut
  cases kq with
  | zero => exact absurd HA.out (by simp [spec_ConntrackRead.j0])
  | succ kj1 =>
   have H := HA.out
   clear HA
   simp only [spec_ConntrackRead.j0] at H
   by_cases c6 : x20_1 = true
   ·subst c6
    have H1 : (some (([] : List (S48)), false, 2)) = some (r1, r2, r3) := by rw [if_pos rfl] at H; exact H
    clear H
    have H := H1
    clear H1
    simp only [Option.some.injEq, Prod.mk.injEq] at H
    obtain ⟨rfl, rfl, rfl⟩ := H
    go_wp2
    go_ret3
    exact ⟨_, by first | rfl | (simp [errW_none, errW_some] <;> rfl) | (simp [*, errW_none, errW_some] <;> rfl), by first | exact Kd.S_nil _ _ _ _ _ | exact Kd.N_nil _ _ _ _ _ | exact Kd.V_nil _ _ _ _ _ | exact Kd.Q_nil _ _ _ _ _ | exact Kd.R_nil _ _ _ _ _, by repeat (first | (with_reducible first | exact HB.out | apply below_alloc | apply pw_below_drewN | apply below_drew1) | exact HB.out)⟩
   ·replace c6 := Bool.eq_false_iff.mpr c6
    subst c6
    have H1 : (if 165 ≤ (a0.size : Int) then ((spec_Lines.f kj1 (a0.extract 165 a0.size)).bind fun t106 => (spec_ConntrackRead.l0 kj1 ([] : List (S48)) t106 (t106.length : Int) 0)) else (none)) = some (r1, r2, r3) := by rw [if_neg (show ¬ (false = true) by decide)] at H; exact H
    clear H
    have H := H1
    clear H1
    by_cases c7 : 165 ≤ (a0.size : Int)
    ·rw [if_pos c7] at H
     have c7b0 := eq_true c7
     have c7b1 : decide (165 ≤ (a0.size : Int)) = true := decide_eq_true c7
     clear c7
     replace H := Option.bind_eq_some_iff.mp H
     obtain ⟨t106, A80, H⟩ := H
     have A8 := Aside0.mk A80
     clear A80
     have H' := Aside0.mk H
     clear H
     go_wp2_with (first | ((with_reducible refine gate_callee (f := 55) rfl ?_); refine goesL_ (some 23) rfl rfl Tryz.func55 (by kernel_rfl) rfl #[.string (a0.extract 165 a0.size)] rfl (by (try simp only [List.map_toArray, List.map_cons, List.map_nil]); first | done | rfl | (simp only [List.length_drop, List.length_take]; rfl)) ?_; (with_reducible refine (spec_Lines.calls kj1 (a0.extract 165 a0.size) t106 _ A8.out).mono ?_); rintro e w9 ⟨v107, rfl, ho0, hb⟩; refine ⟨_, rfl, ?_⟩; have n0_ := Aside0.mk (Kd.R_lower ho0 (below_size belH)); have n1_ := Aside0.mk (below_step belH hb); clear HB; have HO108 := n0_; have HB := n1_; clear n0_ n1_; (try clear hb); (try clear hb2); (try clear hk); (try clear hi); (try clear ho0); obtain ⟨Ao10, co10, eo10⟩ := Kd.R_slice HO108.out; subst eo10))
     go_loopg [5, 25] kj1 (fun kq v5 v25 w' => ∃ (x5_2 : List (S48)) (x25_2 : Int), v25 = .int .i64 x25_2 ∧ Aside0 (spec_ConntrackRead.l0 kq x5_2 t106 (t106.length : Int) x25_2 = some (r1, r2, r3)) ∧ Aside0 (kq ≤ kj1) ∧ Aside0 (Kd.S k48 48 w' w.heap.size (fun k_ => some k_ ≠ ((.slice Ao10 t106.length co10) : Value).ownBlock) v5 x5_2) ∧ Aside0 (Kd.R Kd.string 9 w' w.heap.size (fun _ => True) (.slice Ao10 t106.length co10) t106) ∧ Aside0 (Below w.heap.size w w'))
     case atStart => exact ⟨(([] : List (S48))), (0), (by first | rfl | (simp; done) | (simp [*]; done) | (simp [bne_nil]; done) | (simp [bne_nil, *]; done)), H', ⟨Nat.le_refl _⟩, ⟨by first | exact Kd.S_nil _ _ _ _ _ | exact Kd.N_nil _ _ _ _ _ | exact Kd.V_nil _ _ _ _ _ | exact Kd.Q_nil _ _ _ _ _ | exact Kd.R_nil _ _ _ _ _⟩, ⟨by (with_reducible repeat (first | apply Kd.R_alloc | apply Kd.R_drewN | apply Kd.R_drew)); exact HO108.out⟩, ⟨by repeat (first | (with_reducible first | exact HB.out | apply below_alloc | apply pw_below_drewN | apply below_drew1) | exact HB.out)⟩⟩
     case round =>
      clear H'
      try clear c2
      try clear p2
      try clear c4
      try clear c5
      try clear c6
      try clear c7
      try clear c7b0
      try clear c7b1
      try clear c8
      try clear p2
      obtain ⟨x5_2, x25_2, rfl, HA, HK2, HO_5, HO_23, HB⟩ := hrel
      cases gk with
      | zero => exact absurd HA.out (by simp [spec_ConntrackRead.l0])
      | succ k2 =>
       have H := HA.out
       clear HA
       simp only [spec_ConntrackRead.l0] at H
       by_cases c11 : x25_2 < (t106.length : Int)
       ·rw [if_pos c11] at H
        have c11b0 : decide (x25_2 < (t106.length : Int)) = true := decide_eq_true c11
        clear c11
        by_cases c12 : 0 ≤ x25_2
        ·rw [if_pos c12] at H
         have c12b0 : decide (0 ≤ x25_2) = true := decide_eq_true c12
         clear c12
         by_cases c13 : x25_2 < (t106.length : Int)
         ·rw [if_pos c13] at H
          have c13b0 : decide (x25_2 < (t106.length : Int)) = true := decide_eq_true c13
          clear c13
          replace H := Option.bind_eq_some_iff.mp H
          obtain ⟨t113, A140, H⟩ := H
          have A14 := Aside0.mk A140
          clear A140
          have H' := Aside0.mk H
          clear H
          have p111 : 0 ≤ (x25_2 : Int) := of_decide_eq_true (by first | (with_reducible assumption) | assumption)
          have q111 : x25_2 < (t106.length : Int) := of_decide_eq_true (by first | (with_reducible assumption) | assumption)
          obtain ⟨ad111, e111, hx111_0⟩ := Kd.at_string (Kd.R_reads' HO_23.out).2.2 x25_2 p111 q111
          cases e111
          replace p111 := eq_true p111
          replace q111 := eq_true q111
          go_wp2_with (first | ((with_reducible refine gate_dst (N := 8) rfl ?_); (try (refine gate_guard (by rfl) ?_; dsimp only)); refine box_event ?hg (N := 8) ?hd (cs := #[.string (⟨#[]⟩ : ByteArray), .slice none 0 0, .slice none 0 0]) (t := 48) ?hr ?_; (case hd => rfl); (case hg => rfl); (case hr => first | (go_simp; done) | (go_simp; rfl)); intro gb112 hg w15 hbox hb; have n0_ := Aside0.mk (Kd.S_below (Kd.S_elderB (by (with_reducible repeat (first | apply Kd.S_alloc | apply Kd.S_drewN | apply Kd.S_drew)); exact HO_5.out) gb112 (Nat.le_of_eq hg.symm)) hb); have n1_ := Aside0.mk (Kd.R_below (by (with_reducible repeat (first | apply Kd.R_alloc | apply Kd.R_drewN | apply Kd.R_drew)); exact HO_23.out) hb); have n2_ := Aside0.mk (below_step belH hb); have n3_ := Aside0.mk (hbox); have n4_ := Aside0.mk ((by rw [hg]; exact (below_size belH) : w.heap.size ≤ gb112)); have n5_ := Aside0.mk ((by rw [hg]; exact (below_size belH) : w.heap.size ≤ gb112)); clear HO_5; clear HO_23; clear HB; have HO_5 := n0_; have HO_23 := n1_; have HB := n2_; have BK112 := n3_; have GW112 := n4_; have GE112 := n5_; clear n0_ n1_ n2_ n3_ n4_ n5_; clear hb hbox hg) | ((with_reducible refine gate_callee (f := 39) rfl ?_); refine goesL_ (some 30) rfl rfl Tryz.func39 (by kernel_rfl) rfl #[.string (rdOf ByteArray.empty t106 x25_2)] rfl (by (try simp only [List.map_toArray, List.map_cons, List.map_nil]); first | done | rfl | (simp only [List.length_drop, List.length_take]; rfl)) ?_; (with_reducible refine (spec_Fields.calls k2 (rdOf ByteArray.empty t106 x25_2) t113 _ A14.out).mono ?_); rintro e w16 ⟨v114, rfl, ho0, hb⟩; refine ⟨_, rfl, ?_⟩; have n0_ := Aside0.mk (Kd.S_elder' (by (with_reducible repeat (first | apply Kd.S_alloc | apply Kd.S_drewN | apply Kd.S_drew)); exact HO_5.out) (Kd.R_base ho0) hb); have n1_ := Aside0.mk (Kd.R_elder' (by (with_reducible repeat (first | apply Kd.R_alloc | apply Kd.R_drewN | apply Kd.R_drew)); exact HO_23.out) (Kd.R_base ho0) hb); have n2_ := Aside0.mk (Kd.R_lower (Kd.R_new' ho0 (Kd.R_lt (by (with_reducible repeat (first | apply Kd.R_alloc | apply Kd.R_drewN | apply Kd.R_drew)); exact HO_23.out))) (below_size belS)); have n3_ := Aside0.mk (blk_below (g := gb112) (o := .cells #[.string (⟨#[]⟩ : ByteArray), .slice none 0 0, .slice none 0 0] 48 (0, 0)) (by refine bY ?_; exact BK112.out) hb); have n4_ := Aside0.mk (below_step belS hb); clear HO_5; clear HO_23; clear BK112; clear HB; have HO_5 := n0_; have HO_23 := n1_; have HO115 := n2_; have BK112 := n3_; have HB := n4_; clear n0_ n1_ n2_ n3_ n4_; (try clear hb); (try clear hb2); (try clear hk); (try clear hi); (try clear ho0); obtain ⟨Ao17, co17, eo17⟩ := Kd.R_slice HO115.out; subst eo17))
          go_loopg [32] k2 (fun kq v32 w' => ∃ (x32_3 : Int) (x113001_3 : List Int) (u113001 : Value), v32 = .int .i64 x32_3 ∧ Aside0 (spec_ConntrackRead.l1 kq x5_2 t106 (t106.length : Int) x25_2 t113 (t113.length : Int) x32_3 (⟨#[]⟩ : ByteArray) x113001_3 = some (r1, r2, r3)) ∧ Aside0 (kq ≤ k2) ∧ Aside0 (Kd.S k48 48 w' w.heap.size (fun k_ => some k_ ≠ ((.slice (some ad111) t106.length co10) : Value).ownBlock ∧ some k_ ≠ ((.slice Ao17 t113.length co17) : Value).ownBlock ∧ some k_ ≠ (u113001 : Value).ownBlock ∧ k_ ≠ gb112) u5 x5_2) ∧ Aside0 (Kd.R Kd.string 9 w' w.heap.size (fun k_ => some k_ ≠ ((.slice Ao17 t113.length co17) : Value).ownBlock) (.slice (some ad111) t106.length co10) t106) ∧ Aside0 (Kd.R Kd.string 9 w' w.heap.size (fun k_ => some k_ ≠ ((.slice (some ad111) t106.length co10) : Value).ownBlock) (.slice Ao17 t113.length co17) t113) ∧ Aside0 (Kd.R (Kd.int .u64) 31 w' w.heap.size (fun _ => True) u113001 x113001_3) ∧ Aside0 (w'.heap[gb112]? = some (.cells #[.string (⟨#[]⟩ : ByteArray), u113001, (.slice none 0 0)] 48 (0, 0))) ∧ Aside0 (Below w.heap.size w w'))
          case atStart => exact ⟨(0), (([] : List Int)), (.slice none 0 0), (by first | rfl | (simp; done) | (simp [*]; done) | (simp [bne_nil]; done) | (simp [bne_nil, *]; done)), H', ⟨Nat.le_refl _⟩, ⟨by (with_reducible repeat (first | apply Kd.S_alloc | apply Kd.S_drewN | apply Kd.S_drew)); exact Kd.S_mono HO_5.out (fun _ hk => ⟨hk.1.1, ⟨hk.2, ⟨(by simp [Value.ownBlock]), hk.1.2⟩⟩⟩)⟩, ⟨by (with_reducible repeat (first | apply Kd.R_alloc | apply Kd.R_drewN | apply Kd.R_drew)); exact Kd.R_mono HO_23.out (fun _ hk => hk.2)⟩, ⟨by (with_reducible repeat (first | apply Kd.R_alloc | apply Kd.R_drewN | apply Kd.R_drew)); exact Kd.R_mono HO115.out (fun _ hk => hk.2)⟩, ⟨by first | exact Kd.R_nil _ _ _ _ _ | exact Kd.N_nil _ _ _ _ _ | exact Kd.V_nil _ _ _ _ _ | exact Kd.Q_nil _ _ _ _ _ | exact Kd.S_nil _ _ _ _ _⟩, ⟨by refine bY ?_; exact BK112.out⟩, ⟨by repeat (first | (with_reducible first | exact HB.out | apply below_alloc | apply pw_below_drewN | apply below_drew1 | refine below_set ?_ GE112.out) | exact HB.out)⟩⟩
          case round =>
           clear H'
           try clear c1
           try clear p1
           try clear q1
           try clear hx1
           try clear c2
           try clear p2
           try clear c3
           try clear c4
           try clear c5
           try clear c6
           try clear c7
           try clear c7b0
           try clear c7b1
           try clear c8
           try clear c11
           try clear c11b0
           try clear p11
           try clear q11
           try clear hx11
           try clear c12
           try clear c12b0
           try clear c13
           try clear c13b0
           try clear hx111_0
           try clear p111
           try clear p2
           try clear q111
           obtain ⟨x32_3, x113001_3, u113001, rfl, HA, HK3, HO_5, HO_23, HO_30, HO_113001, BK112, HB⟩ := hrel
           cases gk with
           | zero => exact absurd HA.out (by simp [spec_ConntrackRead.l1])
           | succ k3 =>
            have H := HA.out
            clear HA
            simp only [spec_ConntrackRead.l1] at H
            by_cases c18 : x32_3 < (t113.length : Int)
            ·rw [if_pos c18] at H
             have c18b0 : decide (x32_3 < (t113.length : Int)) = true := decide_eq_true c18
             clear c18
             by_cases c19 : 0 ≤ x32_3
             ·rw [if_pos c19] at H
              have c19b0 : decide (0 ≤ x32_3) = true := decide_eq_true c19
              clear c19
              by_cases c20 : x32_3 < (t113.length : Int)
              ·rw [if_pos c20] at H
               have c20b0 : decide (x32_3 < (t113.length : Int)) = true := decide_eq_true c20
               clear c20
               replace H := Option.bind_eq_some_iff.mp H
               obtain ⟨⟨t117, t118⟩, A210, H⟩ := H
               have A21 := Aside0.mk A210
               clear A210
               by_cases c22 : t118 = true
               ·subst c22
                have H1 : (if ((rdOf ByteArray.empty t113 x32_3).size : Int) = 8 then (if x113001_3.length < 17592186044416 then (spec_ConntrackRead.l1 k3 x5_2 t106 (t106.length : Int) x25_2 t113 (t113.length : Int) (wrap64 (x32_3 + 1)) (⟨#[]⟩ : ByteArray) (x113001_3 ++ [t117])) else (none)) else (some (([] : List (S48)), false, 2))) = some (r1, r2, r3) := by rw [if_pos rfl] at H; exact H
                clear H
                have H := H1
                clear H1
                by_cases c23 : ((rdOf ByteArray.empty t113 x32_3).size : Int) = 8
                ·rw [if_pos c23] at H
                 have c23b0 : (((rdOf ByteArray.empty t113 x32_3).size : Int) == 8) = true := beq_iff_eq.mpr c23
                 have c23b1 : (((rdOf ByteArray.empty t113 x32_3).size : Int) != 8) = false := bne_eq_false_iff_eq.mpr c23
                 clear c23
                 by_cases c24 : x113001_3.length < 17592186044416
                 ·rw [if_pos c24] at H
                  have LMc24 := Aside0.mk c24
                  clear c24
                  obtain ⟨y119, hy119⟩ : ∃ y_ : List Int, y_ = (x113001_3 ++ [t117]) := ⟨_, rfl⟩
                  replace H : (spec_ConntrackRead.l1 k3 x5_2 t106 (t106.length : Int) x25_2 t113 (t113.length : Int) (wrap64 (x32_3 + 1)) (⟨#[]⟩ : ByteArray) y119) = some (r1, r2, r3) := by first | (rw [hy119]; with_reducible exact H) | (have H2_ := (Option.bind_some _ _).symm.trans H; rw [hy119]; with_reducible exact H2_) | (have H2_ := (Option.bind_some _ _).symm.trans H; with_reducible exact H2_) | with_reducible exact H | (rw [hy119]; exact H) | exact H
                  have Ny119 := Aside0.mk hy119
                  clear hy119
                  have H' := Aside0.mk H
                  clear H
                  have p116 : 0 ≤ (x32_3 : Int) := of_decide_eq_true (by first | (with_reducible assumption) | assumption)
                  have q116 : x32_3 < (t113.length : Int) := of_decide_eq_true (by first | (with_reducible assumption) | assumption)
                  obtain ⟨ad116, e116, hx116_0⟩ := Kd.at_string (Kd.R_reads' HO_30.out).2.2 x32_3 p116 q116
                  cases e116
                  replace p116 := eq_true p116
                  replace q116 := eq_true q116
                  go_wp2_with (first | ((with_reducible refine gate_callee (f := 81) rfl ?_); refine goesL_ (some 38) rfl rfl Tryz.func81 (by kernel_rfl) rfl #[.string (rdOf ByteArray.empty t113 x32_3), .int .u64 16] rfl (by (try simp only [List.map_toArray, List.map_cons, List.map_nil]); first | done | rfl | (simp only [List.length_drop, List.length_take]; rfl)) ?_; (with_reducible refine (spec_Number.calls k3 (rdOf ByteArray.empty t113 x32_3) 16 t117 true _ A21.out).mono ?_); rintro e w' ⟨rfl, ⟨nd, rfl⟩⟩; refine ⟨_, rfl, ?_⟩; (try (rw [drewN_self wr]; generalize hq_ : World.drewN wr _ = wr; have n0_ : Aside0 (Kd.R (Kd.int .u64) 31 wr w.heap.size (fun _ => True) u113001 x113001_3) := ⟨by rw [← hq_]; exact (by (with_reducible repeat (first | apply Kd.R_alloc | apply Kd.R_drewN | apply Kd.R_drew)); exact HO_113001.out)⟩; have n1_ : Aside0 (Kd.R Kd.string 9 wr w.heap.size (fun k_ => some k_ ≠ (.slice (some ad116) t113.length co17 : Value).ownBlock) (.slice (some ad111) t106.length co10) t106) := ⟨by rw [← hq_]; exact (by (with_reducible repeat (first | apply Kd.R_alloc | apply Kd.R_drewN | apply Kd.R_drew)); exact HO_23.out)⟩; have n2_ : Aside0 (Kd.R Kd.string 9 wr w.heap.size (fun k_ => some k_ ≠ (.slice (some ad111) t106.length co10 : Value).ownBlock) (.slice (some ad116) t113.length co17) t113) := ⟨by rw [← hq_]; exact (by (with_reducible repeat (first | apply Kd.R_alloc | apply Kd.R_drewN | apply Kd.R_drew)); exact HO_30.out)⟩; have n3_ : Aside0 (Kd.S k48 48 wr w.heap.size (fun k_ => some k_ ≠ (u113001 : Value).ownBlock ∧ some k_ ≠ (.slice (some ad111) t106.length co10 : Value).ownBlock ∧ some k_ ≠ (.slice (some ad116) t113.length co17 : Value).ownBlock ∧ k_ ≠ gb112) u5 x5_2) := ⟨by rw [← hq_]; exact (by (with_reducible repeat (first | apply Kd.S_alloc | apply Kd.S_drewN | apply Kd.S_drew)); exact Kd.S_mono HO_5.out (fun _ hk => ⟨hk.2.2.1, ⟨hk.1, ⟨hk.2.1, hk.2.2.2⟩⟩⟩))⟩; have n4_ : Aside0 (wr.heap[gb112]? = some (.cells #[.string (⟨#[]⟩ : ByteArray), u113001, .slice none 0 0] 48 (0, 0))) := ⟨by rw [← hq_]; exact (by refine bY ?_; exact BK112.out)⟩; have n5_ : Aside0 (Below w.heap.size w wr) := ⟨by rw [← hq_]; exact belS⟩; clear HO_113001 HO_23 HO_30 HO_5 BK112 HB hq_; have HO_113001 := n0_; have HO_23 := n1_; have HO_30 := n2_; have HO_5 := n3_; have BK112 := n4_; have HB := n5_; clear n0_ n1_ n2_ n3_ n4_ n5_)); obtain ⟨hcz25_0, hcz25_1, hcz25_2, hfz25_0, hfz25_1, hfz25_2⟩ := rows3 (w := wr) BK112) | ((with_reducible refine gate_builtin (b := .append) (xs := #[.tmp 49, .tmp 51]) rfl ?_); (try (refine gate_guard (by rfl) ?_; dsimp only)); at_builtin; refine Kd.R_append (Kd.int .u64) (w0 := w) w.heap.size rfl (.tmp 49) (.tmp 51) 46 31 (.int .u64 0) 8 rfl Tryz.underlying46 info31 rfl (by decide) (by omega) u113001 x113001_3 t117 [.int .u64 t117] (fun _ => True) (fun _ => False) rfl rfl ?aP (fun _ hk => hk.elim) ?aF ?aO ?aB ?aS ?aL ?_; (case aP => exact rfl); (case aB => exact belS); (case aF => exact (fun _ _ => trivial)); (case aO => exact (by (with_reducible repeat (first | apply Kd.R_alloc | apply Kd.R_drewN | apply Kd.R_drew)); exact HO_113001.out)); (case aS => exact (below_size belS)); (case aL => have := LMc24.out; omega); intro v120 w26 ho hb hg hat; rw [← Ny119.out] at ho; have n0_ := Aside0.mk (Kd.S_after (ok := (fun k_ => some k_ ≠ (.slice (some ad111) t106.length co10 : Value).ownBlock ∧ some k_ ≠ (.slice (some ad116) t113.length co17 : Value).ownBlock ∧ k_ ≠ gb112)) (by (with_reducible repeat (first | apply Kd.S_alloc | apply Kd.S_drewN | apply Kd.S_drew)); exact Kd.S_mono HO_5.out (fun _ hk => by first | exact ⟨⟨hk.1, ⟨hk.2.1, hk.2.2.2⟩⟩, hk.2.2.1⟩ | exact ⟨⟨hk.2.1, ⟨hk.2.2.1, hk.2.2.2⟩⟩, hk.1⟩)) hg hat); have n1_ := Aside0.mk (Kd.R_over' (by (with_reducible repeat (first | apply Kd.R_alloc | apply Kd.R_drewN | apply Kd.R_drew)); exact HO_23.out) (Kd.R_typed (by (with_reducible repeat (first | apply Kd.R_alloc | apply Kd.R_drewN | apply Kd.R_drew)); exact HO_113001.out)) (by decide) hg); have n2_ := Aside0.mk (Kd.R_over' (by (with_reducible repeat (first | apply Kd.R_alloc | apply Kd.R_drewN | apply Kd.R_drew)); exact HO_30.out) (Kd.R_typed (by (with_reducible repeat (first | apply Kd.R_alloc | apply Kd.R_drewN | apply Kd.R_drew)); exact HO_113001.out)) (by decide) hg); have n3_ := Aside0.mk (blk_grown (g := gb112) (o := .cells #[.string (⟨#[]⟩ : ByteArray), u113001, .slice none 0 0] 48 (0, 0)) (by refine bY ?_; exact BK112.out) hg (Kd.R_ne HO_113001.out BK112.out (by decide))); have n4_ := Aside0.mk (hb); have n5_ := Aside0.mk (ho); clear HO_5; clear HO_23; clear HO_30; clear BK112; clear HB; clear HO_113001; have HO_5 := n0_; have HO_23 := n1_; have HO_30 := n2_; have BK112 := n3_; have HB := n4_; have HO121 := n5_; clear n0_ n1_ n2_ n3_ n4_ n5_; clear ho hb hg hat; obtain ⟨Ao27, co27, eo27⟩ := Kd.R_slice HO121.out; subst eo27; obtain ⟨hcz28_0, hcz28_1, hcz28_2, hfz28_0, hfz28_1, hfz28_2⟩ := rows3 (w := w26) BK112))
                  go_roundg k3
                  case measure => have := HJ1.out; have := HK2.out; have := HK3.out; omega
                  case rel => exact ⟨(wrap64 (x32_3 + 1)), (y119), (.slice Ao27 y119.length co27), (by first | rfl | (simp; done) | (simp [*]; done) | (simp [bne_nil]; done) | (simp [bne_nil, *]; done)), H', ⟨by have := HJ1.out; have := HK2.out; have := HK3.out; omega⟩, ⟨by (with_reducible repeat (first | apply Kd.S_alloc | apply Kd.S_drewN | apply Kd.S_drew)); exact Kd.S_mono (Kd.S_far (p := ⟨gb112, 1, none⟩) (Kd.S_mono HO_5.out (fun k_ hk => (⟨hk, hk.1.2.2⟩ : _ ∧ k_ ≠ gb112))) (fun _ hk => hk.2) (.slice Ao27 y119.length co27)) (fun _ hk => ⟨hk.1.1.1, ⟨hk.1.1.2.1, ⟨hk.1.2, hk.1.1.2.2⟩⟩⟩)⟩, ⟨by (with_reducible repeat (first | apply Kd.R_alloc | apply Kd.R_drewN | apply Kd.R_drew)); exact Kd.R_mono (Kd.R_far (p := ⟨gb112, 1, none⟩) (Kd.R_types HO_23.out BK112.out (by decide)) (fun _ hk => hk.2) (.slice Ao27 y119.length co27)) (fun _ hk => hk.1)⟩, ⟨by (with_reducible repeat (first | apply Kd.R_alloc | apply Kd.R_drewN | apply Kd.R_drew)); exact Kd.R_mono (Kd.R_far (p := ⟨gb112, 1, none⟩) (Kd.R_types HO_30.out BK112.out (by decide)) (fun _ hk => hk.2) (.slice Ao27 y119.length co27)) (fun _ hk => hk.1)⟩, ⟨by (with_reducible repeat (first | apply Kd.R_alloc | apply Kd.R_drewN | apply Kd.R_drew)); exact Kd.R_mono (Kd.R_far (p := ⟨gb112, 1, none⟩) (Kd.R_types HO121.out BK112.out (by decide)) (fun _ hk => hk.2) (.slice Ao27 y119.length co27)) (fun _ hk => trivial)⟩, ⟨by refine bY ?_; refine blk_put (cs := #[.string (⟨#[]⟩ : ByteArray), u113001, .slice none 0 0]) ?_ 1 _ rfl; refine bY ?_; exact BK112.out⟩, ⟨by repeat (first | (with_reducible first | exact HB.out | apply below_alloc | apply pw_below_drewN | apply below_drew1 | refine below_set ?_ GE112.out) | exact HB.out)⟩⟩
                 ·rw [if_neg c24] at H
                  exact absurd H (by simp)
                ·rw [if_neg c23] at H
                 have c23b0 : (((rdOf ByteArray.empty t113 x32_3).size : Int) == 8) = false := beq_eq_false_iff_ne.mpr c23
                 have c23b1 : (((rdOf ByteArray.empty t113 x32_3).size : Int) != 8) = true := bne_iff_ne.mpr c23
                 simp only [Option.some.injEq, Prod.mk.injEq] at H
                 obtain ⟨rfl, rfl, rfl⟩ := H
                 have p116 : 0 ≤ (x32_3 : Int) := of_decide_eq_true (by first | (with_reducible assumption) | assumption)
                 have q116 : x32_3 < (t113.length : Int) := of_decide_eq_true (by first | (with_reducible assumption) | assumption)
                 obtain ⟨ad116, e116, hx116_0⟩ := Kd.at_string (Kd.R_reads' HO_30.out).2.2 x32_3 p116 q116
                 cases e116
                 replace p116 := eq_true p116
                 replace q116 := eq_true q116
                 go_wp2_with (first | ((with_reducible refine gate_callee (f := 81) rfl ?_); refine goesL_ (some 38) rfl rfl Tryz.func81 (by kernel_rfl) rfl #[.string (rdOf ByteArray.empty t113 x32_3), .int .u64 16] rfl (by (try simp only [List.map_toArray, List.map_cons, List.map_nil]); first | done | rfl | (simp only [List.length_drop, List.length_take]; rfl)) ?_; (with_reducible refine (spec_Number.calls k3 (rdOf ByteArray.empty t113 x32_3) 16 t117 true _ A21.out).mono ?_); rintro e w' ⟨rfl, ⟨nd, rfl⟩⟩; refine ⟨_, rfl, ?_⟩))
                 go_ret3
                 exact ⟨_, by first | rfl | (simp [errW_none, errW_some] <;> rfl) | (simp [*, errW_none, errW_some] <;> rfl), by first | exact Kd.S_nil _ _ _ _ _ | exact Kd.N_nil _ _ _ _ _ | exact Kd.V_nil _ _ _ _ _ | exact Kd.Q_nil _ _ _ _ _ | exact Kd.R_nil _ _ _ _ _, by repeat (first | (with_reducible first | exact HB.out | apply below_alloc | apply pw_below_drewN | apply below_drew1 | refine below_set ?_ GE112.out) | exact HB.out)⟩
               ·replace c22 := Bool.eq_false_iff.mpr c22
                subst c22
                have H1 : (some (([] : List (S48)), false, 2)) = some (r1, r2, r3) := by rw [if_neg (show ¬ (false = true) by decide)] at H; exact H
                clear H
                have H := H1
                clear H1
                simp only [Option.some.injEq, Prod.mk.injEq] at H
                obtain ⟨rfl, rfl, rfl⟩ := H
                have p116 : 0 ≤ (x32_3 : Int) := of_decide_eq_true (by first | (with_reducible assumption) | assumption)
                have q116 : x32_3 < (t113.length : Int) := of_decide_eq_true (by first | (with_reducible assumption) | assumption)
                obtain ⟨ad116, e116, hx116_0⟩ := Kd.at_string (Kd.R_reads' HO_30.out).2.2 x32_3 p116 q116
                cases e116
                replace p116 := eq_true p116
                replace q116 := eq_true q116
                go_wp2_with (first | ((with_reducible refine gate_callee (f := 81) rfl ?_); refine goesL_ (some 38) rfl rfl Tryz.func81 (by kernel_rfl) rfl #[.string (rdOf ByteArray.empty t113 x32_3), .int .u64 16] rfl (by (try simp only [List.map_toArray, List.map_cons, List.map_nil]); first | done | rfl | (simp only [List.length_drop, List.length_take]; rfl)) ?_; (with_reducible refine (spec_Number.calls k3 (rdOf ByteArray.empty t113 x32_3) 16 t117 false _ A21.out).mono ?_); rintro e w' ⟨rfl, ⟨nd, rfl⟩⟩; refine ⟨_, rfl, ?_⟩))
                go_ret3
                exact ⟨_, by first | rfl | (simp [errW_none, errW_some] <;> rfl) | (simp [*, errW_none, errW_some] <;> rfl), by first | exact Kd.S_nil _ _ _ _ _ | exact Kd.N_nil _ _ _ _ _ | exact Kd.V_nil _ _ _ _ _ | exact Kd.Q_nil _ _ _ _ _ | exact Kd.R_nil _ _ _ _ _, by repeat (first | (with_reducible first | exact HB.out | apply below_alloc | apply pw_below_drewN | apply below_drew1 | refine below_set ?_ GE112.out) | exact HB.out)⟩
              ·rw [if_neg c20] at H
               exact absurd H (by simp)
             ·rw [if_neg c19] at H
              exact absurd H (by simp)
            ·rw [if_neg c18] at H
             have c18b0 : decide (x32_3 < (t113.length : Int)) = false := decide_eq_false c18
             clear c18
             by_cases c29 : x5_2.length < 2199023255552
             ·rw [if_pos c29] at H
              have LMc29 := Aside0.mk c29
              clear c29
              obtain ⟨y122, hy122⟩ : ∃ y_ : List (S48), y_ = (x5_2 ++ [(⟨(⟨#[]⟩ : ByteArray), x113001_3, ([] : List ByteArray)⟩ : S48)]) := ⟨_, rfl⟩
              replace H : (spec_ConntrackRead.l0 k3 y122 t106 (t106.length : Int) (wrap64 (x25_2 + 1))) = some (r1, r2, r3) := by first | (rw [hy122]; with_reducible exact H) | (have H2_ := (Option.bind_some _ _).symm.trans H; rw [hy122]; with_reducible exact H2_) | (have H2_ := (Option.bind_some _ _).symm.trans H; with_reducible exact H2_) | with_reducible exact H | (rw [hy122]; exact H) | exact H
              have Ny122 := Aside0.mk hy122
              clear hy122
              have H' := Aside0.mk H
              clear H
              obtain ⟨hcz30_0, hcz30_1, hcz30_2, hfz30_0, hfz30_1, hfz30_2⟩ := rows3 (w := wr) BK112
              obtain ⟨Ao32, co32, eo32⟩ := Kd.R_slice HO_113001.out
              subst eo32
              go_wp2_with (first | ((with_reducible refine gate_builtin (b := .append) (xs := #[.tmp 55, .tmp 57]) rfl ?_); (try (refine gate_guard (by rfl) ?_; dsimp only)); at_builtin; refine Kd.S_append k48 (w0 := w) w.heap.size rfl (.tmp 55) (.tmp 57) 27 48 (.agg #[(.string ⟨#[]⟩), (.slice none 0 0), (.slice none 0 0)]) 64 rfl Tryz.underlying27 info48 rfl (by decide) (by omega) u5 x5_2 (⟨(⟨#[]⟩ : ByteArray), x113001_3, ([] : List ByteArray)⟩ : S48) [.string (⟨#[]⟩ : ByteArray), .slice Ao32 x113001_3.length co32, .slice none 0 0] (fun k_ => some k_ ≠ (.slice (some ad111) t106.length co10 : Value).ownBlock ∧ some k_ ≠ (.slice Ao17 t113.length co17 : Value).ownBlock ∧ k_ ≠ gb112) (fun k_ => some k_ = (.slice Ao32 x113001_3.length co32 : Value).ownBlock) rfl rfl ?aP (fun k_ hk_ => ((Kd.R_mono (ok' := fun k_ => ((fun k_ => some k_ ≠ (.slice (some ad111) t106.length co10 : Value).ownBlock ∧ some k_ ≠ (.slice Ao17 t113.length co17 : Value).ownBlock ∧ k_ ≠ gb112)) k_ ∧ some k_ ≠ (u5 : Value).ownBlock) (Kd.R_types (Kd.R_apart' (Kd.R_apart' (Kd.R_apart' (HO_113001.out) (Kd.R_typed HO_23.out) (by decide)) (Kd.R_typed HO_30.out) (by decide)) (Kd.S_typed HO_5.out) (by decide)) BK112.out (by decide)) (fun k_ hk => ⟨⟨hk.1.1.1.2, ⟨hk.1.1.2, hk.2⟩⟩, hk.1.2⟩))).1 k_ hk_.symm) ?aF ?aO ?aB ?aS ?aL ?_; (case aP => exact k48_mkM _ _ _ (⟨(⟨#[]⟩ : ByteArray), x113001_3, ([] : List ByteArray)⟩ : S48) (Kd.R_mono (Kd.R_tight rfl (Kd.R_mono (ok' := fun k_ => ((fun k_ => some k_ ≠ (.slice (some ad111) t106.length co10 : Value).ownBlock ∧ some k_ ≠ (.slice Ao17 t113.length co17 : Value).ownBlock ∧ k_ ≠ gb112)) k_ ∧ some k_ ≠ (u5 : Value).ownBlock) (Kd.R_types (Kd.R_apart' (Kd.R_apart' (Kd.R_apart' (HO_113001.out) (Kd.R_typed HO_23.out) (by decide)) (Kd.R_typed HO_30.out) (by decide)) (Kd.S_typed HO_5.out) (by decide)) BK112.out (by decide)) (fun k_ hk => ⟨⟨hk.1.1.1.2, ⟨hk.1.1.2, hk.2⟩⟩, hk.1.2⟩))) (fun _ h_ => h_)) (Kd.R_nil _ _ _ _ _)); (case aB => exact belS); (case aF => exact (fun k_ hk => ⟨Kd.fresh' (Kd.R_lt (by (with_reducible repeat (first | apply Kd.R_alloc | apply Kd.R_drewN | apply Kd.R_drew)); exact HO_23.out)) k_ hk, Kd.fresh' (Kd.R_lt (by (with_reducible repeat (first | apply Kd.R_alloc | apply Kd.R_drewN | apply Kd.R_drew)); exact HO_30.out)) k_ hk, Kd.freshB (g := gb112) (o := .cells #[.string (⟨#[]⟩ : ByteArray), .slice Ao32 x113001_3.length co32, .slice none 0 0] 48 (0, 0)) (by refine bY ?_; exact BK112.out) k_ hk⟩)); (case aO => exact (by (with_reducible repeat (first | apply Kd.S_alloc | apply Kd.S_drewN | apply Kd.S_drew)); exact Kd.S_mono HO_5.out (fun k_ hk => ⟨⟨hk.1, ⟨hk.2.1, hk.2.2.2⟩⟩, fun e_ => hk.2.2.1 e_⟩))); (case aS => exact (below_size belS)); (case aL => have := LMc29.out; omega); intro v123 w31 ho hb hg hat; rw [← Ny122.out] at ho; have n0_ := Aside0.mk (Kd.R_over' (by (with_reducible repeat (first | apply Kd.R_alloc | apply Kd.R_drewN | apply Kd.R_drew)); exact HO_23.out) (Kd.S_typed (by (with_reducible repeat (first | apply Kd.S_alloc | apply Kd.S_drewN | apply Kd.S_drew)); exact HO_5.out)) (by decide) hg); have n1_ := Aside0.mk (Kd.R_over' (by (with_reducible repeat (first | apply Kd.R_alloc | apply Kd.R_drewN | apply Kd.R_drew)); exact HO_30.out) (Kd.S_typed (by (with_reducible repeat (first | apply Kd.S_alloc | apply Kd.S_drewN | apply Kd.S_drew)); exact HO_5.out)) (by decide) hg); have n2_ := Aside0.mk (blk_grown (g := gb112) (o := .cells #[.string (⟨#[]⟩ : ByteArray), .slice Ao32 x113001_3.length co32, .slice none 0 0] 48 (0, 0)) (by refine bY ?_; exact BK112.out) hg (Kd.S_away HO_5.out (fun _ hk => hk.2.2.2))); have n3_ := Aside0.mk (hb); have n4_ := Aside0.mk (ho); clear HO_23; clear HO_30; clear BK112; clear HB; clear HO_5; clear HO_113001; have HO_23 := n0_; have HO_30 := n1_; have BK112 := n2_; have HB := n3_; have HO124 := n4_; clear n0_ n1_ n2_ n3_ n4_; clear ho hb hg hat))
              go_roundg k3
              case measure => have := HJ1.out; have := HK2.out; have := HK3.out; omega
              case rel => exact ⟨(y122), (wrap64 (x25_2 + 1)), (by first | rfl | (simp; done) | (simp [*]; done) | (simp [bne_nil]; done) | (simp [bne_nil, *]; done)), H', ⟨by have := HJ1.out; have := HK2.out; have := HK3.out; omega⟩, ⟨by (with_reducible repeat (first | apply Kd.S_alloc | apply Kd.S_drewN | apply Kd.S_drew)); exact Kd.S_mono HO124.out (fun _ hk => hk.1)⟩, ⟨by (with_reducible repeat (first | apply Kd.R_alloc | apply Kd.R_drewN | apply Kd.R_drew)); exact Kd.R_mono HO_23.out (fun _ hk => trivial)⟩, ⟨by repeat (first | (with_reducible first | exact HB.out | apply below_alloc | apply pw_below_drewN | apply below_drew1 | refine below_set ?_ GE112.out) | exact HB.out)⟩⟩
             ·rw [if_neg c29] at H
              exact absurd H (by simp)
         ·rw [if_neg c13] at H
          exact absurd H (by simp)
        ·rw [if_neg c12] at H
         exact absurd H (by simp)
       ·rw [if_neg c11] at H
        have c11b0 : decide (x25_2 < (t106.length : Int)) = false := decide_eq_false c11
        clear c11
        replace H := Option.bind_eq_some_iff.mp H
        obtain ⟨t109, A330, H⟩ := H
        have A33 := Aside0.mk A330
        clear A330
        replace H := Option.bind_eq_some_iff.mp H
        obtain ⟨t110, A340, H⟩ := H
        have A34 := Aside0.mk A340
        clear A340
        simp only [Option.some.injEq, Prod.mk.injEq] at H
        obtain ⟨rfl, rfl, rfl⟩ := H
        obtain ⟨Ao35, co35, eo35⟩ := Kd.S_slice HO_5.out
        subst eo35
        go_wp2_with (first | ((with_reducible refine gate_callee (f := 83) rfl ?_); refine goesL_ (some 62) rfl rfl Tryz.func83 (by kernel_rfl) rfl #[.slice Ao35 x5_2.length co35] rfl (by (try simp only [List.map_toArray, List.map_cons, List.map_nil]); first | done | rfl | (simp only [List.length_drop, List.length_take]; rfl)) ?_; (with_reducible refine (spec_conntrackFine.calls k2 _ _ x5_2 t109 _ ?side1 ?side2 A33.out).mono ?_); (case side1 => repeat (first | exact (Kd.S_reads' HO_5.out).2.2 | (with_reducible refine Kd.C_alloc ?_ _) | (with_reducible refine Kd.C_drewN ?_ _) | (with_reducible refine Kd.C_drew ?_))); (case side2 => exact (Kd.S_reads' HO_5.out).2.1); rintro e w36 ⟨rfl, hb⟩; refine ⟨_, rfl, ?_⟩; have n0_ := Aside0.mk (Kd.S_below (by (with_reducible repeat (first | apply Kd.S_alloc | apply Kd.S_drewN | apply Kd.S_drew)); exact HO_5.out) hb); have n1_ := Aside0.mk (Kd.R_below (by (with_reducible repeat (first | apply Kd.R_alloc | apply Kd.R_drewN | apply Kd.R_drew)); exact HO_23.out) hb); have n2_ := Aside0.mk (below_step belH hb); clear HO_5; clear HO_23; clear HB; have HO_5 := n0_; have HO_23 := n1_; have HB := n2_; clear n0_ n1_ n2_; (try clear hb); (try clear hb2); (try clear hk); (try clear hi)) | ((with_reducible refine gate_callee (f := 82) rfl ?_); refine goesL_ (some 63) rfl rfl Tryz.func82 (by kernel_rfl) rfl #[.bool t109] rfl (by (try simp only [List.map_toArray, List.map_cons, List.map_nil]); first | done | rfl | (simp only [List.length_drop, List.length_take]; rfl)) ?_; (with_reducible refine (spec_told.calls t109 t110 _ A34.out).mono ?_); rintro e w' ⟨rfl, ⟨nd, rfl⟩⟩; refine ⟨_, rfl, ?_⟩))
        go_ret3
        exact ⟨_, by first | rfl | (simp [errW_none, errW_some] <;> rfl) | (simp [*, errW_none, errW_some] <;> rfl), by (with_reducible repeat (first | apply Kd.S_alloc | apply Kd.S_drewN | apply Kd.S_drew)); exact Kd.S_mono HO_5.out (fun _ hk => trivial), by repeat (first | (with_reducible first | exact HB.out | apply below_alloc | apply pw_below_drewN | apply below_drew1) | exact HB.out)⟩
    ·rw [if_neg c7] at H
     exact absurd H (by simp)

end Go.Proofs.YtdmpbaanonafbaaGreatDoor.J
