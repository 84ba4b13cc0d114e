-- written by a program of this session (wip/tools/pp.py)
import Derived.Test.YtdmpbaanonafbaaGreatDoorJ0
import Derived.Test.YtdmpbaanonafbaaGreatDoorJ1
namespace Go.Proofs.YtdmpbaanonafbaaGreatDoor.J
open Go.RowKit Go.Proofs.YtdmpbaanonafbaaGreatDoorW.PrintWords Go.Proofs.YtdmpbaanonafbaaGreatDoorW.PrintLast Go.Proofs.YtdmpbaanonafbaaGreatDoor.Flt Go.Proofs.YtdmpbaanonafbaaGreatDoor.GivZ Go.Proofs.YtdmpbaanonafbaaGreatDoor.E Go.Proofs.YtdmpbaanonafbaaGreatDoor.L Go.Proofs.YtdmpbaanonafbaaGreatDoor.V Go.Proofs.YtdmpbaanonafbaaGreatDoor.DoorCt Go.Proofs.YtdmpbaanonafbaaGreatDoor.Lives Go.Proofs.YtdmpbaanonafbaaGreatDoor.R Go.Proofs.YtdmpbaanonafbaaGreatDoorW.PrintMore
attribute [local go_sem] max2_int min2_int max_two min_two max_three min_three max_four min_four   -- for this text's walks alone
set_option linter.unusedVariables false
set_option linter.unusedSimpArgs false
theorem sz1_ (c : UInt8) : (⟨#[c]⟩ : ByteArray).size = 1 := rfl

/-! ### spec_ConntrackPrint: function 25 -/
mutual
def spec_ConntrackPrint.l0 : Nat → ByteArray → List (S48) → Int → Int → Option (ByteArray × Int)
 | 0, _, _, _, _ => none
 | k + 1, x4, x12, x13, x14 => if x14 < x13 then (if 0 ≤ x14 then (if x14 < (x12.length : Int) then (spec_ConntrackPrint.l1 k x4 x12 x13 x14 ((rd_T48 x12 x14).f1) (((rd_T48 x12 x14).f1).length : Int) 0) else (none)) else (none)) else (some (x4, 1))
def spec_ConntrackPrint.l1 : Nat → ByteArray → List (S48) → Int → Int → List Int → Int → Int → Option (ByteArray × Int)
 | 0, _, _, _, _, _, _, _ => none
 | k + 1, x4, x12, x13, x14, x19, x20, x21 => if x21 < x20 then (if 0 ≤ x21 then (if x21 < (x19.length : Int) then (if x21 > 0 then (if x4.size + 1 ≤ 9223372036854775807 then (if x21 = 1 then (if (x4 ++ (⟨#[32]⟩ : ByteArray)).size + 1 ≤ 9223372036854775807 then ((spec_Padded.f k (rd x19 x21) 16 8).bind fun t129 => (if ((x4 ++ (⟨#[32]⟩ : ByteArray)) ++ (⟨#[32]⟩ : ByteArray)).size + t129.size ≤ 9223372036854775807 then (spec_ConntrackPrint.l1 k (((x4 ++ (⟨#[32]⟩ : ByteArray)) ++ (⟨#[32]⟩ : ByteArray)) ++ t129) x12 x13 x14 x19 x20 (wrap64 (x21 + 1))) else (none))) else (none)) else (if x21 = 13 then (if (x4 ++ (⟨#[32]⟩ : ByteArray)).size + 1 ≤ 9223372036854775807 then ((spec_Padded.f k (rd x19 x21) 16 8).bind fun t130 => (if ((x4 ++ (⟨#[32]⟩ : ByteArray)) ++ (⟨#[32]⟩ : ByteArray)).size + t130.size ≤ 9223372036854775807 then (spec_ConntrackPrint.l1 k (((x4 ++ (⟨#[32]⟩ : ByteArray)) ++ (⟨#[32]⟩ : ByteArray)) ++ t130) x12 x13 x14 x19 x20 (wrap64 (x21 + 1))) else (none))) else (none)) else ((spec_Padded.f k (rd x19 x21) 16 8).bind fun t131 => (if (x4 ++ (⟨#[32]⟩ : ByteArray)).size + t131.size ≤ 9223372036854775807 then (spec_ConntrackPrint.l1 k ((x4 ++ (⟨#[32]⟩ : ByteArray)) ++ t131) x12 x13 x14 x19 x20 (wrap64 (x21 + 1))) else (none))))) else (none)) else (if x21 = 1 then (if x4.size + 1 ≤ 9223372036854775807 then ((spec_Padded.f k (rd x19 x21) 16 8).bind fun t132 => (if (x4 ++ (⟨#[32]⟩ : ByteArray)).size + t132.size ≤ 9223372036854775807 then (spec_ConntrackPrint.l1 k ((x4 ++ (⟨#[32]⟩ : ByteArray)) ++ t132) x12 x13 x14 x19 x20 (wrap64 (x21 + 1))) else (none))) else (none)) else (if x21 = 13 then (if x4.size + 1 ≤ 9223372036854775807 then ((spec_Padded.f k (rd x19 x21) 16 8).bind fun t133 => (if (x4 ++ (⟨#[32]⟩ : ByteArray)).size + t133.size ≤ 9223372036854775807 then (spec_ConntrackPrint.l1 k ((x4 ++ (⟨#[32]⟩ : ByteArray)) ++ t133) x12 x13 x14 x19 x20 (wrap64 (x21 + 1))) else (none))) else (none)) else ((spec_Padded.f k (rd x19 x21) 16 8).bind fun t134 => (if x4.size + t134.size ≤ 9223372036854775807 then (spec_ConntrackPrint.l1 k (x4 ++ t134) x12 x13 x14 x19 x20 (wrap64 (x21 + 1))) else (none)))))) else (none)) else (none)) else (if x4.size + 1 ≤ 9223372036854775807 then (spec_ConntrackPrint.l0 k (x4 ++ (⟨#[10]⟩ : ByteArray)) x12 x13 (wrap64 (x14 + 1))) else (none))
end
def spec_ConntrackPrint.f (k : Nat) (l0 : List (S48)) : Option (ByteArray × Int) := (spec_conntrackFine.f k l0).bind fun t125 => (if t125 = true then (spec_ConntrackPrint.l0 k (⟨#[101, 110, 116, 114, 105, 101, 115, 32, 32, 115, 101, 97, 114, 99, 104, 101, 100, 32, 102, 111, 117, 110, 100, 32, 110, 101, 119, 32, 105, 110, 118, 97, 108, 105, 100, 32, 105, 103, 110, 111, 114, 101, 32, 100, 101, 108, 101, 116, 101, 32, 100, 101, 108, 101, 116, 101, 95, 108, 105, 115, 116, 32, 105, 110, 115, 101, 114, 116, 32, 105, 110, 115, 101, 114, 116, 95, 102, 97, 105, 108, 101, 100, 32, 100, 114, 111, 112, 32, 101, 97, 114, 108, 121, 95, 100, 114, 111, 112, 32, 105, 99, 109, 112, 95, 101, 114, 114, 111, 114, 32, 32, 101, 120, 112, 101, 99, 116, 95, 110, 101, 119, 32, 101, 120, 112, 101, 99, 116, 95, 99, 114, 101, 97, 116, 101, 32, 101, 120, 112, 101, 99, 116, 95, 100, 101, 108, 101, 116, 101, 32, 115, 101, 97, 114, 99, 104, 95, 114, 101, 115, 116, 97, 114, 116, 10]⟩ : ByteArray) l0 (l0.length : Int) 0) else (some ((⟨#[]⟩ : ByteArray), 2)))
theorem spec_ConntrackPrint.mono_l : ∀ k, (∀ y0 y1 y2 y3, LeO (spec_ConntrackPrint.l0 k y0 y1 y2 y3) (spec_ConntrackPrint.l0 (k + 1) y0 y1 y2 y3)) ∧ (∀ y0 y1 y2 y3 y4 y5 y6, LeO (spec_ConntrackPrint.l1 k y0 y1 y2 y3 y4 y5 y6) (spec_ConntrackPrint.l1 (k + 1) y0 y1 y2 y3 y4 y5 y6))
 | 0 => ⟨fun _ _ _ _ r h => by simp [spec_ConntrackPrint.l0] at h, fun _ _ _ _ _ _ _ r h => by simp [spec_ConntrackPrint.l1] at h⟩
 | k + 1 => by
  obtain ⟨ih0, ih1⟩ := spec_ConntrackPrint.mono_l k
  refine ⟨?_, ?_⟩
  ·intro y0 y1 y2 y3
   unfold spec_ConntrackPrint.l0
   repeat' first
   | (with_reducible exact ih0 _ _ _ _)
   | (with_reducible exact ih1 _ _ _ _ _ _ _)
   | (with_reducible exact spec_Padded.mono _ _ _ _)
   | (with_reducible exact spec_conntrackFine.mono _ _)
   | (with_reducible exact LeO.refl _)
   | (with_reducible exact LeO.none _)
   | (with_reducible refine LeO.ite ?_ ?_)
   | (with_reducible refine LeO.bind ?_ (fun _ => ?_))
   | exact ih0 _ _ _ _
   | exact ih1 _ _ _ _ _ _ _
   | exact spec_Padded.mono _ _ _ _
   | exact spec_conntrackFine.mono _ _
   | exact LeO.none _
   | refine LeO.ite ?_ ?_
   | refine LeO.bind ?_ (fun _ => ?_)
  ·intro y0 y1 y2 y3 y4 y5 y6
   unfold spec_ConntrackPrint.l1
   repeat' first
   | (with_reducible exact ih0 _ _ _ _)
   | (with_reducible exact ih1 _ _ _ _ _ _ _)
   | (with_reducible exact spec_Padded.mono _ _ _ _)
   | (with_reducible exact spec_conntrackFine.mono _ _)
   | (with_reducible exact LeO.refl _)
   | (with_reducible exact LeO.none _)
   | (with_reducible refine LeO.ite ?_ ?_)
   | (with_reducible refine LeO.bind ?_ (fun _ => ?_))
   | exact ih0 _ _ _ _
   | exact ih1 _ _ _ _ _ _ _
   | exact spec_Padded.mono _ _ _ _
   | exact spec_conntrackFine.mono _ _
   | exact LeO.none _
   | refine LeO.ite ?_ ?_
   | refine LeO.bind ?_ (fun _ => ?_)
theorem spec_ConntrackPrint.mono : ∀ a0 k, LeO (spec_ConntrackPrint.f k a0) (spec_ConntrackPrint.f (k + 1) a0) := by
 intro a0 k
 obtain ⟨ih0, ih1⟩ := spec_ConntrackPrint.mono_l k
 unfold spec_ConntrackPrint.f
 repeat' first
   | (with_reducible exact ih0 _ _ _ _)
   | (with_reducible exact ih1 _ _ _ _ _ _ _)
   | (with_reducible exact spec_Padded.mono _ _ _ _)
   | (with_reducible exact spec_conntrackFine.mono _ _)
   | (with_reducible exact LeO.refl _)
   | (with_reducible exact LeO.none _)
   | (with_reducible refine LeO.ite ?_ ?_)
   | (with_reducible refine LeO.bind ?_ (fun _ => ?_))
   | exact ih0 _ _ _ _
   | exact ih1 _ _ _ _ _ _ _
   | exact spec_Padded.mono _ _ _ _
   | exact spec_conntrackFine.mono _ _
   | exact LeO.none _
   | refine LeO.ite ?_ ?_
   | refine LeO.bind ?_ (fun _ => ?_)
set_option maxHeartbeats 8000000 in
set_option maxRecDepth 100000 in
theorem spec_ConntrackPrint.calls (k : Nat) (A0 : Option Addr) (c0 : Nat) (l0 : List (S48)) (r1 : ByteArray) (r2 : Int) (w : World) (hr0 : Kd.C k48 w A0 l0.length l0) (hc0 : l0.length ≤ c0) (h : spec_ConntrackPrint.f k l0 = some (r1, r2)) :
  Calls Tryz.prog 25 #[.slice A0 l0.length c0] w fun e w' => e = .returned (.tuple #[.string r1, .int .i64 r2]) ∧ Below w.heap.size w w' := by
 have hu48 := Tryz.underlying48
 have HR0 := Aside0.mk hr0
 have HC0 := Aside0.mk hc0
 clear hr0 hc0
 have HB := Aside0.mk (Below.refl w.heap.size w)
 have H : ((spec_conntrackFine.f k l0).bind fun t125 => (if t125 = true then (spec_ConntrackPrint.l0 k (⟨#[101, 110, 116, 114, 105, 101, 115, 32, 32, 115, 101, 97, 114, 99, 104, 101, 100, 32, 102, 111, 117, 110, 100, 32, 110, 101, 119, 32, 105, 110, 118, 97, 108, 105, 100, 32, 105, 103, 110, 111, 114, 101, 32, 100, 101, 108, 101, 116, 101, 32, 100, 101, 108, 101, 116, 101, 95, 108, 105, 115, 116, 32, 105, 110, 115, 101, 114, 116, 32, 105, 110, 115, 101, 114, 116, 95, 102, 97, 105, 108, 101, 100, 32, 100, 114, 111, 112, 32, 101, 97, 114, 108, 121, 95, 100, 114, 111, 112, 32, 105, 99, 109, 112, 95, 101, 114, 114, 111, 114, 32, 32, 101, 120, 112, 101, 99, 116, 95, 110, 101, 119, 32, 101, 120, 112, 101, 99, 116, 95, 99, 114, 101, 97, 116, 101, 32, 101, 120, 112, 101, 99, 116, 95, 100, 101, 108, 101, 116, 101, 32, 115, 101, 97, 114, 99, 104, 95, 114, 101, 115, 116, 97, 114, 116, 10]⟩ : ByteArray) l0 (l0.length : Int) 0) else (some ((⟨#[]⟩ : ByteArray), 2)))) = some (r1, r2) := h
 clear h
 replace H := Option.bind_eq_some_iff.mp H
 obtain ⟨t125, A20, H⟩ := H
 have A2 := Aside0.mk A20
 clear A20
 by_cases c3 : t125 = true
 ·subst c3
  have H1 : (spec_ConntrackPrint.l0 k (⟨#[101, 110, 116, 114, 105, 101, 115, 32, 32, 115, 101, 97, 114, 99, 104, 101, 100, 32, 102, 111, 117, 110, 100, 32, 110, 101, 119, 32, 105, 110, 118, 97, 108, 105, 100, 32, 105, 103, 110, 111, 114, 101, 32, 100, 101, 108, 101, 116, 101, 32, 100, 101, 108, 101, 116, 101, 95, 108, 105, 115, 116, 32, 105, 110, 115, 101, 114, 116, 32, 105, 110, 115, 101, 114, 116, 95, 102, 97, 105, 108, 101, 100, 32, 100, 114, 111, 112, 32, 101, 97, 114, 108, 121, 95, 100, 114, 111, 112, 32, 105, 99, 109, 112, 95, 101, 114, 114, 111, 114, 32, 32, 101, 120, 112, 101, 99, 116, 95, 110, 101, 119, 32, 101, 120, 112, 101, 99, 116, 95, 99, 114, 101, 97, 116, 101, 32, 101, 120, 112, 101, 99, 116, 95, 100, 101, 108, 101, 116, 101, 32, 115, 101, 97, 114, 99, 104, 95, 114, 101, 115, 116, 97, 114, 116, 10]⟩ : ByteArray) l0 (l0.length : Int) 0) = some (r1, r2) := by rw [if_pos rfl] at H; exact H
  clear H
  have H := H1
  clear H1
  have H' := Aside0.mk H
  clear H
  go_enter Tryz.func25, Tryz.ntmps25
  go_wp2_with (first | ((with_reducible refine gate_callee (f := 83) rfl ?_); refine goesL_ (some 10) rfl rfl Tryz.func83 (by kernel_rfl) rfl #[.slice A0 l0.length c0] rfl (by (try simp only [List.map_toArray, List.map_cons, List.map_nil]); first | done | rfl | (simp only [List.length_drop, List.length_take]; rfl)) ?_; (with_reducible refine (spec_conntrackFine.calls k _ _ l0 true _ ?side1 ?side2 A2.out).mono ?_); (case side1 => repeat (first | exact HR0.out | (with_reducible refine Kd.C_alloc ?_ _) | (with_reducible refine Kd.C_drewN ?_ _) | (with_reducible refine Kd.C_drew ?_))); (case side2 => exact HC0.out); rintro e w4 ⟨rfl, hb⟩; refine ⟨_, rfl, ?_⟩; have n0_ := Aside0.mk (below_step belH hb); clear HB; have HB := n0_; clear n0_; (try clear hb); (try clear hb2); (try clear hk); (try clear hi)))
  go_loopg [4, 14] k (fun kq v4 v14 w' => ∃ (x4_1 : ByteArray) (x14_1 : Int), v4 = .string x4_1 ∧ v14 = .int .i64 x14_1 ∧ Aside0 (spec_ConntrackPrint.l0 kq x4_1 l0 (l0.length : Int) x14_1 = some (r1, r2)) ∧ Aside0 (kq ≤ k) ∧ Aside0 (Below w.heap.size w w'))
  case atStart => exact ⟨((⟨#[101, 110, 116, 114, 105, 101, 115, 32, 32, 115, 101, 97, 114, 99, 104, 101, 100, 32, 102, 111, 117, 110, 100, 32, 110, 101, 119, 32, 105, 110, 118, 97, 108, 105, 100, 32, 105, 103, 110, 111, 114, 101, 32, 100, 101, 108, 101, 116, 101, 32, 100, 101, 108, 101, 116, 101, 95, 108, 105, 115, 116, 32, 105, 110, 115, 101, 114, 116, 32, 105, 110, 115, 101, 114, 116, 95, 102, 97, 105, 108, 101, 100, 32, 100, 114, 111, 112, 32, 101, 97, 114, 108, 121, 95, 100, 114, 111, 112, 32, 105, 99, 109, 112, 95, 101, 114, 114, 111, 114, 32, 32, 101, 120, 112, 101, 99, 116, 95, 110, 101, 119, 32, 101, 120, 112, 101, 99, 116, 95, 99, 114, 101, 97, 116, 101, 32, 101, 120, 112, 101, 99, 116, 95, 100, 101, 108, 101, 116, 101, 32, 115, 101, 97, 114, 99, 104, 95, 114, 101, 115, 116, 97, 114, 116, 10]⟩ : ByteArray)), (0), (by first | rfl | (simp; done) | (simp [*]; done) | (simp [bne_nil]; done) | (simp [bne_nil, *]; done)), (by first | rfl | (simp; done) | (simp [*]; done) | (simp [bne_nil]; done) | (simp [bne_nil, *]; done)), H', ⟨Nat.le_refl _⟩, ⟨by repeat (first | (with_reducible first | exact HB.out | apply below_alloc | apply pw_below_drewN | apply below_drew1) | exact HB.out)⟩⟩
  case round =>
   clear H'
   try clear c2
   try clear p2
   try clear c3
   obtain ⟨x4_1, x14_1, rfl, rfl, HA, HK1, HB⟩ := hrel
   cases gk with
   | zero => exact absurd HA.out (by simp [spec_ConntrackPrint.l0])
   | succ k1 =>
    have H := HA.out
    clear HA
    simp only [spec_ConntrackPrint.l0] at H
    by_cases c5 : x14_1 < (l0.length : Int)
    ·rw [if_pos c5] at H
     have c5b0 : decide (x14_1 < (l0.length : Int)) = true := decide_eq_true c5
     clear c5
     by_cases c6 : 0 ≤ x14_1
     ·rw [if_pos c6] at H
      have c6b0 : decide (0 ≤ x14_1) = true := decide_eq_true c6
      clear c6
      by_cases c7 : x14_1 < (l0.length : Int)
      ·rw [if_pos c7] at H
       have c7b0 : decide (x14_1 < (l0.length : Int)) = true := decide_eq_true c7
       clear c7
       have H' := Aside0.mk H
       clear H
       have p126 : 0 ≤ (x14_1 : Int) := of_decide_eq_true (by first | (with_reducible assumption) | assumption)
       have q126 : x14_1 < (l0.length : Int) := of_decide_eq_true (by first | (with_reducible assumption) | assumption)
       obtain ⟨ad126, A126_1, c126_1, A126_2, c126_2, e126, hx126_0, hx126_1, hx126_2, hl126_1, hi126_1, hl126_2, hi126_2⟩ := at_T48 HR0.out x14_1 p126 q126
       cases e126
       replace hx126_0 := (HB.out.cell (World.block_lt_of_cell? w _ hx126_0)).trans hx126_0
       replace hx126_1 := (HB.out.cell (World.block_lt_of_cell? w _ hx126_1)).trans hx126_1
       replace hx126_2 := (HB.out.cell (World.block_lt_of_cell? w _ hx126_2)).trans hx126_2
       have HR126_1 := Aside0.mk hi126_1
       have HC126_1 := Aside0.mk hl126_1
       clear hi126_1 hl126_1
       have HR126_2 := Aside0.mk hi126_2
       have HC126_2 := Aside0.mk hl126_2
       clear hi126_2 hl126_2
       replace p126 := eq_true p126
       replace q126 := eq_true q126
       go_wp2_with (first | ((with_reducible refine gate_dst (N := 6) rfl ?_); refine box_event ?hg (N := 6) ?hd (cs := #[.string (⟨#[]⟩ : ByteArray), .slice none 0 0, .slice none 0 0]) (t := 48) ?hr ?_; (case hd => rfl); (case hg => rfl); (case hr => first | (go_simp; done) | (go_simp; rfl)); intro gb127 hg w8 hbox hb; have n0_ := Aside0.mk (below_step belH hb); have n1_ := Aside0.mk (hbox); have n2_ := Aside0.mk ((by rw [hg]; exact (below_size belH) : w.heap.size ≤ gb127)); have n3_ := Aside0.mk ((by rw [hg]; exact (below_size belH) : w.heap.size ≤ gb127)); clear HB; have HB := n0_; have BK127 := n1_; have GW127 := n2_; have GE127 := n3_; clear n0_ n1_ n2_ n3_; clear hb hbox hg; obtain ⟨hcz9_0, hcz9_1, hcz9_2, hfz9_0, hfz9_1, hfz9_2⟩ := rows3 (w := w8) BK127))
       go_loopg [4, 21] k1 (fun kq v4 v21 w' => ∃ (x4_2 : ByteArray) (x21_2 : Int), v4 = .string x4_2 ∧ v21 = .int .i64 x21_2 ∧ Aside0 (spec_ConntrackPrint.l1 kq x4_2 l0 (l0.length : Int) x14_1 ((rd_T48 l0 x14_1).f1) (((rd_T48 l0 x14_1).f1).length : Int) x21_2 = some (r1, r2)) ∧ Aside0 (kq ≤ k1) ∧ Aside0 (w'.heap[gb127]? = some (.cells #[.string ((rd_T48 l0 x14_1).f0), (.slice A126_1 ((rd_T48 l0 x14_1).f1).length c126_1), (.slice A126_2 ((rd_T48 l0 x14_1).f2).length c126_2)] 48 (0, 0))) ∧ Aside0 (Below w.heap.size w w'))
       case atStart => exact ⟨(x4_1), (0), (by first | rfl | (simp; done) | (simp [*]; done) | (simp [bne_nil]; done) | (simp [bne_nil, *]; done)), (by first | rfl | (simp; done) | (simp [*]; done) | (simp [bne_nil]; done) | (simp [bne_nil, *]; done)), H', ⟨Nat.le_refl _⟩, ⟨by refine bY ?_; refine blk_put (cs := #[.string ((rd_T48 l0 x14_1).f0), .slice A126_1 ((rd_T48 l0 x14_1).f1).length c126_1, .slice none 0 0]) ?_ 2 _ rfl; refine bY ?_; refine blk_put (cs := #[.string ((rd_T48 l0 x14_1).f0), .slice none 0 0, .slice none 0 0]) ?_ 1 _ rfl; refine bY ?_; refine blk_put (cs := #[.string (⟨#[]⟩ : ByteArray), .slice none 0 0, .slice none 0 0]) ?_ 0 _ rfl; refine bY ?_; exact BK127.out⟩, ⟨by repeat (first | (with_reducible first | exact HB.out | apply below_alloc | apply pw_below_drewN | apply below_drew1 | refine below_set ?_ GE127.out) | exact HB.out)⟩⟩
       case round =>
        clear H'
        try clear c1
        try clear p1
        try clear q1
        try clear hx1
        try clear c2
        try clear p2
        try clear c3
        try clear c5
        try clear c5b0
        try clear c6
        try clear c6b0
        try clear c7
        try clear c7b0
        try clear c8
        try clear hcz9_0
        try clear hcz9_1
        try clear hcz9_2
        try clear hfz9_0
        try clear hfz9_1
        try clear hfz9_2
        try clear hx126_0
        try clear hx126_1
        try clear hx126_2
        try clear p126
        try clear p2
        try clear q126
        obtain ⟨x4_2, x21_2, rfl, rfl, HA, HK2, BK127, HB⟩ := hrel
        cases gk with
        | zero => exact absurd HA.out (by simp [spec_ConntrackPrint.l1])
        | succ k2 =>
         have H := HA.out
         clear HA
         simp only [spec_ConntrackPrint.l1] at H
         by_cases c10 : x21_2 < (((rd_T48 l0 x14_1).f1).length : Int)
         ·rw [if_pos c10] at H
          have c10b0 : decide (x21_2 < (((rd_T48 l0 x14_1).f1).length : Int)) = true := decide_eq_true c10
          clear c10
          by_cases c11 : 0 ≤ x21_2
          ·rw [if_pos c11] at H
           have c11b0 : decide (0 ≤ x21_2) = true := decide_eq_true c11
           clear c11
           by_cases c12 : x21_2 < (((rd_T48 l0 x14_1).f1).length : Int)
           ·rw [if_pos c12] at H
            have c12b0 : decide (x21_2 < (((rd_T48 l0 x14_1).f1).length : Int)) = true := decide_eq_true c12
            clear c12
            by_cases c13 : x21_2 > 0
            ·rw [if_pos c13] at H
             have c13b0 : decide (0 < x21_2) = true := decide_eq_true c13
             clear c13
             by_cases c14 : x4_2.size + 1 ≤ 9223372036854775807
             ·rw [if_pos c14] at H
              have c14b0 := eq_true c14
              have c14z := c14
              (try simp only [ByteArray.size_append, sz1_] at c14z)
              try have c14b3 := eq_false (Nat.not_lt.2 c14z)
              have c14b1 : decide (x4_2.size + 1 ≤ 9223372036854775807) = true := decide_eq_true c14
              try have c14b2 : (9223372036854775807 < x4_2.size + 1) = False := eq_false (Nat.not_lt.2 c14)
              by_cases c15 : x21_2 = 1
              ·rw [if_pos c15] at H
               have c15b0 : (x21_2 == 1) = true := beq_iff_eq.mpr c15
               have c15b1 : (x21_2 != 1) = false := bne_eq_false_iff_eq.mpr c15
               clear c15
               by_cases c16 : (x4_2 ++ (⟨#[32]⟩ : ByteArray)).size + 1 ≤ 9223372036854775807
               ·rw [if_pos c16] at H
                have c16b0 := eq_true c16
                have c16z := c16
                (try simp only [ByteArray.size_append, sz1_] at c16z)
                try have c16b3 := eq_false (Nat.not_lt.2 c16z)
                have c16b1 : decide ((x4_2 ++ (⟨#[32]⟩ : ByteArray)).size + 1 ≤ 9223372036854775807) = true := decide_eq_true c16
                try have c16b2 : (9223372036854775807 < (x4_2 ++ (⟨#[32]⟩ : ByteArray)).size + 1) = False := eq_false (Nat.not_lt.2 c16)
                replace H := Option.bind_eq_some_iff.mp H
                obtain ⟨t129, A170, H⟩ := H
                have A17 := Aside0.mk A170
                clear A170
                by_cases c18 : ((x4_2 ++ (⟨#[32]⟩ : ByteArray)) ++ (⟨#[32]⟩ : ByteArray)).size + t129.size ≤ 9223372036854775807
                ·rw [if_pos c18] at H
                 have c18b0 := eq_true c18
                 have c18z := c18
                 (try simp only [ByteArray.size_append, sz1_] at c18z)
                 try have c18b3 := eq_false (Nat.not_lt.2 c18z)
                 have c18b1 : decide (((x4_2 ++ (⟨#[32]⟩ : ByteArray)) ++ (⟨#[32]⟩ : ByteArray)).size + t129.size ≤ 9223372036854775807) = true := decide_eq_true c18
                 try have c18b2 : (9223372036854775807 < ((x4_2 ++ (⟨#[32]⟩ : ByteArray)) ++ (⟨#[32]⟩ : ByteArray)).size + t129.size) = False := eq_false (Nat.not_lt.2 c18)
                 have H' := Aside0.mk H
                 clear H
                 have p128 : 0 ≤ (x21_2 : Int) := of_decide_eq_true (by first | (with_reducible assumption) | assumption)
                 have q128 : x21_2 < (((rd_T48 l0 x14_1).f1).length : Int) := of_decide_eq_true (by first | (with_reducible assumption) | assumption)
                 obtain ⟨ad128, e128, hx128_0⟩ := Kd.at_int HR126_1.out x21_2 p128 q128
                 cases e128
                 replace hx128_0 := (HB.out.cell (World.block_lt_of_cell? w _ hx128_0)).trans hx128_0
                 replace p128 := eq_true p128
                 replace q128 := eq_true q128
                 go_wp2_with (first | ((with_reducible refine gate_callee (f := 84) rfl ?_); refine goesL_ (some 40) rfl rfl Tryz.func84 (by kernel_rfl) rfl #[.int .u64 (rd ((rd_T48 l0 x14_1).f1) x21_2), .int .u64 16, .int .i64 8] rfl (by (try simp only [List.map_toArray, List.map_cons, List.map_nil]); first | done | rfl | (simp only [List.length_drop, List.length_take]; rfl)) ?_; (with_reducible refine (spec_Padded.calls k2 (rd ((rd_T48 l0 x14_1).f1) x21_2) 16 8 t129 _ A17.out).mono ?_); rintro e w19 ⟨rfl, hb⟩; refine ⟨_, rfl, ?_⟩; have n0_ := Aside0.mk (blk_below (g := gb127) (o := .cells #[.string ((rd_T48 l0 x14_1).f0), .slice (some ad128) ((rd_T48 l0 x14_1).f1).length c126_1, .slice A126_2 ((rd_T48 l0 x14_1).f2).length c126_2] 48 (0, 0)) (by refine bY ?_; exact BK127.out) hb); have n1_ := Aside0.mk (below_step belS hb); clear BK127; clear HB; have BK127 := n0_; have HB := n1_; clear n0_ n1_; (try clear hb); (try clear hb2); (try clear hk); (try clear hi)))
                 go_roundg k2
                 case measure => have := HK1.out; have := HK2.out; omega
                 case rel => exact ⟨(((x4_2 ++ (⟨#[32]⟩ : ByteArray)) ++ (⟨#[32]⟩ : ByteArray)) ++ t129), (wrap64 (x21_2 + 1)), (by first | rfl | (simp; done) | (simp [*]; done) | (simp [bne_nil]; done) | (simp [bne_nil, *]; done)), (by first | rfl | (simp; done) | (simp [*]; done) | (simp [bne_nil]; done) | (simp [bne_nil, *]; done)), H', ⟨by have := HK1.out; have := HK2.out; omega⟩, ⟨by refine bY ?_; exact BK127.out⟩, ⟨by repeat (first | (with_reducible first | exact HB.out | apply below_alloc | apply pw_below_drewN | apply below_drew1 | refine below_set ?_ GE127.out) | exact HB.out)⟩⟩
                ·rw [if_neg c18] at H
                 exact absurd H (by simp)
               ·rw [if_neg c16] at H
                exact absurd H (by simp)
              ·rw [if_neg c15] at H
               have c15b0 : (x21_2 == 1) = false := beq_eq_false_iff_ne.mpr c15
               have c15b1 : (x21_2 != 1) = true := bne_iff_ne.mpr c15
               by_cases c20 : x21_2 = 13
               ·rw [if_pos c20] at H
                have c20b0 : (x21_2 == 13) = true := beq_iff_eq.mpr c20
                have c20b1 : (x21_2 != 13) = false := bne_eq_false_iff_eq.mpr c20
                clear c20
                by_cases c21 : (x4_2 ++ (⟨#[32]⟩ : ByteArray)).size + 1 ≤ 9223372036854775807
                ·rw [if_pos c21] at H
                 have c21b0 := eq_true c21
                 have c21z := c21
                 (try simp only [ByteArray.size_append, sz1_] at c21z)
                 try have c21b3 := eq_false (Nat.not_lt.2 c21z)
                 have c21b1 : decide ((x4_2 ++ (⟨#[32]⟩ : ByteArray)).size + 1 ≤ 9223372036854775807) = true := decide_eq_true c21
                 try have c21b2 : (9223372036854775807 < (x4_2 ++ (⟨#[32]⟩ : ByteArray)).size + 1) = False := eq_false (Nat.not_lt.2 c21)
                 replace H := Option.bind_eq_some_iff.mp H
                 obtain ⟨t130, A220, H⟩ := H
                 have A22 := Aside0.mk A220
                 clear A220
                 by_cases c23 : ((x4_2 ++ (⟨#[32]⟩ : ByteArray)) ++ (⟨#[32]⟩ : ByteArray)).size + t130.size ≤ 9223372036854775807
                 ·rw [if_pos c23] at H
                  have c23b0 := eq_true c23
                  have c23z := c23
                  (try simp only [ByteArray.size_append, sz1_] at c23z)
                  try have c23b3 := eq_false (Nat.not_lt.2 c23z)
                  have c23b1 : decide (((x4_2 ++ (⟨#[32]⟩ : ByteArray)) ++ (⟨#[32]⟩ : ByteArray)).size + t130.size ≤ 9223372036854775807) = true := decide_eq_true c23
                  try have c23b2 : (9223372036854775807 < ((x4_2 ++ (⟨#[32]⟩ : ByteArray)) ++ (⟨#[32]⟩ : ByteArray)).size + t130.size) = False := eq_false (Nat.not_lt.2 c23)
                  have H' := Aside0.mk H
                  clear H
                  have p128 : 0 ≤ (x21_2 : Int) := of_decide_eq_true (by first | (with_reducible assumption) | assumption)
                  have q128 : x21_2 < (((rd_T48 l0 x14_1).f1).length : Int) := of_decide_eq_true (by first | (with_reducible assumption) | assumption)
                  obtain ⟨ad128, e128, hx128_0⟩ := Kd.at_int HR126_1.out x21_2 p128 q128
                  cases e128
                  replace hx128_0 := (HB.out.cell (World.block_lt_of_cell? w _ hx128_0)).trans hx128_0
                  replace p128 := eq_true p128
                  replace q128 := eq_true q128
                  go_wp2_with (first | ((with_reducible refine gate_callee (f := 84) rfl ?_); refine goesL_ (some 40) rfl rfl Tryz.func84 (by kernel_rfl) rfl #[.int .u64 (rd ((rd_T48 l0 x14_1).f1) x21_2), .int .u64 16, .int .i64 8] rfl (by (try simp only [List.map_toArray, List.map_cons, List.map_nil]); first | done | rfl | (simp only [List.length_drop, List.length_take]; rfl)) ?_; (with_reducible refine (spec_Padded.calls k2 (rd ((rd_T48 l0 x14_1).f1) x21_2) 16 8 t130 _ A22.out).mono ?_); rintro e w24 ⟨rfl, hb⟩; refine ⟨_, rfl, ?_⟩; have n0_ := Aside0.mk (blk_below (g := gb127) (o := .cells #[.string ((rd_T48 l0 x14_1).f0), .slice (some ad128) ((rd_T48 l0 x14_1).f1).length c126_1, .slice A126_2 ((rd_T48 l0 x14_1).f2).length c126_2] 48 (0, 0)) (by refine bY ?_; exact BK127.out) hb); have n1_ := Aside0.mk (below_step belS hb); clear BK127; clear HB; have BK127 := n0_; have HB := n1_; clear n0_ n1_; (try clear hb); (try clear hb2); (try clear hk); (try clear hi)))
                  go_roundg k2
                  case measure => have := HK1.out; have := HK2.out; omega
                  case rel => exact ⟨(((x4_2 ++ (⟨#[32]⟩ : ByteArray)) ++ (⟨#[32]⟩ : ByteArray)) ++ t130), (wrap64 (x21_2 + 1)), (by first | rfl | (simp; done) | (simp [*]; done) | (simp [bne_nil]; done) | (simp [bne_nil, *]; done)), (by first | rfl | (simp; done) | (simp [*]; done) | (simp [bne_nil]; done) | (simp [bne_nil, *]; done)), H', ⟨by have := HK1.out; have := HK2.out; omega⟩, ⟨by refine bY ?_; exact BK127.out⟩, ⟨by repeat (first | (with_reducible first | exact HB.out | apply below_alloc | apply pw_below_drewN | apply below_drew1 | refine below_set ?_ GE127.out) | exact HB.out)⟩⟩
                 ·rw [if_neg c23] at H
                  exact absurd H (by simp)
                ·rw [if_neg c21] at H
                 exact absurd H (by simp)
               ·rw [if_neg c20] at H
                have c20b0 : (x21_2 == 13) = false := beq_eq_false_iff_ne.mpr c20
                have c20b1 : (x21_2 != 13) = true := bne_iff_ne.mpr c20
                replace H := Option.bind_eq_some_iff.mp H
                obtain ⟨t131, A250, H⟩ := H
                have A25 := Aside0.mk A250
                clear A250
                by_cases c26 : (x4_2 ++ (⟨#[32]⟩ : ByteArray)).size + t131.size ≤ 9223372036854775807
                ·rw [if_pos c26] at H
                 have c26b0 := eq_true c26
                 have c26z := c26
                 (try simp only [ByteArray.size_append, sz1_] at c26z)
                 try have c26b3 := eq_false (Nat.not_lt.2 c26z)
                 have c26b1 : decide ((x4_2 ++ (⟨#[32]⟩ : ByteArray)).size + t131.size ≤ 9223372036854775807) = true := decide_eq_true c26
                 try have c26b2 : (9223372036854775807 < (x4_2 ++ (⟨#[32]⟩ : ByteArray)).size + t131.size) = False := eq_false (Nat.not_lt.2 c26)
                 have H' := Aside0.mk H
                 clear H
                 have p128 : 0 ≤ (x21_2 : Int) := of_decide_eq_true (by first | (with_reducible assumption) | assumption)
                 have q128 : x21_2 < (((rd_T48 l0 x14_1).f1).length : Int) := of_decide_eq_true (by first | (with_reducible assumption) | assumption)
                 obtain ⟨ad128, e128, hx128_0⟩ := Kd.at_int HR126_1.out x21_2 p128 q128
                 cases e128
                 replace hx128_0 := (HB.out.cell (World.block_lt_of_cell? w _ hx128_0)).trans hx128_0
                 replace p128 := eq_true p128
                 replace q128 := eq_true q128
                 go_wp2_with (first | ((with_reducible refine gate_callee (f := 84) rfl ?_); refine goesL_ (some 40) rfl rfl Tryz.func84 (by kernel_rfl) rfl #[.int .u64 (rd ((rd_T48 l0 x14_1).f1) x21_2), .int .u64 16, .int .i64 8] rfl (by (try simp only [List.map_toArray, List.map_cons, List.map_nil]); first | done | rfl | (simp only [List.length_drop, List.length_take]; rfl)) ?_; (with_reducible refine (spec_Padded.calls k2 (rd ((rd_T48 l0 x14_1).f1) x21_2) 16 8 t131 _ A25.out).mono ?_); rintro e w27 ⟨rfl, hb⟩; refine ⟨_, rfl, ?_⟩; have n0_ := Aside0.mk (blk_below (g := gb127) (o := .cells #[.string ((rd_T48 l0 x14_1).f0), .slice (some ad128) ((rd_T48 l0 x14_1).f1).length c126_1, .slice A126_2 ((rd_T48 l0 x14_1).f2).length c126_2] 48 (0, 0)) (by refine bY ?_; exact BK127.out) hb); have n1_ := Aside0.mk (below_step belS hb); clear BK127; clear HB; have BK127 := n0_; have HB := n1_; clear n0_ n1_; (try clear hb); (try clear hb2); (try clear hk); (try clear hi)))
                 go_roundg k2
                 case measure => have := HK1.out; have := HK2.out; omega
                 case rel => exact ⟨((x4_2 ++ (⟨#[32]⟩ : ByteArray)) ++ t131), (wrap64 (x21_2 + 1)), (by first | rfl | (simp; done) | (simp [*]; done) | (simp [bne_nil]; done) | (simp [bne_nil, *]; done)), (by first | rfl | (simp; done) | (simp [*]; done) | (simp [bne_nil]; done) | (simp [bne_nil, *]; done)), H', ⟨by have := HK1.out; have := HK2.out; omega⟩, ⟨by refine bY ?_; exact BK127.out⟩, ⟨by repeat (first | (with_reducible first | exact HB.out | apply below_alloc | apply pw_below_drewN | apply below_drew1 | refine below_set ?_ GE127.out) | exact HB.out)⟩⟩
                ·rw [if_neg c26] at H
                 exact absurd H (by simp)
             ·rw [if_neg c14] at H
              exact absurd H (by simp)
            ·rw [if_neg c13] at H
             have c13b0 : decide (0 < x21_2) = false := decide_eq_false c13
             clear c13
             by_cases c28 : x21_2 = 1
             ·rw [if_pos c28] at H
              have c28b0 : (x21_2 == 1) = true := beq_iff_eq.mpr c28
              have c28b1 : (x21_2 != 1) = false := bne_eq_false_iff_eq.mpr c28
              clear c28
              by_cases c29 : x4_2.size + 1 ≤ 9223372036854775807
              ·rw [if_pos c29] at H
               have c29b0 := eq_true c29
               have c29z := c29
               (try simp only [ByteArray.size_append, sz1_] at c29z)
               try have c29b3 := eq_false (Nat.not_lt.2 c29z)
               have c29b1 : decide (x4_2.size + 1 ≤ 9223372036854775807) = true := decide_eq_true c29
               try have c29b2 : (9223372036854775807 < x4_2.size + 1) = False := eq_false (Nat.not_lt.2 c29)
               replace H := Option.bind_eq_some_iff.mp H
               obtain ⟨t132, A300, H⟩ := H
               have A30 := Aside0.mk A300
               clear A300
               by_cases c31 : (x4_2 ++ (⟨#[32]⟩ : ByteArray)).size + t132.size ≤ 9223372036854775807
               ·rw [if_pos c31] at H
                have c31b0 := eq_true c31
                have c31z := c31
                (try simp only [ByteArray.size_append, sz1_] at c31z)
                try have c31b3 := eq_false (Nat.not_lt.2 c31z)
                have c31b1 : decide ((x4_2 ++ (⟨#[32]⟩ : ByteArray)).size + t132.size ≤ 9223372036854775807) = true := decide_eq_true c31
                try have c31b2 : (9223372036854775807 < (x4_2 ++ (⟨#[32]⟩ : ByteArray)).size + t132.size) = False := eq_false (Nat.not_lt.2 c31)
                have H' := Aside0.mk H
                clear H
                have p128 : 0 ≤ (x21_2 : Int) := of_decide_eq_true (by first | (with_reducible assumption) | assumption)
                have q128 : x21_2 < (((rd_T48 l0 x14_1).f1).length : Int) := of_decide_eq_true (by first | (with_reducible assumption) | assumption)
                obtain ⟨ad128, e128, hx128_0⟩ := Kd.at_int HR126_1.out x21_2 p128 q128
                cases e128
                replace hx128_0 := (HB.out.cell (World.block_lt_of_cell? w _ hx128_0)).trans hx128_0
                replace p128 := eq_true p128
                replace q128 := eq_true q128
                go_wp2_with (first | ((with_reducible refine gate_callee (f := 84) rfl ?_); refine goesL_ (some 40) rfl rfl Tryz.func84 (by kernel_rfl) rfl #[.int .u64 (rd ((rd_T48 l0 x14_1).f1) x21_2), .int .u64 16, .int .i64 8] rfl (by (try simp only [List.map_toArray, List.map_cons, List.map_nil]); first | done | rfl | (simp only [List.length_drop, List.length_take]; rfl)) ?_; (with_reducible refine (spec_Padded.calls k2 (rd ((rd_T48 l0 x14_1).f1) x21_2) 16 8 t132 _ A30.out).mono ?_); rintro e w32 ⟨rfl, hb⟩; refine ⟨_, rfl, ?_⟩; have n0_ := Aside0.mk (blk_below (g := gb127) (o := .cells #[.string ((rd_T48 l0 x14_1).f0), .slice (some ad128) ((rd_T48 l0 x14_1).f1).length c126_1, .slice A126_2 ((rd_T48 l0 x14_1).f2).length c126_2] 48 (0, 0)) (by refine bY ?_; exact BK127.out) hb); have n1_ := Aside0.mk (below_step belS hb); clear BK127; clear HB; have BK127 := n0_; have HB := n1_; clear n0_ n1_; (try clear hb); (try clear hb2); (try clear hk); (try clear hi)))
                go_roundg k2
                case measure => have := HK1.out; have := HK2.out; omega
                case rel => exact ⟨((x4_2 ++ (⟨#[32]⟩ : ByteArray)) ++ t132), (wrap64 (x21_2 + 1)), (by first | rfl | (simp; done) | (simp [*]; done) | (simp [bne_nil]; done) | (simp [bne_nil, *]; done)), (by first | rfl | (simp; done) | (simp [*]; done) | (simp [bne_nil]; done) | (simp [bne_nil, *]; done)), H', ⟨by have := HK1.out; have := HK2.out; omega⟩, ⟨by refine bY ?_; exact BK127.out⟩, ⟨by repeat (first | (with_reducible first | exact HB.out | apply below_alloc | apply pw_below_drewN | apply below_drew1 | refine below_set ?_ GE127.out) | exact HB.out)⟩⟩
               ·rw [if_neg c31] at H
                exact absurd H (by simp)
              ·rw [if_neg c29] at H
               exact absurd H (by simp)
             ·rw [if_neg c28] at H
              have c28b0 : (x21_2 == 1) = false := beq_eq_false_iff_ne.mpr c28
              have c28b1 : (x21_2 != 1) = true := bne_iff_ne.mpr c28
              by_cases c33 : x21_2 = 13
              ·rw [if_pos c33] at H
               have c33b0 : (x21_2 == 13) = true := beq_iff_eq.mpr c33
               have c33b1 : (x21_2 != 13) = false := bne_eq_false_iff_eq.mpr c33
               clear c33
               by_cases c34 : x4_2.size + 1 ≤ 9223372036854775807
               ·rw [if_pos c34] at H
                have c34b0 := eq_true c34
                have c34z := c34
                (try simp only [ByteArray.size_append, sz1_] at c34z)
                try have c34b3 := eq_false (Nat.not_lt.2 c34z)
                have c34b1 : decide (x4_2.size + 1 ≤ 9223372036854775807) = true := decide_eq_true c34
                try have c34b2 : (9223372036854775807 < x4_2.size + 1) = False := eq_false (Nat.not_lt.2 c34)
                replace H := Option.bind_eq_some_iff.mp H
                obtain ⟨t133, A350, H⟩ := H
                have A35 := Aside0.mk A350
                clear A350
                by_cases c36 : (x4_2 ++ (⟨#[32]⟩ : ByteArray)).size + t133.size ≤ 9223372036854775807
                ·rw [if_pos c36] at H
                 have c36b0 := eq_true c36
                 have c36z := c36
                 (try simp only [ByteArray.size_append, sz1_] at c36z)
                 try have c36b3 := eq_false (Nat.not_lt.2 c36z)
                 have c36b1 : decide ((x4_2 ++ (⟨#[32]⟩ : ByteArray)).size + t133.size ≤ 9223372036854775807) = true := decide_eq_true c36
                 try have c36b2 : (9223372036854775807 < (x4_2 ++ (⟨#[32]⟩ : ByteArray)).size + t133.size) = False := eq_false (Nat.not_lt.2 c36)
                 have H' := Aside0.mk H
                 clear H
                 have p128 : 0 ≤ (x21_2 : Int) := of_decide_eq_true (by first | (with_reducible assumption) | assumption)
                 have q128 : x21_2 < (((rd_T48 l0 x14_1).f1).length : Int) := of_decide_eq_true (by first | (with_reducible assumption) | assumption)
                 obtain ⟨ad128, e128, hx128_0⟩ := Kd.at_int HR126_1.out x21_2 p128 q128
                 cases e128
                 replace hx128_0 := (HB.out.cell (World.block_lt_of_cell? w _ hx128_0)).trans hx128_0
                 replace p128 := eq_true p128
                 replace q128 := eq_true q128
                 go_wp2_with (first | ((with_reducible refine gate_callee (f := 84) rfl ?_); refine goesL_ (some 40) rfl rfl Tryz.func84 (by kernel_rfl) rfl #[.int .u64 (rd ((rd_T48 l0 x14_1).f1) x21_2), .int .u64 16, .int .i64 8] rfl (by (try simp only [List.map_toArray, List.map_cons, List.map_nil]); first | done | rfl | (simp only [List.length_drop, List.length_take]; rfl)) ?_; (with_reducible refine (spec_Padded.calls k2 (rd ((rd_T48 l0 x14_1).f1) x21_2) 16 8 t133 _ A35.out).mono ?_); rintro e w37 ⟨rfl, hb⟩; refine ⟨_, rfl, ?_⟩; have n0_ := Aside0.mk (blk_below (g := gb127) (o := .cells #[.string ((rd_T48 l0 x14_1).f0), .slice (some ad128) ((rd_T48 l0 x14_1).f1).length c126_1, .slice A126_2 ((rd_T48 l0 x14_1).f2).length c126_2] 48 (0, 0)) (by refine bY ?_; exact BK127.out) hb); have n1_ := Aside0.mk (below_step belS hb); clear BK127; clear HB; have BK127 := n0_; have HB := n1_; clear n0_ n1_; (try clear hb); (try clear hb2); (try clear hk); (try clear hi)))
                 go_roundg k2
                 case measure => have := HK1.out; have := HK2.out; omega
                 case rel => exact ⟨((x4_2 ++ (⟨#[32]⟩ : ByteArray)) ++ t133), (wrap64 (x21_2 + 1)), (by first | rfl | (simp; done) | (simp [*]; done) | (simp [bne_nil]; done) | (simp [bne_nil, *]; done)), (by first | rfl | (simp; done) | (simp [*]; done) | (simp [bne_nil]; done) | (simp [bne_nil, *]; done)), H', ⟨by have := HK1.out; have := HK2.out; omega⟩, ⟨by refine bY ?_; exact BK127.out⟩, ⟨by repeat (first | (with_reducible first | exact HB.out | apply below_alloc | apply pw_below_drewN | apply below_drew1 | refine below_set ?_ GE127.out) | exact HB.out)⟩⟩
                ·rw [if_neg c36] at H
                 exact absurd H (by simp)
               ·rw [if_neg c34] at H
                exact absurd H (by simp)
              ·rw [if_neg c33] at H
               have c33b0 : (x21_2 == 13) = false := beq_eq_false_iff_ne.mpr c33
               have c33b1 : (x21_2 != 13) = true := bne_iff_ne.mpr c33
               replace H := Option.bind_eq_some_iff.mp H
               obtain ⟨t134, A380, H⟩ := H
               have A38 := Aside0.mk A380
               clear A380
               by_cases c39 : x4_2.size + t134.size ≤ 9223372036854775807
               ·rw [if_pos c39] at H
                have c39b0 := eq_true c39
                have c39z := c39
                (try simp only [ByteArray.size_append, sz1_] at c39z)
                try have c39b3 := eq_false (Nat.not_lt.2 c39z)
                have c39b1 : decide (x4_2.size + t134.size ≤ 9223372036854775807) = true := decide_eq_true c39
                try have c39b2 : (9223372036854775807 < x4_2.size + t134.size) = False := eq_false (Nat.not_lt.2 c39)
                have H' := Aside0.mk H
                clear H
                have p128 : 0 ≤ (x21_2 : Int) := of_decide_eq_true (by first | (with_reducible assumption) | assumption)
                have q128 : x21_2 < (((rd_T48 l0 x14_1).f1).length : Int) := of_decide_eq_true (by first | (with_reducible assumption) | assumption)
                obtain ⟨ad128, e128, hx128_0⟩ := Kd.at_int HR126_1.out x21_2 p128 q128
                cases e128
                replace hx128_0 := (HB.out.cell (World.block_lt_of_cell? w _ hx128_0)).trans hx128_0
                replace p128 := eq_true p128
                replace q128 := eq_true q128
                go_wp2_with (first | ((with_reducible refine gate_callee (f := 84) rfl ?_); refine goesL_ (some 40) rfl rfl Tryz.func84 (by kernel_rfl) rfl #[.int .u64 (rd ((rd_T48 l0 x14_1).f1) x21_2), .int .u64 16, .int .i64 8] rfl (by (try simp only [List.map_toArray, List.map_cons, List.map_nil]); first | done | rfl | (simp only [List.length_drop, List.length_take]; rfl)) ?_; (with_reducible refine (spec_Padded.calls k2 (rd ((rd_T48 l0 x14_1).f1) x21_2) 16 8 t134 _ A38.out).mono ?_); rintro e w40 ⟨rfl, hb⟩; refine ⟨_, rfl, ?_⟩; have n0_ := Aside0.mk (blk_below (g := gb127) (o := .cells #[.string ((rd_T48 l0 x14_1).f0), .slice (some ad128) ((rd_T48 l0 x14_1).f1).length c126_1, .slice A126_2 ((rd_T48 l0 x14_1).f2).length c126_2] 48 (0, 0)) (by refine bY ?_; exact BK127.out) hb); have n1_ := Aside0.mk (below_step belS hb); clear BK127; clear HB; have BK127 := n0_; have HB := n1_; clear n0_ n1_; (try clear hb); (try clear hb2); (try clear hk); (try clear hi)))
                go_roundg k2
                case measure => have := HK1.out; have := HK2.out; omega
                case rel => exact ⟨(x4_2 ++ t134), (wrap64 (x21_2 + 1)), (by first | rfl | (simp; done) | (simp [*]; done) | (simp [bne_nil]; done) | (simp [bne_nil, *]; done)), (by first | rfl | (simp; done) | (simp [*]; done) | (simp [bne_nil]; done) | (simp [bne_nil, *]; done)), H', ⟨by have := HK1.out; have := HK2.out; omega⟩, ⟨by refine bY ?_; exact BK127.out⟩, ⟨by repeat (first | (with_reducible first | exact HB.out | apply below_alloc | apply pw_below_drewN | apply below_drew1 | refine below_set ?_ GE127.out) | exact HB.out)⟩⟩
               ·rw [if_neg c39] at H
                exact absurd H (by simp)
           ·rw [if_neg c12] at H
            exact absurd H (by simp)
          ·rw [if_neg c11] at H
           exact absurd H (by simp)
         ·rw [if_neg c10] at H
          have c10b0 : decide (x21_2 < (((rd_T48 l0 x14_1).f1).length : Int)) = false := decide_eq_false c10
          clear c10
          by_cases c41 : x4_2.size + 1 ≤ 9223372036854775807
          ·rw [if_pos c41] at H
           have c41b0 := eq_true c41
           have c41z := c41
           (try simp only [ByteArray.size_append, sz1_] at c41z)
           try have c41b3 := eq_false (Nat.not_lt.2 c41z)
           have c41b1 : decide (x4_2.size + 1 ≤ 9223372036854775807) = true := decide_eq_true c41
           try have c41b2 : (9223372036854775807 < x4_2.size + 1) = False := eq_false (Nat.not_lt.2 c41)
           have H' := Aside0.mk H
           clear H
           go_wp2
           go_roundg k2
           case measure => have := HK1.out; have := HK2.out; omega
           case rel => exact ⟨(x4_2 ++ (⟨#[10]⟩ : ByteArray)), (wrap64 (x14_1 + 1)), (by first | rfl | (simp; done) | (simp [*]; done) | (simp [bne_nil]; done) | (simp [bne_nil, *]; done)), (by first | rfl | (simp; done) | (simp [*]; done) | (simp [bne_nil]; done) | (simp [bne_nil, *]; done)), H', ⟨by have := HK1.out; have := HK2.out; omega⟩, ⟨by repeat (first | (with_reducible first | exact HB.out | apply below_alloc | apply pw_below_drewN | apply below_drew1 | refine below_set ?_ GE127.out) | exact HB.out)⟩⟩
          ·rw [if_neg c41] at H
           exact absurd H (by simp)
      ·rw [if_neg c7] at H
       exact absurd H (by simp)
     ·rw [if_neg c6] at H
      exact absurd H (by simp)
    ·rw [if_neg c5] at H
     have c5b0 : decide (x14_1 < (l0.length : Int)) = false := decide_eq_false c5
     clear c5
     simp only [Option.some.injEq, Prod.mk.injEq] at H
     obtain ⟨rfl, rfl⟩ := H
     go_wp2
     go_ret2
     exact ⟨by first | rfl | (simp [errW_none, errW_some] <;> rfl) | (simp [*, errW_none, errW_some] <;> rfl), by repeat (first | (with_reducible first | exact HB.out | apply below_alloc | apply pw_below_drewN | apply below_drew1) | exact HB.out)⟩
 ·replace c3 := Bool.eq_false_iff.mpr c3
  subst c3
  have H1 : (some ((⟨#[]⟩ : ByteArray), 2)) = some (r1, r2) := by rw [if_neg (show ¬ (false = true) by decide)] at H; exact H
  clear H
  have H := H1
  clear H1
  simp only [Option.some.injEq, Prod.mk.injEq] at H
  obtain ⟨rfl, rfl⟩ := H
  go_enter Tryz.func25, Tryz.ntmps25
  go_wp2_with (first | ((with_reducible refine gate_callee (f := 83) rfl ?_); refine goesL_ (some 10) rfl rfl Tryz.func83 (by kernel_rfl) rfl #[.slice A0 l0.length c0] rfl (by (try simp only [List.map_toArray, List.map_cons, List.map_nil]); first | done | rfl | (simp only [List.length_drop, List.length_take]; rfl)) ?_; (with_reducible refine (spec_conntrackFine.calls k _ _ l0 false _ ?side1 ?side2 A2.out).mono ?_); (case side1 => repeat (first | exact HR0.out | (with_reducible refine Kd.C_alloc ?_ _) | (with_reducible refine Kd.C_drewN ?_ _) | (with_reducible refine Kd.C_drew ?_))); (case side2 => exact HC0.out); rintro e w42 ⟨rfl, hb⟩; refine ⟨_, rfl, ?_⟩; have n0_ := Aside0.mk (below_step belH hb); clear HB; have HB := n0_; clear n0_; (try clear hb); (try clear hb2); (try clear hk); (try clear hi)))
  go_ret2
  exact ⟨by first | rfl | (simp [errW_none, errW_some] <;> rfl) | (simp [*, errW_none, errW_some] <;> rfl), by repeat (first | (with_reducible first | exact HB.out | apply below_alloc | apply pw_below_drewN | apply below_drew1) | exact HB.out)⟩

end Go.Proofs.YtdmpbaanonafbaaGreatDoor.J
