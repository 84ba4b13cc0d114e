-- written by a program of this session (wip/tools/pp.py)
import Derived.Test.YtdmpbaanonafbaaGreatDoorA0
import Derived.Test.YtdmpbaanonafbaaGreatDoorA3
namespace Go.Proofs.YtdmpbaanonafbaaGreatDoor.A
open Go.RowKit Go.Proofs.YtdmpbaanonafbaaGreatDoorW.PrintWords Go.Proofs.YtdmpbaanonafbaaGreatDoorW.PrintLast Go.Proofs.YtdmpbaanonafbaaGreatDoor.Flt Go.Proofs.YtdmpbaanonafbaaGreatDoor.GivZ Go.Proofs.YtdmpbaanonafbaaGreatDoor.E Go.Proofs.YtdmpbaanonafbaaGreatDoor.L Go.Proofs.YtdmpbaanonafbaaGreatDoor.V Go.Proofs.YtdmpbaanonafbaaGreatDoor.DoorLoad Go.Proofs.YtdmpbaanonafbaaGreatDoor.Lives Go.Proofs.YtdmpbaanonafbaaGreatDoor.R Go.Proofs.YtdmpbaanonafbaaGreatDoorW.PrintMore
attribute [local go_sem] max2_int min2_int max_two min_two max_three min_three max_four min_four   -- for this text's walks alone
set_option linter.unusedVariables false
set_option linter.unusedSimpArgs false

/-! ### spec_LoadavgRead: function 12 -/
mutual
def spec_LoadavgRead.j0 : Nat → ByteArray → List ByteArray → Bool → Option ((List (S48)) × Bool × Int)
 | 0, _, _, _ => none
 | k + 1, x0, x5, x26 => if x26 = true then (some (([] : List (S48)), false, 2)) else (if 3 ≤ (x5.length : Int) then ((some (x5.take 3 : List ByteArray)).bind fun y137 => (spec_LoadavgRead.l0 k x0 x5 y137 (y137.length : Int) 0 (⟨#[]⟩ : ByteArray) ([] : List Int))) else (none))
def spec_LoadavgRead.l0 : Nat → ByteArray → List ByteArray → List ByteArray → Int → Int → ByteArray → List Int → Option ((List (S48)) × Bool × Int)
 | 0, _, _, _, _, _, _, _ => none
 | k + 1, x0, x5, x29, x30, x31, x137000, x137001 => if x31 < x30 then (if 0 ≤ x31 then (if x31 < (x29.length : Int) then ((spec_hundreds.f k (rdOf ByteArray.empty x29 x31)).bind fun bt143 => (if bt143.2 = true then ((some (([bt143.1] : List Int) : List Int)).bind fun y145 => (if x137001.length + y145.length < 17592186044416 then (spec_LoadavgRead.l0 k x0 x5 x29 x30 (wrap64 (x31 + 1)) x137000 (x137001 ++ y145)) else (none))) else (some (([] : List (S48)), false, 2)))) else (none)) else (none)) else (if 3 < (x5.length : Int) then ((spec_Parts.f k (rdOf ByteArray.empty x5 3) 47).bind fun t152 => (if 4 < (x5.length : Int) then ((some (([rdOf ByteArray.empty x5 4] : List ByteArray) : List ByteArray)).bind fun y156 => (if t152.length + y156.length < 8796093022208 then ((spec_decimals.f k (t152 ++ y156)).bind fun bt162 => (if x137001.length + bt162.1.length < 17592186044416 then ((spec_meant__LoadavgPrint.f k x0 (([(⟨x137000, (x137001 ++ bt162.1), ([] : List ByteArray)⟩ : S48)] : List (S48))) bt162.2 false).bind fun bt172 => (some (bt172.1, bt172.2.1, bt172.2.2))) else (none))) else (none))) else (none))) else (none))
end
def spec_LoadavgRead.f (k : Nat) (a0 : ByteArray) : Option ((List (S48)) × Bool × Int) := (spec_single.f k a0).bind fun t128 => ((spec_Fields.f k t128).bind fun t129 => (if (t129.length : Int) = 5 then (if 3 < (t129.length : Int) then ((spec_Parts.f k (rdOf ByteArray.empty t129 3) 47).bind fun t133 => (spec_LoadavgRead.j0 k a0 t129 ((t133.length : Int) != 2))) else (none)) else (spec_LoadavgRead.j0 k a0 t129 true)))
theorem spec_LoadavgRead.mono_l : ∀ k, (∀ y0 y1 y2, LeO (spec_LoadavgRead.j0 k y0 y1 y2) (spec_LoadavgRead.j0 (k + 1) y0 y1 y2)) ∧ (∀ y0 y1 y2 y3 y4 y5 y6, LeO (spec_LoadavgRead.l0 k y0 y1 y2 y3 y4 y5 y6) (spec_LoadavgRead.l0 (k + 1) y0 y1 y2 y3 y4 y5 y6))
 | 0 => ⟨fun _ _ _ r h => by simp [spec_LoadavgRead.j0] at h, fun _ _ _ _ _ _ _ r h => by simp [spec_LoadavgRead.l0] at h⟩
 | k + 1 => by
  obtain ⟨ih0, ih1⟩ := spec_LoadavgRead.mono_l k
  refine ⟨?_, ?_⟩
  ·intro y0 y1 y2
   unfold spec_LoadavgRead.j0
   repeat' first
   | (with_reducible exact ih0 _ _ _)
   | (with_reducible exact ih1 _ _ _ _ _ _ _)
   | (with_reducible exact spec_Fields.mono _ _)
   | (with_reducible exact spec_Parts.mono _ _ _)
   | (with_reducible exact spec_decimals.mono _ _)
   | (with_reducible exact spec_hundreds.mono _ _)
   | (with_reducible exact spec_meant__LoadavgPrint.mono _ _ _ _ _)
   | (with_reducible exact spec_single.mono _ _)
   | (with_reducible exact LeO.refl _)
   | (with_reducible exact LeO.none _)
   | (with_reducible refine LeO.ite ?_ ?_)
   | (with_reducible refine LeO.bind ?_ (fun _ => ?_))
   | exact ih0 _ _ _
   | exact ih1 _ _ _ _ _ _ _
   | exact spec_Fields.mono _ _
   | exact spec_Parts.mono _ _ _
   | exact spec_decimals.mono _ _
   | exact spec_hundreds.mono _ _
   | exact spec_meant__LoadavgPrint.mono _ _ _ _ _
   | exact spec_single.mono _ _
   | exact LeO.none _
   | refine LeO.ite ?_ ?_
   | refine LeO.bind ?_ (fun _ => ?_)
  ·intro y0 y1 y2 y3 y4 y5 y6
   unfold spec_LoadavgRead.l0
   repeat' first
   | (with_reducible exact ih0 _ _ _)
   | (with_reducible exact ih1 _ _ _ _ _ _ _)
   | (with_reducible exact spec_Fields.mono _ _)
   | (with_reducible exact spec_Parts.mono _ _ _)
   | (with_reducible exact spec_decimals.mono _ _)
   | (with_reducible exact spec_hundreds.mono _ _)
   | (with_reducible exact spec_meant__LoadavgPrint.mono _ _ _ _ _)
   | (with_reducible exact spec_single.mono _ _)
   | (with_reducible exact LeO.refl _)
   | (with_reducible exact LeO.none _)
   | (with_reducible refine LeO.ite ?_ ?_)
   | (with_reducible refine LeO.bind ?_ (fun _ => ?_))
   | exact ih0 _ _ _
   | exact ih1 _ _ _ _ _ _ _
   | exact spec_Fields.mono _ _
   | exact spec_Parts.mono _ _ _
   | exact spec_decimals.mono _ _
   | exact spec_hundreds.mono _ _
   | exact spec_meant__LoadavgPrint.mono _ _ _ _ _
   | exact spec_single.mono _ _
   | exact LeO.none _
   | refine LeO.ite ?_ ?_
   | refine LeO.bind ?_ (fun _ => ?_)
theorem spec_LoadavgRead.mono : ∀ a0 k, LeO (spec_LoadavgRead.f k a0) (spec_LoadavgRead.f (k + 1) a0) := by
 intro a0 k
 obtain ⟨ih0, ih1⟩ := spec_LoadavgRead.mono_l k
 unfold spec_LoadavgRead.f
 repeat' first
   | (with_reducible exact ih0 _ _ _)
   | (with_reducible exact ih1 _ _ _ _ _ _ _)
   | (with_reducible exact spec_Fields.mono _ _)
   | (with_reducible exact spec_Parts.mono _ _ _)
   | (with_reducible exact spec_decimals.mono _ _)
   | (with_reducible exact spec_hundreds.mono _ _)
   | (with_reducible exact spec_meant__LoadavgPrint.mono _ _ _ _ _)
   | (with_reducible exact spec_single.mono _ _)
   | (with_reducible exact LeO.refl _)
   | (with_reducible exact LeO.none _)
   | (with_reducible refine LeO.ite ?_ ?_)
   | (with_reducible refine LeO.bind ?_ (fun _ => ?_))
   | exact ih0 _ _ _
   | exact ih1 _ _ _ _ _ _ _
   | exact spec_Fields.mono _ _
   | exact spec_Parts.mono _ _ _
   | exact spec_decimals.mono _ _
   | exact spec_hundreds.mono _ _
   | exact spec_meant__LoadavgPrint.mono _ _ _ _ _
   | exact spec_single.mono _ _
   | exact LeO.none _
   | refine LeO.ite ?_ ?_
   | refine LeO.bind ?_ (fun _ => ?_)
def spec_LoadavgRead.T13 : Bool × List (List Nat × List Nat) := (true, [([], []), ([0], [0]), ([1], [1]), ([2], [2]), ([], []), ([4], [4]), ([5], [5]), ([6], [6]), ([3, 7, 3], [3, 7]), ([8, 8], [8]), ([9], [9]), ([10], [10]), ([10], [10]), ([11, 9, 0, 1, 2, 3, 4, 5, 6, 7, 8, 9, 10, 11], [11]), ([12, 13, 0, 1, 2, 3, 4, 5, 6, 7, 8, 9, 10, 11, 12, 13], [12])])
def spec_LoadavgRead.B13 : List Nat := [0, 1, 3, 7, 0, 16, 48, 112, 255, 511, 1023, 2047, 2047, 4095, 16383]
theorem spec_LoadavgRead.tab13 : rtab .any (opsOf Tryz.f12 13) = spec_LoadavgRead.T13 := by kernel_rfl
theorem spec_LoadavgRead.bits13 : waitsOk spec_LoadavgRead.T13.2 spec_LoadavgRead.B13 = true := by kernel_rfl
set_option maxHeartbeats 8000000 in
set_option maxRecDepth 100000 in
theorem spec_LoadavgRead.calls (k : Nat) (a0 : ByteArray) (r1 : List (S48)) (r2 : Bool) (r3 : Int) (w : World) (h : spec_LoadavgRead.f k a0 = some (r1, r2, r3)) :
  Calls Tryz.prog 12 #[.string a0] w fun e w' => ∃ v0_ : Value, e = .returned (.tuple #[v0_, .bool r2, .int .i64 r3]) ∧ Kd.V k48 48 w' w.heap.size (fun k_ => (w.heap.size ≤ k_)) v0_ r1 ∧ Below w.heap.size w w' := by
 have hu48 := Tryz.underlying48
 have HB := Aside0.mk (Below.refl w.heap.size w)
 have H : ((spec_single.f k a0).bind fun t128 => ((spec_Fields.f k t128).bind fun t129 => (if (t129.length : Int) = 5 then (if 3 < (t129.length : Int) then ((spec_Parts.f k (rdOf ByteArray.empty t129 3) 47).bind fun t133 => (spec_LoadavgRead.j0 k a0 t129 ((t133.length : Int) != 2))) else (none)) else (spec_LoadavgRead.j0 k a0 t129 true)))) = some (r1, r2, r3) := h
 clear h
 replace H := Option.bind_eq_some_iff.mp H
 obtain ⟨t128, A20, H⟩ := H
 have A2 := Aside0.mk A20
 clear A20
 replace H := Option.bind_eq_some_iff.mp H
 obtain ⟨t129, A30, H⟩ := H
 have A3 := Aside0.mk A30
 clear A30
 have HC4 := Aside0.mk H
 clear H
 go_enter Tryz.func12, Tryz.ntmps12
 go_upto_region 2 with (first | ((with_reducible refine gate_callee (f := 40) rfl ?_); refine goesL_ (some 14) rfl rfl Tryz.func40 (by kernel_rfl) rfl #[.string a0] rfl (by (try simp only [List.map_toArray, List.map_cons, List.map_nil]); first | done | rfl | (simp only [List.length_drop, List.length_take]; rfl)) ?_; (with_reducible refine (spec_single.calls k a0 t128 _ A2.out).mono ?_); rintro e w5 ⟨rfl, hb⟩; refine ⟨_, rfl, ?_⟩; have n0_ := Aside0.mk (below_step belH hb); clear HB; have HB := n0_; clear n0_; (try clear hb); (try clear hb2); (try clear hk); (try clear hi)) | ((with_reducible refine gate_callee (f := 39) rfl ?_); refine goesL_ (some 15) rfl rfl Tryz.func39 (by kernel_rfl) rfl #[.string t128] rfl (by (try simp only [List.map_toArray, List.map_cons, List.map_nil]); first | done | rfl | (simp only [List.length_drop, List.length_take]; rfl)) ?_; (with_reducible refine (spec_Fields.calls k t128 t129 _ A3.out).mono ?_); rintro e w6 ⟨v130, rfl, ho0, hb⟩; refine ⟨_, rfl, ?_⟩; have n0_ := Aside0.mk (Kd.R_lower (Kd.R_newM (M := fun k_ => (w.heap.size ≤ k_)) ho0 (below_size belH) (fun k_ h_ => h_)) (below_size belH)); have n1_ := Aside0.mk (below_step belH hb); clear HB; have HO131 := n0_; have HB := n1_; clear n0_ n1_; (try clear hb); (try clear hb2); (try clear hk); (try clear hi); (try clear ho0)))
 (try simp only [Act.put, List.setIfInBounds_toArray, List.set_cons_zero, List.set_cons_succ])
 go_cut [26] (fun v26 wc => ∃ (kq : Nat) (x26_3 : Bool), v26 = .bool x26_3 ∧ Aside0 (spec_LoadavgRead.j0 kq a0 t129 x26_3 = some (r1, r2, r3)) ∧ Aside0 (kq ≤ k) ∧ Aside0 (Kd.R Kd.string 9 wc w.heap.size (fun k_ => (w.heap.size ≤ k_)) v130 t129) ∧ Aside0 (Below w.heap.size w wc))
 case first =>
  have H := HC4.out
  clear HC4
  by_cases c7 : (t129.length : Int) = 5
  ·rw [if_pos c7] at H
   have c7b0 : ((t129.length : Int) == 5) = true := beq_iff_eq.mpr c7
   have c7b1 : ((t129.length : Int) != 5) = false := bne_eq_false_iff_eq.mpr c7
   clear c7
   (first | rw [c7b0] | (simp only [i64_w, i32_w]; rw [c7b0]) | skip)
   by_cases c8 : 3 < (t129.length : Int)
   ·rw [if_pos c8] at H
    have c8b0 : decide (3 < (t129.length : Int)) = true := decide_eq_true c8
    have c8b1 : decide (3 < t129.length) = true := decide_eq_true (by omega)
    clear c8
    replace H := Option.bind_eq_some_iff.mp H
    obtain ⟨t133, A90, H⟩ := H
    have A9 := Aside0.mk A90
    clear A90
    have H' := Aside0.mk H
    clear H
    obtain ⟨Ao10, co10, eo10⟩ := Kd.R_slice HO131.out
    subst eo10
    have p132 : 0 ≤ (3 : Int) := (by omega)
    have q132 : 3 < (t129.length : Int) := of_decide_eq_true (by first | (with_reducible assumption) | assumption)
    obtain ⟨ad132, e132, hx132_0⟩ := Kd.at_string (Kd.R_reads' HO131.out).2.2 3 p132 q132
    cases e132
    (try simp only [show (3 : Int).toNat = 3 from rfl, Nat.reduceMul, Nat.reduceEqDiff, Go.Addr.add, ↓reduceIte] at hx132_0)
    have qi132 : (3 < t129.length) = True := eq_true (by omega)
    (try rw [show ((3 : Int)).toNat = 3 from rfl] at hx132_0)
    replace p132 := eq_true p132
    replace q132 := eq_true q132
    go_wp2_with (first | (go_at_call 41; (with_reducible refine (spec_Parts.calls k (rdOf ByteArray.empty t129 3) 47 t133 _ A9.out).mono ?_); rintro e w11 ⟨v134, rfl, ho0, hb⟩; have n0_ := Aside0.mk (Kd.R_elder' (by (with_reducible repeat (first | apply Kd.R_alloc | apply Kd.R_drewN | apply Kd.R_drew)); exact HO131.out) (Kd.R_base ho0) hb); have n1_ := Aside0.mk (Kd.R_lower (Kd.R_new' (Kd.R_newM (M := fun k_ => (w.heap.size ≤ k_)) ho0 (below_size belH) (fun k_ h_ => h_)) (Kd.R_lt (by (with_reducible repeat (first | apply Kd.R_alloc | apply Kd.R_drewN | apply Kd.R_drew)); exact HO131.out))) (below_size belH)); have n2_ := Aside0.mk (below_step belH hb); clear HO131; clear HB; have HO131 := n0_; have HO135 := n1_; have HB := n2_; clear n0_ n1_ n2_; (try clear hb); (try clear hb2); (try clear hk); (try clear hi); (try clear ho0); obtain ⟨Ao12, co12, eo12⟩ := Kd.R_slice HO135.out; subst eo12))
    go_meet
    case rel => exact ⟨_, (((t133.length : Int) != 2)), (by first | rfl | (simp; done) | (simp [*]; done) | (simp [bne_nil]; done) | (simp [bne_nil, *]; done)), H', ⟨by first | omega | exact Nat.le_refl _⟩, ⟨by (with_reducible repeat (first | apply Kd.R_alloc | apply Kd.R_drewN | apply Kd.R_drew)); exact Kd.R_mono HO131.out (fun _ hk => hk.1.1)⟩, ⟨by repeat (first | (with_reducible first | exact HB.out | apply below_alloc | apply pw_below_drewN | apply below_drew1) | exact HB.out)⟩⟩
   ·rw [if_neg c8] at H
    exact absurd H (by simp)
  ·rw [if_neg c7] at H
   have c7b0 : ((t129.length : Int) == 5) = false := beq_eq_false_iff_ne.mpr c7
   have c7b1 : ((t129.length : Int) != 5) = true := bne_iff_ne.mpr c7
   (first | rw [c7b0] | (simp only [i64_w, i32_w]; rw [c7b0]) | skip)
   have H' := Aside0.mk H
   clear H
   obtain ⟨Ao13, co13, eo13⟩ := Kd.R_slice HO131.out
   subst eo13
   go_wp2
   go_meet
   case rel => exact ⟨_, (true), (by first | rfl | (simp; done) | (simp [*]; done) | (simp [bne_nil]; done) | (simp [bne_nil, *]; done)), H', ⟨by first | omega | exact Nat.le_refl _⟩, ⟨by (with_reducible repeat (first | apply Kd.R_alloc | apply Kd.R_drewN | apply Kd.R_drew)); exact Kd.R_mono HO131.out (fun _ hk => hk.1)⟩, ⟨by repeat (first | (with_reducible first | exact HB.out | apply below_alloc | apply pw_below_drewN | apply below_drew1) | exact HB.out)⟩⟩
 case rest =>
  clear HC4
  try clear c1
  try clear p1
  try clear q1
  try clear hx1
  try clear qi1
  try clear p2
  try clear c3
  try clear c4
  try clear c7
  try clear c7b0
  try clear c7b1
  try clear c8
  try clear c8b0
  try clear c8b1
  try clear c12
  try clear p13
  try clear q13
  try clear hx13
  try clear qi13
  try clear hx132_0
  try clear p132
  try clear q132
  obtain ⟨kq, x26_3, rfl, HA, HJ3, HO_5, HB⟩ := hcut
  cases kq with
  | zero => exact absurd HA.out (by simp [spec_LoadavgRead.j0])
  | succ kj3 =>
   have H := HA.out
   clear HA
   simp only [spec_LoadavgRead.j0] at H
   by_cases c14 : x26_3 = true
   ·subst c14
    have H1 : (some (([] : List (S48)), false, 2)) = some (r1, r2, r3) := by rw [if_pos rfl] at H; exact H
    clear H
    have H := H1
    clear H1
    simp only [Option.some.injEq, Prod.mk.injEq] at H
    obtain ⟨rfl, rfl, rfl⟩ := H
    go_wp2
    go_ret3
    exact ⟨_, by first | rfl | (simp [errW_none, errW_some] <;> rfl) | (simp [*, errW_none, errW_some] <;> rfl), Kd.V_nil _ _ _ _ _, by repeat (first | (with_reducible first | exact HB.out | apply below_alloc | apply pw_below_drewN | apply below_drew1) | exact HB.out)⟩
   ·replace c14 := Bool.eq_false_iff.mpr c14
    subst c14
    have H1 : (if 3 ≤ (t129.length : Int) then ((some (t129.take 3 : List ByteArray)).bind fun y137 => (spec_LoadavgRead.l0 kj3 a0 t129 y137 (y137.length : Int) 0 (⟨#[]⟩ : ByteArray) ([] : List Int))) else (none)) = some (r1, r2, r3) := by rw [if_neg (show ¬ (false = true) by decide)] at H; exact H
    clear H
    have H := H1
    clear H1
    by_cases c15 : 3 ≤ (t129.length : Int)
    ·rw [if_pos c15] at H
     have c15b0 := eq_true c15
     have c15b1 : decide (3 ≤ (t129.length : Int)) = true := decide_eq_true c15
     clear c15
     obtain ⟨y137, hy137⟩ : ∃ y_ : List ByteArray, y_ = (t129.take 3) := ⟨_, rfl⟩
     replace H : (spec_LoadavgRead.l0 kj3 a0 t129 y137 (y137.length : Int) 0 (⟨#[]⟩ : ByteArray) ([] : List Int)) = some (r1, r2, r3) := by first | (rw [hy137]; with_reducible exact H) | (have H2_ := (Option.bind_some _ _).symm.trans H; rw [hy137]; with_reducible exact H2_) | (have H2_ := (Option.bind_some _ _).symm.trans H; with_reducible exact H2_) | with_reducible exact H | (rw [hy137]; exact H) | exact H
     have Ny137 := Aside0.mk hy137
     clear hy137
     have H' := Aside0.mk H
     clear H
     go_wp2_with (first | ((with_reducible refine gate_dst (N := 6) rfl ?_); (try (refine gate_guard (by rfl) ?_; dsimp only)); refine box_event ?hg (N := 6) ?hd (cs := #[.string (⟨#[]⟩ : ByteArray), .slice none 0 0, .slice none 0 0]) (t := 48) ?hr ?_; (case hd => rfl); (case hg => rfl); (case hr => first | (go_simp; done) | (go_simp; rfl)); intro gb136 hg w16 hbox hb; have n0_ := Aside0.mk (Kd.R_below (by (with_reducible repeat (first | apply Kd.R_alloc | apply Kd.R_drewN | apply Kd.R_drew)); exact HO_5.out) hb); have n1_ := Aside0.mk (below_step belH hb); have n2_ := Aside0.mk (hbox); have n3_ := Aside0.mk ((by rw [hg]; exact (below_size belH) : w.heap.size ≤ gb136)); have n4_ := Aside0.mk ((by rw [hg]; exact (below_size belH) : w.heap.size ≤ gb136)); clear HO_5; clear HB; have HO_5 := n0_; have HB := n1_; have BK136 := n2_; have GW136 := n3_; have GE136 := n4_; clear n0_ n1_ n2_ n3_ n4_; clear hb hbox hg; obtain ⟨hcz17_0, hcz17_1, hcz17_2, hfz17_0, hfz17_1, hfz17_2⟩ := rows3 (w := w16) BK136) | ((with_reducible refine gate_store (t := 48) (p := 6) rfl ?_); refine store_event (t := 48) (p := 6) (v := ?vo_w18) (w1 := (((w16.setCell ⟨gb136, 0, none⟩ (.string (⟨#[]⟩ : ByteArray))).setCell ⟨gb136, 1, none⟩ (.slice none 0 0)).setCell ⟨gb136, 2, none⟩ (.slice none 0 0))) ?hg ?ho ?hn ?hr ?_; (case ho => rfl); (case hg => rfl); (case hn => rfl); (case hr => first | (go_simp; done) | (go_simp; rfl)); intro w18 hw; have n0_ : Aside0 (Kd.R Kd.string 9 w18 w.heap.size (fun k_ => (w.heap.size ≤ k_)) v130 t129) := ⟨(by rw [hw]; exact (by (with_reducible repeat (first | apply Kd.R_alloc | apply Kd.R_drewN | apply Kd.R_drew)); exact Kd.R_mono (Kd.R_far (p := ⟨gb136, 2, none⟩) (Kd.R_far (p := ⟨gb136, 1, none⟩) (Kd.R_far (p := ⟨gb136, 0, none⟩) (Kd.R_types HO_5.out BK136.out (by decide)) (fun _ hk => hk.2) (.string (⟨#[]⟩ : ByteArray))) (fun _ hk => hk.2) (.slice none 0 0)) (fun _ hk => hk.2) (.slice none 0 0)) (fun _ hk => hk.1)))⟩; have n1_ : Aside0 (w18.heap[gb136]? = some (.cells #[.string (⟨#[]⟩ : ByteArray), .slice none 0 0, .slice none 0 0] 48 (0, 0))) := ⟨(by rw [hw]; exact (by refine bY ?_; refine blk_put (cs := #[.string (⟨#[]⟩ : ByteArray), .slice none 0 0, .slice none 0 0]) ?_ 2 _ rfl; refine bY ?_; refine blk_put (cs := #[.string (⟨#[]⟩ : ByteArray), .slice none 0 0, .slice none 0 0]) ?_ 1 _ rfl; refine bY ?_; refine blk_put (cs := #[.string (⟨#[]⟩ : ByteArray), .slice none 0 0, .slice none 0 0]) ?_ 0 _ rfl; refine bY ?_; exact BK136.out))⟩; have n2_ : Aside0 (Below w.heap.size w w18) := ⟨(by rw [hw]; exact belS)⟩; clear hw; clear HO_5; clear BK136; clear HB; have HO_5 := n0_; have BK136 := n1_; have HB := n2_; clear n0_ n1_ n2_; obtain ⟨Ao20, co20, eo20⟩ := Kd.R_slice HO_5.out; subst eo20; have q19 : (3 : Int) ≤ ((t129.length : Int) : Int) := of_decide_eq_true (by first | (with_reducible assumption) | assumption); obtain ⟨i019, hi019, _, hsz19, _⟩ := info_parts info9; have hroom19 : t129.length ≤ co20 := (Kd.R_reads' HO_5.out).2.1; have hC19 : Kd.F Kd.string _ _ Ao20 t129.length t129 := (Kd.V_at (base := w.heap.size) (Kd.R_V (Kd.R_types (HO_5.out) BK136.out (by decide)))).2.2; have hcut19 := cut_to (P := Tryz.prog) 42 9 .i64 Tryz.underlying42 hi019 Ao20 t129.length co20 3 (by omega) q19 hroom19; have hr19 := Kd.F_take (m := 3) hC19 (by omega); have hy19 : y137.length = (3 : Int).toNat := (by rw [Ny137.out, List.length_take]; omega); rw [← Ny137.out] at hr19; rw [← hy19] at hcut19; have HO141 := Aside0.mk (show Kd.V Kd.string 9 _ w.heap.size _ (.slice Ao20 y137.length co20) y137 from Kd.V_mk (by omega) hr19); have HC141 := Aside0.mk (show y137.length ≤ co20 from by omega); clear hr19 hC19 hroom19 hi019 hsz19; have KY19 := Aside0.mk hy19; clear hy19; replace q19 := eq_true q19))
     go_loopg [31] kj3 (fun kq v31 w' => ∃ (x31_2 : Int) (x137001_2 : List Int) (u137001 : Value), v31 = .int .i64 x31_2 ∧ Aside0 (spec_LoadavgRead.l0 kq a0 t129 y137 (y137.length : Int) x31_2 (⟨#[]⟩ : ByteArray) x137001_2 = some (r1, r2, r3)) ∧ Aside0 (kq ≤ kj3) ∧ Aside0 (Kd.R Kd.string 9 w' w.heap.size (fun k_ => (w.heap.size ≤ k_)) (.slice Ao20 t129.length co20) t129) ∧ Aside0 (Kd.V Kd.string 9 w' w.heap.size (fun k_ => (w.heap.size ≤ k_) ∧ some k_ ≠ (u137001 : Value).ownBlock ∧ k_ ≠ gb136) (.slice Ao20 y137.length co20) y137) ∧ Aside0 (Kd.R (Kd.int .u64) 31 w' w.heap.size (fun k_ => (w.heap.size ≤ k_)) u137001 x137001_2) ∧ Aside0 (w'.heap[gb136]? = some (.cells #[.string (⟨#[]⟩ : ByteArray), u137001, (.slice none 0 0)] 48 (0, 0))) ∧ Aside0 (Below w.heap.size w w'))
     case atStart => exact ⟨(0), (([] : List Int)), (.slice none 0 0), (by first | rfl | (simp; done) | (simp [*]; done) | (simp [bne_nil]; done) | (simp [bne_nil, *]; done)), H', ⟨Nat.le_refl _⟩, ⟨by (with_reducible repeat (first | apply Kd.R_alloc | apply Kd.R_drewN | apply Kd.R_drew)); exact HO_5.out⟩, ⟨by (with_reducible repeat (first | apply Kd.V_alloc | apply Kd.V_drewN | apply Kd.V_drew)); exact Kd.V_mono HO141.out (fun _ hk => ⟨hk.1, ⟨(by simp [Value.ownBlock]), hk.2⟩⟩)⟩, ⟨by first | exact Kd.R_nil _ _ _ _ _ | exact Kd.N_nil _ _ _ _ _ | exact Kd.V_nil _ _ _ _ _ | exact Kd.Q_nil _ _ _ _ _ | exact Kd.S_nil _ _ _ _ _⟩, ⟨by refine bY ?_; exact BK136.out⟩, ⟨by repeat (first | (with_reducible first | exact HB.out | apply below_alloc | apply pw_below_drewN | apply below_drew1 | refine below_set ?_ GE136.out) | exact HB.out)⟩⟩
     case round =>
      clear H'
      try clear c1
      try clear p1
      try clear q1
      try clear hx1
      try clear qi1
      try clear p2
      try clear c3
      try clear c4
      try clear c7
      try clear c7b0
      try clear c7b1
      try clear c8
      try clear c8b0
      try clear c8b1
      try clear c12
      try clear p13
      try clear q13
      try clear hx13
      try clear qi13
      try clear c14
      try clear c15
      try clear c15b0
      try clear c15b1
      try clear q19
      try clear hcz17_0
      try clear hcz17_1
      try clear hcz17_2
      try clear hfz17_0
      try clear hfz17_1
      try clear hfz17_2
      try clear hx132_0
      try clear p1
      try clear p13
      try clear p132
      try clear p2
      try clear q1
      try clear q13
      try clear q132
      try clear q19
      obtain ⟨x31_2, x137001_2, u137001, rfl, HA, HK2, HO_5, HO_29, HO_137001, BK136, HB⟩ := hrel
      cases gk with
      | zero => exact absurd HA.out (by simp [spec_LoadavgRead.l0])
      | succ k2 =>
       have H := HA.out
       clear HA
       simp only [spec_LoadavgRead.l0] at H
       by_cases c21 : x31_2 < (y137.length : Int)
       ·rw [if_pos c21] at H
        have c21b0 : decide (x31_2 < (y137.length : Int)) = true := decide_eq_true c21
        clear c21
        by_cases c22 : 0 ≤ x31_2
        ·rw [if_pos c22] at H
         have c22b0 : decide (0 ≤ x31_2) = true := decide_eq_true c22
         clear c22
         by_cases c23 : x31_2 < (y137.length : Int)
         ·rw [if_pos c23] at H
          have c23b0 : decide (x31_2 < (y137.length : Int)) = true := decide_eq_true c23
          clear c23
          replace H := Option.bind_eq_some_iff.mp H
          obtain ⟨⟨t143, t144⟩, A240, H⟩ := H
          have A24 := Aside0.mk A240
          clear A240
          by_cases c25 : t144 = true
          ·subst c25
           have H1 : ((some (([t143] : List Int) : List Int)).bind fun y145 => (if x137001_2.length + y145.length < 17592186044416 then (spec_LoadavgRead.l0 k2 a0 t129 y137 (y137.length : Int) (wrap64 (x31_2 + 1)) (⟨#[]⟩ : ByteArray) (x137001_2 ++ y145)) else (none))) = some (r1, r2, r3) := by rw [if_pos rfl] at H; exact H
           clear H
           have H := H1
           clear H1
           obtain ⟨y145, hy145⟩ : ∃ y_ : List Int, y_ = (([t143] : List Int)) := ⟨_, rfl⟩
           replace H : (if x137001_2.length + y145.length < 17592186044416 then (spec_LoadavgRead.l0 k2 a0 t129 y137 (y137.length : Int) (wrap64 (x31_2 + 1)) (⟨#[]⟩ : ByteArray) (x137001_2 ++ y145)) else (none)) = some (r1, r2, r3) := by first | (rw [hy145]; with_reducible exact H) | (have H2_ := (Option.bind_some _ _).symm.trans H; rw [hy145]; with_reducible exact H2_) | (have H2_ := (Option.bind_some _ _).symm.trans H; with_reducible exact H2_) | with_reducible exact H | (rw [hy145]; exact H) | exact H
           have Ny145 := Aside0.mk hy145
           clear hy145
           by_cases c26 : x137001_2.length + y145.length < 17592186044416
           ·rw [if_pos c26] at H
            have LMc26 := Aside0.mk c26
            clear c26
            obtain ⟨y148, hy148⟩ : ∃ y_ : List Int, y_ = (x137001_2 ++ y145) := ⟨_, rfl⟩
            replace H : (spec_LoadavgRead.l0 k2 a0 t129 y137 (y137.length : Int) (wrap64 (x31_2 + 1)) (⟨#[]⟩ : ByteArray) y148) = some (r1, r2, r3) := by first | (rw [hy148]; with_reducible exact H) | (have H2_ := (Option.bind_some _ _).symm.trans H; rw [hy148]; with_reducible exact H2_) | (have H2_ := (Option.bind_some _ _).symm.trans H; with_reducible exact H2_) | with_reducible exact H | (rw [hy148]; exact H) | exact H
            have Ny148 := Aside0.mk hy148
            clear hy148
            have H' := Aside0.mk H
            clear H
            have p142 : 0 ≤ (x31_2 : Int) := of_decide_eq_true (by first | (with_reducible assumption) | assumption)
            have q142 : x31_2 < (y137.length : Int) := of_decide_eq_true (by first | (with_reducible assumption) | assumption)
            obtain ⟨ad142, e142, hx142_0⟩ := Kd.at_string (Kd.V_reads' HO_29.out).2.2 x31_2 p142 q142
            cases e142
            replace p142 := eq_true p142
            replace q142 := eq_true q142
            go_wp2_with (first | ((with_reducible refine gate_callee (f := 42) rfl ?_); refine goesL_ (some 37) rfl rfl Tryz.func42 (by kernel_rfl) rfl #[.string (rdOf ByteArray.empty y137 x31_2)] rfl (by (try simp only [List.map_toArray, List.map_cons, List.map_nil]); first | done | rfl | (simp only [List.length_drop, List.length_take]; rfl)) ?_; (with_reducible refine (spec_hundreds.calls k2 (rdOf ByteArray.empty y137 x31_2) t143 true _ A24.out).mono ?_); rintro e w' ⟨rfl, ⟨nd, rfl⟩⟩; refine ⟨_, rfl, ?_⟩; (try (rw [drewN_self wr]; generalize hq_ : World.drewN wr _ = wr; have n0_ : Aside0 (Kd.R (Kd.int .u64) 31 wr w.heap.size (fun k_ => (w.heap.size ≤ k_)) u137001 x137001_2) := ⟨by rw [← hq_]; exact (by (with_reducible repeat (first | apply Kd.R_alloc | apply Kd.R_drewN | apply Kd.R_drew)); exact HO_137001.out)⟩; have n1_ : Aside0 (Kd.V Kd.string 9 wr w.heap.size (fun k_ => (w.heap.size ≤ k_) ∧ some k_ ≠ (u137001 : Value).ownBlock ∧ k_ ≠ gb136) (.slice (some ad142) y137.length co20) y137) := ⟨by rw [← hq_]; exact (by (with_reducible repeat (first | apply Kd.V_alloc | apply Kd.V_drewN | apply Kd.V_drew)); exact HO_29.out)⟩; have n2_ : Aside0 (Kd.R Kd.string 9 wr w.heap.size (fun k_ => (w.heap.size ≤ k_)) (.slice (some ad142) t129.length co20) t129) := ⟨by rw [← hq_]; exact (by (with_reducible repeat (first | apply Kd.R_alloc | apply Kd.R_drewN | apply Kd.R_drew)); exact HO_5.out)⟩; have n3_ : Aside0 (wr.heap[gb136]? = some (.cells #[.string (⟨#[]⟩ : ByteArray), u137001, .slice none 0 0] 48 (0, 0))) := ⟨by rw [← hq_]; exact (by refine bY ?_; exact BK136.out)⟩; have n4_ : Aside0 (Below w.heap.size w wr) := ⟨by rw [← hq_]; exact belS⟩; clear HO_137001 HO_29 HO_5 BK136 HB hq_; have HO_137001 := n0_; have HO_29 := n1_; have HO_5 := n2_; have BK136 := n3_; have HB := n4_; clear n0_ n1_ n2_ n3_ n4_)); obtain ⟨hcz27_0, hcz27_1, hcz27_2, hfz27_0, hfz27_1, hfz27_2⟩ := rows3 (w := wr) BK136) | ((with_reducible refine gate_dst (N := 45) rfl ?_); (try (refine gate_guard (by rfl) ?_; dsimp only)); refine Kd.R_lit (Kd.int .u64) _ 31 ?hg (N := 45) ?hd (xs := ([t143] : List Int)) (inner := [.int .u64 t143]) (ok := fun _ => True) (okp := fun _ => True) ?hr ?hp (fun _ hk => hk) trivial (Below.refl _ _) (Nat.le_refl _) (by simp) ?_; (case hd => rfl); (case hg => rfl); (case hr => first | (go_simp; done) | (go_simp; rfl)); (case hp => exact (Reps.one (show Kd.M (Kd.int .u64) _ _ _ t143 [.int .u64 t143] from rfl) (Reps.none _ _))); intro v146 w28 ho29 hb hg_ hnew_; clear hg_ hnew_; (first | rw [← Ny145.out] at ho29 | (simp only [Int.reduceToNat] at ho29; rw [← Ny145.out] at ho29)); have n0_ := Aside0.mk (Kd.R_below (by (with_reducible repeat (first | apply Kd.R_alloc | apply Kd.R_drewN | apply Kd.R_drew)); exact HO_5.out) hb); have n1_ := Aside0.mk (Kd.V_elder' (by (with_reducible repeat (first | apply Kd.V_alloc | apply Kd.V_drewN | apply Kd.V_drew)); exact HO_29.out) (Kd.R_base ho29) hb); have n2_ := Aside0.mk (Kd.R_elder' (by (with_reducible repeat (first | apply Kd.R_alloc | apply Kd.R_drewN | apply Kd.R_drew)); exact HO_137001.out) (Kd.R_base ho29) hb); have n3_ := Aside0.mk (Kd.R_lower (Kd.R_new' (Kd.R_newM (M := fun k_ => (w.heap.size ≤ k_)) ho29 (below_size belS) (fun k_ h_ => h_)) (Kd.R_lt (by (with_reducible repeat (first | apply Kd.R_alloc | apply Kd.R_drewN | apply Kd.R_drew)); exact HO_137001.out))) (below_size belS)); have n4_ := Aside0.mk (blk_below (g := gb136) (o := .cells #[.string (⟨#[]⟩ : ByteArray), u137001, .slice none 0 0] 48 (0, 0)) (by refine bY ?_; exact BK136.out) hb); have n5_ := Aside0.mk (below_step belS hb); clear HO_5; clear HO_29; clear HO_137001; clear BK136; clear HB; have HO_5 := n0_; have HO_29 := n1_; have HO_137001 := n2_; have HO147 := n3_; have BK136 := n4_; have HB := n5_; clear n0_ n1_ n2_ n3_ n4_ n5_; clear hb ho29; obtain ⟨Ao31, co31, eo31⟩ := Kd.R_slice HO147.out; subst eo31) | ((with_reducible refine gate_builtin (b := .append) (xs := #[.tmp 43, .tmp 45]) rfl ?_); (try (refine gate_guard (by rfl) ?_; dsimp only)); at_builtin; refine Kd.R_append_rows (Kd.int .u64) (w0 := w) w.heap.size rfl (.tmp 43) (.tmp 45) 46 31 (.int .u64 0) 8 rfl Tryz.underlying46 info31 rfl (by decide) (by omega) u137001 x137001_2 y145 _ _ _ (fun k_ => (w.heap.size ≤ k_) ∧ some k_ ≠ (.slice Ao31 y145.length co31 : Value).ownBlock) (fun _ => False) rfl rfl ?aO ?aR (fun _ _ h => h) (fun _ h => h.elim) ?aF ?aB ?aS ?aL ?_; (case aR => repeat (first | exact (Kd.R_reads' HO147.out).2.2 | (with_reducible refine Kd.C_alloc ?_ _) | (with_reducible refine Kd.C_drewN ?_ _) | (with_reducible refine Kd.C_drew ?_))); (case aB => exact belS); (case aF => exact (fun k_ hk => ⟨(Nat.le_trans (below_size belS) hk), Kd.fresh' (Kd.R_lt (by (with_reducible repeat (first | apply Kd.R_alloc | apply Kd.R_drewN | apply Kd.R_drew)); exact HO147.out)) k_ hk⟩)); (case aO => exact (by (with_reducible repeat (first | apply Kd.R_alloc | apply Kd.R_drewN | apply Kd.R_drew)); exact HO_137001.out)); (case aS => exact (below_size belS)); (case aL => have := LMc26.out; omega); intro v149 w30 ho hb hg hat; rw [← Ny148.out] at ho; have n0_ := Aside0.mk (Kd.R_over' (by (with_reducible repeat (first | apply Kd.R_alloc | apply Kd.R_drewN | apply Kd.R_drew)); exact HO_5.out) (Kd.R_typed (by (with_reducible repeat (first | apply Kd.R_alloc | apply Kd.R_drewN | apply Kd.R_drew)); exact HO_137001.out)) (by decide) hg); have n1_ := Aside0.mk (Kd.V_afterv (ok := (fun k_ => (w.heap.size ≤ k_) ∧ some k_ ≠ (.slice Ao31 y145.length co31 : Value).ownBlock ∧ k_ ≠ gb136)) (by (with_reducible repeat (first | apply Kd.V_alloc | apply Kd.V_drewN | apply Kd.V_drew)); exact Kd.V_mono HO_29.out (fun _ hk => ⟨⟨hk.1.1, ⟨hk.2, hk.1.2.2⟩⟩, hk.1.2.1⟩)) hg hat); have n2_ := Aside0.mk (blk_grown (g := gb136) (o := .cells #[.string (⟨#[]⟩ : ByteArray), u137001, .slice none 0 0] 48 (0, 0)) (by refine bY ?_; exact BK136.out) hg (Kd.R_ne HO_137001.out BK136.out (by decide))); have n3_ := Aside0.mk (Kd.R_after (ok := (fun k_ => (w.heap.size ≤ k_))) (by (with_reducible repeat (first | apply Kd.R_alloc | apply Kd.R_drewN | apply Kd.R_drew)); exact Kd.R_mono HO147.out (fun _ hk => ⟨hk.1.1, hk.2⟩)) hg hat); have n4_ := Aside0.mk (hb); have n5_ := Aside0.mk (ho); clear HO_5; clear HO_29; clear BK136; clear HO147; clear HB; clear HO_137001; have HO_5 := n0_; have HO_29 := n1_; have BK136 := n2_; have HO147 := n3_; have HB := n4_; have HO150 := n5_; clear n0_ n1_ n2_ n3_ n4_ n5_; clear ho hb hg hat; obtain ⟨Ao32, co32, eo32⟩ := Kd.R_slice HO150.out; subst eo32; obtain ⟨hcz33_0, hcz33_1, hcz33_2, hfz33_0, hfz33_1, hfz33_2⟩ := rows3 (w := w30) BK136))
            go_roundg k2
            case measure => have := HJ3.out; have := HK2.out; omega
            case rel => exact ⟨(wrap64 (x31_2 + 1)), (y148), (.slice Ao32 y148.length co32), (by first | rfl | (simp; done) | (simp [*]; done) | (simp [bne_nil]; done) | (simp [bne_nil, *]; done)), H', ⟨by have := HJ3.out; have := HK2.out; omega⟩, ⟨by (with_reducible repeat (first | apply Kd.R_alloc | apply Kd.R_drewN | apply Kd.R_drew)); exact Kd.R_mono (Kd.R_far (p := ⟨gb136, 1, none⟩) (Kd.R_types HO_5.out BK136.out (by decide)) (fun _ hk => hk.2) (.slice Ao32 y148.length co32)) (fun _ hk => hk.1)⟩, ⟨by (with_reducible repeat (first | apply Kd.V_alloc | apply Kd.V_drewN | apply Kd.V_drew)); exact Kd.V_mono (Kd.V_far (p := ⟨gb136, 1, none⟩) (Kd.V_mono HO_29.out (fun k_ hk => (⟨hk, hk.1.2.2⟩ : _ ∧ k_ ≠ gb136))) (fun _ hk => hk.2) (.slice Ao32 y148.length co32)) (fun _ hk => ⟨hk.1.1.1, ⟨hk.1.2, hk.1.1.2.2⟩⟩)⟩, ⟨by (with_reducible repeat (first | apply Kd.R_alloc | apply Kd.R_drewN | apply Kd.R_drew)); exact Kd.R_mono (Kd.R_far (p := ⟨gb136, 1, none⟩) (Kd.R_types HO150.out BK136.out (by decide)) (fun _ hk => hk.2) (.slice Ao32 y148.length co32)) (fun _ hk => hk.1.1)⟩, ⟨by refine bY ?_; refine blk_put (cs := #[.string (⟨#[]⟩ : ByteArray), u137001, .slice none 0 0]) ?_ 1 _ rfl; refine bY ?_; exact BK136.out⟩, ⟨by repeat (first | (with_reducible first | exact HB.out | apply below_alloc | apply pw_below_drewN | apply below_drew1 | refine below_set ?_ GE136.out) | exact HB.out)⟩⟩
           ·rw [if_neg c26] at H
            exact absurd H (by simp)
          ·replace c25 := Bool.eq_false_iff.mpr c25
           subst c25
           have H1 : (some (([] : List (S48)), false, 2)) = some (r1, r2, r3) := by rw [if_neg (show ¬ (false = true) by decide)] at H; exact H
           clear H
           have H := H1
           clear H1
           simp only [Option.some.injEq, Prod.mk.injEq] at H
           obtain ⟨rfl, rfl, rfl⟩ := H
           have p142 : 0 ≤ (x31_2 : Int) := of_decide_eq_true (by first | (with_reducible assumption) | assumption)
           have q142 : x31_2 < (y137.length : Int) := of_decide_eq_true (by first | (with_reducible assumption) | assumption)
           obtain ⟨ad142, e142, hx142_0⟩ := Kd.at_string (Kd.V_reads' HO_29.out).2.2 x31_2 p142 q142
           cases e142
           replace p142 := eq_true p142
           replace q142 := eq_true q142
           go_wp2_with (first | ((with_reducible refine gate_callee (f := 42) rfl ?_); refine goesL_ (some 37) rfl rfl Tryz.func42 (by kernel_rfl) rfl #[.string (rdOf ByteArray.empty y137 x31_2)] rfl (by (try simp only [List.map_toArray, List.map_cons, List.map_nil]); first | done | rfl | (simp only [List.length_drop, List.length_take]; rfl)) ?_; (with_reducible refine (spec_hundreds.calls k2 (rdOf ByteArray.empty y137 x31_2) t143 false _ A24.out).mono ?_); rintro e w' ⟨rfl, ⟨nd, rfl⟩⟩; refine ⟨_, rfl, ?_⟩))
           go_ret3
           exact ⟨_, by first | rfl | (simp [errW_none, errW_some] <;> rfl) | (simp [*, errW_none, errW_some] <;> rfl), Kd.V_nil _ _ _ _ _, by repeat (first | (with_reducible first | exact HB.out | apply below_alloc | apply pw_below_drewN | apply below_drew1 | refine below_set ?_ GE136.out) | exact HB.out)⟩
         ·rw [if_neg c23] at H
          exact absurd H (by simp)
        ·rw [if_neg c22] at H
         exact absurd H (by simp)
       ·rw [if_neg c21] at H
        have c21b0 : decide (x31_2 < (y137.length : Int)) = false := decide_eq_false c21
        clear c21
        by_cases c34 : 3 < (t129.length : Int)
        ·rw [if_pos c34] at H
         have c34b0 : decide (3 < (t129.length : Int)) = true := decide_eq_true c34
         have c34b1 : decide (3 < t129.length) = true := decide_eq_true (by omega)
         clear c34
         replace H := Option.bind_eq_some_iff.mp H
         obtain ⟨t152, A350, H⟩ := H
         have A35 := Aside0.mk A350
         clear A350
         by_cases c36 : 4 < (t129.length : Int)
         ·rw [if_pos c36] at H
          have c36b0 : decide (4 < (t129.length : Int)) = true := decide_eq_true c36
          have c36b1 : decide (4 < t129.length) = true := decide_eq_true (by omega)
          clear c36
          obtain ⟨y156, hy156⟩ : ∃ y_ : List ByteArray, y_ = (([rdOf ByteArray.empty t129 4] : List ByteArray)) := ⟨_, rfl⟩
          replace H : (if t152.length + y156.length < 8796093022208 then ((spec_decimals.f k2 (t152 ++ y156)).bind fun bt162 => (if x137001_2.length + bt162.1.length < 17592186044416 then ((spec_meant__LoadavgPrint.f k2 a0 (([(⟨(⟨#[]⟩ : ByteArray), (x137001_2 ++ bt162.1), ([] : List ByteArray)⟩ : S48)] : List (S48))) bt162.2 false).bind fun bt172 => (some (bt172.1, bt172.2.1, bt172.2.2))) else (none))) else (none)) = some (r1, r2, r3) := by first | (rw [hy156]; with_reducible exact H) | (have H2_ := (Option.bind_some _ _).symm.trans H; rw [hy156]; with_reducible exact H2_) | (have H2_ := (Option.bind_some _ _).symm.trans H; with_reducible exact H2_) | with_reducible exact H | (rw [hy156]; exact H) | exact H
          have Ny156 := Aside0.mk hy156
          clear hy156
          by_cases c37 : t152.length + y156.length < 8796093022208
          ·rw [if_pos c37] at H
           have LMc37 := Aside0.mk c37
           clear c37
           obtain ⟨y159, hy159⟩ : ∃ y_ : List ByteArray, y_ = (t152 ++ y156) := ⟨_, rfl⟩
           replace H : ((spec_decimals.f k2 y159).bind fun bt162 => (if x137001_2.length + bt162.1.length < 17592186044416 then ((spec_meant__LoadavgPrint.f k2 a0 (([(⟨(⟨#[]⟩ : ByteArray), (x137001_2 ++ bt162.1), ([] : List ByteArray)⟩ : S48)] : List (S48))) bt162.2 false).bind fun bt172 => (some (bt172.1, bt172.2.1, bt172.2.2))) else (none))) = some (r1, r2, r3) := by first | (rw [hy159]; with_reducible exact H) | (have H2_ := (Option.bind_some _ _).symm.trans H; rw [hy159]; with_reducible exact H2_) | (have H2_ := (Option.bind_some _ _).symm.trans H; with_reducible exact H2_) | with_reducible exact H | (rw [hy159]; exact H) | exact H
           have Ny159 := Aside0.mk hy159
           clear hy159
           replace H := Option.bind_eq_some_iff.mp H
           obtain ⟨⟨t162, t163⟩, A380, H⟩ := H
           have A38 := Aside0.mk A380
           clear A380
           by_cases c39 : x137001_2.length + t162.length < 17592186044416
           ·rw [if_pos c39] at H
            have LMc39 := Aside0.mk c39
            clear c39
            obtain ⟨y166, hy166⟩ : ∃ y_ : List Int, y_ = (x137001_2 ++ t162) := ⟨_, rfl⟩
            replace H : ((spec_meant__LoadavgPrint.f k2 a0 (([(⟨(⟨#[]⟩ : ByteArray), y166, ([] : List ByteArray)⟩ : S48)] : List (S48))) t163 false).bind fun bt172 => (some (bt172.1, bt172.2.1, bt172.2.2))) = some (r1, r2, r3) := by first | (rw [hy166]; with_reducible exact H) | (have H2_ := (Option.bind_some _ _).symm.trans H; rw [hy166]; with_reducible exact H2_) | (have H2_ := (Option.bind_some _ _).symm.trans H; with_reducible exact H2_) | with_reducible exact H | (rw [hy166]; exact H) | exact H
            have Ny166 := Aside0.mk hy166
            clear hy166
            obtain ⟨y169, hy169⟩ : ∃ y_ : List (S48), y_ = (([(⟨(⟨#[]⟩ : ByteArray), y166, ([] : List ByteArray)⟩ : S48)] : List (S48))) := ⟨_, rfl⟩
            replace H : ((spec_meant__LoadavgPrint.f k2 a0 y169 t163 false).bind fun bt172 => (some (bt172.1, bt172.2.1, bt172.2.2))) = some (r1, r2, r3) := by first | (rw [hy169]; with_reducible exact H) | (have H2_ := (Option.bind_some _ _).symm.trans H; rw [hy169]; with_reducible exact H2_) | (have H2_ := (Option.bind_some _ _).symm.trans H; with_reducible exact H2_) | with_reducible exact H | (rw [hy169]; exact H) | exact H
            have Ny169 := Aside0.mk hy169
            clear hy169
            replace H := Option.bind_eq_some_iff.mp H
            obtain ⟨⟨t172, t175, t176⟩, A400, H⟩ := H
            have A40 := Aside0.mk A400
            clear A400
            simp only [Option.some.injEq, Prod.mk.injEq] at H
            obtain ⟨rfl, rfl, rfl⟩ := H
            try go_wp2
            have n0_ := Aside0.mk (Kd.R_drew HO_5.out)
            have n1_ := Aside0.mk (Kd.V_drew HO_29.out)
            have n2_ := Aside0.mk (Kd.R_drew HO_137001.out)
            have n3_ := Aside0.mk (blk_drew BK136.out)
            have n4_ := Aside0.mk (below_drew1 HB.out)
            clear HO_5
            clear HO_29
            clear HO_137001
            clear BK136
            clear HB
            have HO_5 := n0_
            have HO_29 := n1_
            have HO_137001 := n2_
            have BK136 := n3_
            have HB := n4_
            clear n0_ n1_ n2_ n3_ n4_
            have p151 : 0 ≤ (3 : Int) := (by omega)
            have q151 : 3 < (t129.length : Int) := of_decide_eq_true (by first | (with_reducible assumption) | assumption)
            obtain ⟨ad151, e151, hx151_0⟩ := Kd.at_string (Kd.R_reads' HO_5.out).2.2 3 p151 q151
            cases e151
            (try simp only [show (3 : Int).toNat = 3 from rfl, Nat.reduceMul, Nat.reduceEqDiff, Go.Addr.add, ↓reduceIte] at hx151_0)
            have qi151 : (3 < t129.length) = True := eq_true (by omega)
            (try rw [show ((3 : Int)).toNat = 3 from rfl] at hx151_0)
            replace p151 := eq_true p151
            replace q151 := eq_true q151
            have p155 : 0 ≤ (4 : Int) := (by omega)
            have q155 : 4 < (t129.length : Int) := of_decide_eq_true (by first | (with_reducible assumption) | assumption)
            obtain ⟨ad155, e155, hx155_0⟩ := Kd.at_string (Kd.R_reads' HO_5.out).2.2 4 p155 q155
            obtain rfl : ad151 = ad155 := (by injection e155)
            (try simp only [show (4 : Int).toNat = 4 from rfl, Nat.reduceMul, Nat.reduceEqDiff, Go.Addr.add, ↓reduceIte] at hx155_0)
            have qi155 : (4 < t129.length) = True := eq_true (by omega)
            (try rw [show ((4 : Int)).toNat = 4 from rfl] at hx155_0)
            replace p155 := eq_true p155
            replace q155 := eq_true q155
            refine start_ (n := 15) (S := fun w' => w'.cell? ⟨ad151.block, ad151.off + 3, none⟩ = some (.string (rdOf ByteArray.empty t129 3)) ∧ w'.cell? ⟨ad151.block, ad151.off + 4, none⟩ = some (.string (rdOf ByteArray.empty t129 4))) (ds := [8]) (tfA 0 15) (by kernel_rfl) rfl rfl ⟨hx151_0, hx155_0⟩ (fun hHeld => ?_); refine with_tabW spec_LoadavgRead.tab13 spec_LoadavgRead.bits13 (fun HT_ HW_ => ?_)
            generalize wr.drew = w41 at HO_5 HO_29 HO_137001 BK136 HB hx151_0 hx155_0 hHeld ⊢
            refine pure_ (i := 0) (N := some 50) (v := ?_) (a' := ?_) (tfA 1 14) rfl rfl (any_of HT_.out (by kernel_rfl)) (fun _ _ _ h => h) (Or.inl ⟨by rfl, ?_⟩) ?_ ?_
            rotate_left
            ·intro w'
             go_simp
             with_reducible rfl
            rotate_left
            ·simp only [Act.put, sA, s0, s1, i64_w, i32_w]
             rfl
            refine pure_ (i := 1) (N := some 51) (v := ?_) (a' := ?_) (tfA 2 13) rfl rfl (any_of HT_.out (by kernel_rfl)) (fun _ _ _ h => h) (Or.inl ⟨by rfl, ?_⟩) ?_ ?_
            rotate_left
            ·intro w'
             go_simp
             with_reducible rfl
            rotate_left
            ·simp only [Act.put, sA, s0, s1, i64_w, i32_w]
             rfl
            refine pure_ (i := 4) (N := some 54) (v := ?_) (a' := ?_) (bnA 15 19) rfl rfl (any_of HT_.out (by kernel_rfl)) (fun _ _ _ h => h) (Or.inl ⟨by rfl, ?_⟩) ?_ ?_
            rotate_left
            ·intro w'
             go_simp
             with_reducible rfl
            rotate_left
            ·simp only [Act.put, sA, s0, s1, i64_w, i32_w]
             rfl
            refine pure_ (i := 5) (N := some 55) (v := ?_) (a' := ?_) (bnA 15 51) rfl rfl (any_of HT_.out (by kernel_rfl)) (fun _ _ _ h => h) (Or.inl ⟨by rfl, ?_⟩) ?_ ?_
            rotate_left
            ·intro w'
             go_simp
             with_reducible rfl
            rotate_left
            ·simp only [Act.put, sA, s0, s1, i64_w, i32_w]
             rfl
            refine take_ (i := 2) (N := some 52) (v := ?_) (a' := ?_) (bnA 15 55) rfl rfl (take_ofW HT_.out HW_.out (by kernel_rfl)) (fun _ _ _ h => h) (Or.inl ⟨by rfl, ?_⟩) hHeld ?_ ?_
            rotate_left
            ·rintro w' ⟨s0, s1⟩
             go_simp
             with_reducible rfl
            rotate_left
            ·simp only [Act.put, sA, s0, s1, i64_w, i32_w]
             rfl
            refine take_ (i := 6) (N := some 56) (v := ?_) (a' := ?_) (bnA 15 119) rfl rfl (take_ofW HT_.out HW_.out (by kernel_rfl)) (fun _ _ _ h => h) (Or.inl ⟨by rfl, ?_⟩) hHeld ?_ ?_
            rotate_left
            ·rintro w' ⟨s0, s1⟩
             go_simp
             with_reducible rfl
            rotate_left
            ·simp only [Act.put, sA, s0, s1, i64_w, i32_w]
             rfl
            refine join_ (σ := Value × Value) 7 (tfA 8 7) (fun s_ => [(53, s_.1), (57, s_.2)]) (fun s_ w' => (w'.cell? ⟨ad151.block, ad151.off + 3, none⟩ = some (.string (rdOf ByteArray.empty t129 3)) ∧ w'.cell? ⟨ad151.block, ad151.off + 4, none⟩ = some (.string (rdOf ByteArray.empty t129 4))) ∧ (Kd.R Kd.string 9 w' w.heap.size (fun k_ => (w.heap.size ≤ k_) ∧ some k_ ≠ (s_.2 : Value).ownBlock ∧ some k_ ≠ (.slice (some ad151) t129.length co20 : Value).ownBlock) s_.1 t152) ∧ (Kd.R Kd.string 9 w' w.heap.size (fun k_ => (w.heap.size ≤ k_) ∧ some k_ ≠ (s_.1 : Value).ownBlock ∧ some k_ ≠ (.slice (some ad151) t129.length co20 : Value).ownBlock) s_.2 y156) ∧ (Kd.R (Kd.int .u64) 31 w' w.heap.size (fun k_ => (w.heap.size ≤ k_)) u137001 x137001_2) ∧ (Kd.V Kd.string 9 w' w.heap.size (fun k_ => (w.heap.size ≤ k_) ∧ some k_ ≠ (s_.1 : Value).ownBlock ∧ some k_ ≠ (s_.2 : Value).ownBlock ∧ some k_ ≠ (u137001 : Value).ownBlock ∧ k_ ≠ gb136) (.slice (some ad151) y137.length co20) y137) ∧ (Kd.R Kd.string 9 w' w.heap.size (fun k_ => (w.heap.size ≤ k_) ∧ some k_ ≠ (s_.1 : Value).ownBlock ∧ some k_ ≠ (s_.2 : Value).ownBlock) (.slice (some ad151) t129.length co20) t129) ∧ (w'.heap[gb136]? = some (.cells #[.string (⟨#[]⟩ : ByteArray), u137001, .slice none 0 0] 48 (0, 0))) ∧ (Below w.heap.size w w')) ?_ ?_
            rotate_left
            ·intro hCont
             refine two_ (i := 3) (j := 7) (Ni := some 53) (Nj := some 57) (tfA 7 8) (bnA 15 247) rfl rfl rfl rfl (two_of HT_.out (by kernel_rfl)) (by decide) (by decide) (fun K hK => ?_) (fun K hK => ?_)
             ·skip
              refine goes_ Tryz.func41 (by kernel_rfl) rfl #[.string (rdOf ByteArray.empty t129 3), .int .u8 47] (by rfl) rfl rfl (by (try simp only [List.map_toArray, List.map_cons, List.map_nil]); first | done | rfl | (simp only [List.length_drop, List.length_take]; rfl)) ?_
              with_reducible refine (spec_Parts.calls k2 (rdOf ByteArray.empty t129 3) 47 t152 _ A35.out).mono ?_
              rintro e w42 ⟨v153, rfl, ho0, hb⟩
              have HS0_ := (hb.cell (World.block_lt_of_cell? _ _ (hHeld.1))).trans (hHeld.1)
              have HS1_ := (hb.cell (World.block_lt_of_cell? _ _ (hHeld.2))).trans (hHeld.2)
              refine ⟨_, rfl, ?_⟩
              have n0_ := Aside0.mk (Kd.R_elder' (by (with_reducible repeat (first | apply Kd.R_alloc | apply Kd.R_drewN | apply Kd.R_drew)); exact HO_5.out) (Kd.R_base ho0) hb)
              have n1_ := Aside0.mk (Kd.V_elder' (by (with_reducible repeat (first | apply Kd.V_alloc | apply Kd.V_drewN | apply Kd.V_drew)); exact HO_29.out) (Kd.R_base ho0) hb)
              have n2_ := Aside0.mk (Kd.R_below (by (with_reducible repeat (first | apply Kd.R_alloc | apply Kd.R_drewN | apply Kd.R_drew)); exact HO_137001.out) hb)
              have n3_ := Aside0.mk (Kd.R_lower (Kd.R_new' (Kd.R_newM (M := fun k_ => (w.heap.size ≤ k_)) ho0 (below_size belS) (fun k_ h_ => h_)) (Kd.R_lt (by (with_reducible repeat (first | apply Kd.R_alloc | apply Kd.R_drewN | apply Kd.R_drew)); exact HO_5.out))) (below_size belS))
              have n4_ := Aside0.mk (blk_below (g := gb136) (o := .cells #[.string (⟨#[]⟩ : ByteArray), u137001, .slice none 0 0] 48 (0, 0)) (by refine bY ?_; exact BK136.out) hb)
              have n5_ := Aside0.mk (below_step belS hb)
              clear HO_5
              clear HO_29
              clear HO_137001
              clear BK136
              clear HB
              have HO_5 := n0_
              have HO_29 := n1_
              have HO_137001 := n2_
              have HO154 := n3_
              have BK136 := n4_
              have HB := n5_
              clear n0_ n1_ n2_ n3_ n4_ n5_
              (try clear hb)
              (try clear hb2)
              (try clear hk)
              (try clear hi)
              (try clear ho0)
              refine hK.out _ _ ⟨HS0_, HS1_⟩ (fun hHeld => ?_)
              clear hK K
              refine norm_ (a' := ?_) ?_ ?_
              rotate_left
              ·show Act.put _ (some 53) _ = _
               simp only [Act.put, sA, s0, s1, i64_w, i32_w]
               rfl
              refine one_ (i := 7) (N := some 57) (tfA 8 7) rfl rfl (one_of HT_.out (by kernel_rfl)) (by decide) (fun K hK => ?_)
              refine Kd.R_lit_step Kd.string _ 9 ?hg (N := 57) ?hd (xs := ([rdOf ByteArray.empty t129 4] : List ByteArray)) (inner := [.string (rdOf ByteArray.empty t129 4)]) (ok := fun _ => True) (okp := fun _ => True) ?hr ?hp (fun _ hk => hk) trivial (Below.refl _ _) (Nat.le_refl _) (by simp) ?_; (case hd => rfl); (case hg => rfl); (case hr => first | (go_simp; done) | (go_simp; rfl)); (case hp => exact (Reps.one (show Kd.M Kd.string _ _ _ (rdOf ByteArray.empty t129 4) [.string (rdOf ByteArray.empty t129 4)] from rfl) (Reps.none _ _)))
              intro v157 w43 ho44 hb hg_ hnew_
              have HS0_ := (hb.cell (World.block_lt_of_cell? _ _ (hHeld.1))).trans (hHeld.1)
              have HS1_ := (hb.cell (World.block_lt_of_cell? _ _ (hHeld.2))).trans (hHeld.2)
              clear hg_ hnew_
              (first | rw [← Ny156.out] at ho44 | (simp only [Int.reduceToNat] at ho44; rw [← Ny156.out] at ho44))
              have n0_ := Aside0.mk (Kd.R_elder' (by (with_reducible repeat (first | apply Kd.R_alloc | apply Kd.R_drewN | apply Kd.R_drew)); exact HO_5.out) (Kd.R_base ho44) hb)
              have n1_ := Aside0.mk (Kd.V_elder' (by (with_reducible repeat (first | apply Kd.V_alloc | apply Kd.V_drewN | apply Kd.V_drew)); exact HO_29.out) (Kd.R_base ho44) hb)
              have n2_ := Aside0.mk (Kd.R_below (by (with_reducible repeat (first | apply Kd.R_alloc | apply Kd.R_drewN | apply Kd.R_drew)); exact HO_137001.out) hb)
              have n3_ := Aside0.mk (Kd.R_elder' (by (with_reducible repeat (first | apply Kd.R_alloc | apply Kd.R_drewN | apply Kd.R_drew)); exact HO154.out) (Kd.R_base ho44) hb)
              have n4_ := Aside0.mk (Kd.R_lower (Kd.R_new' (Kd.R_new' (Kd.R_newM (M := fun k_ => (w.heap.size ≤ k_)) ho44 (below_size belS) (fun k_ h_ => h_)) (Kd.R_lt (by (with_reducible repeat (first | apply Kd.R_alloc | apply Kd.R_drewN | apply Kd.R_drew)); exact HO_5.out))) (Kd.R_lt (by (with_reducible repeat (first | apply Kd.R_alloc | apply Kd.R_drewN | apply Kd.R_drew)); exact HO154.out))) (below_size belS))
              have n5_ := Aside0.mk (blk_below (g := gb136) (o := .cells #[.string (⟨#[]⟩ : ByteArray), u137001, .slice none 0 0] 48 (0, 0)) (by refine bY ?_; exact BK136.out) hb)
              have n6_ := Aside0.mk (below_step belS hb)
              clear HO_5
              clear HO_29
              clear HO_137001
              clear HO154
              clear BK136
              clear HB
              have HO_5 := n0_
              have HO_29 := n1_
              have HO_137001 := n2_
              have HO154 := n3_
              have HO158 := n4_
              have BK136 := n5_
              have HB := n6_
              clear n0_ n1_ n2_ n3_ n4_ n5_ n6_
              clear hb ho44
              refine hK.out _ _ ⟨HS0_, HS1_⟩ (fun hHeld => ?_)
              clear hK K
              refine norm_ (a' := ?_) ?_ ?_
              rotate_left
              ·show Act.put _ (some 57) _ = _
               simp only [Act.put, sA, s0, s1, i64_w, i32_w]
               rfl
              exact norm_ (by simp only [putAll, Act.put, List.setIfInBounds_toArray, List.set_cons_zero, List.set_cons_succ]) (hCont (v153, v157) _ ⟨hHeld, (by (with_reducible repeat (first | apply Kd.R_alloc | apply Kd.R_drewN | apply Kd.R_drew)); exact Kd.R_mono HO154.out (fun _ hk => ⟨hk.1.1.1, ⟨hk.2, hk.1.2⟩⟩)), (by (with_reducible repeat (first | apply Kd.R_alloc | apply Kd.R_drewN | apply Kd.R_drew)); exact Kd.R_mono HO158.out (fun _ hk => ⟨hk.1.1.1, ⟨hk.2, hk.1.2⟩⟩)), (by (with_reducible repeat (first | apply Kd.R_alloc | apply Kd.R_drewN | apply Kd.R_drew)); exact HO_137001.out), (by (with_reducible repeat (first | apply Kd.V_alloc | apply Kd.V_drewN | apply Kd.V_drew)); exact Kd.V_mono HO_29.out (fun _ hk => ⟨hk.1.1.1, ⟨hk.1.2, ⟨hk.2, ⟨hk.1.1.2.1, hk.1.1.2.2⟩⟩⟩⟩)), (by (with_reducible repeat (first | apply Kd.R_alloc | apply Kd.R_drewN | apply Kd.R_drew)); exact Kd.R_mono HO_5.out (fun _ hk => ⟨hk.1.1, ⟨hk.1.2, hk.2⟩⟩)), (by refine bY ?_; exact BK136.out), belS⟩)
             ·skip
              refine Kd.R_lit_step Kd.string _ 9 ?hg (N := 57) ?hd (xs := ([rdOf ByteArray.empty t129 4] : List ByteArray)) (inner := [.string (rdOf ByteArray.empty t129 4)]) (ok := fun _ => True) (okp := fun _ => True) ?hr ?hp (fun _ hk => hk) trivial (Below.refl _ _) (Nat.le_refl _) (by simp) ?_; (case hd => rfl); (case hg => rfl); (case hr => first | (go_simp; done) | (go_simp; rfl)); (case hp => exact (Reps.one (show Kd.M Kd.string _ _ _ (rdOf ByteArray.empty t129 4) [.string (rdOf ByteArray.empty t129 4)] from rfl) (Reps.none _ _)))
              intro v157 w42 ho43 hb hg_ hnew_
              have HS0_ := (hb.cell (World.block_lt_of_cell? _ _ (hHeld.1))).trans (hHeld.1)
              have HS1_ := (hb.cell (World.block_lt_of_cell? _ _ (hHeld.2))).trans (hHeld.2)
              clear hg_ hnew_
              (first | rw [← Ny156.out] at ho43 | (simp only [Int.reduceToNat] at ho43; rw [← Ny156.out] at ho43))
              have n0_ := Aside0.mk (Kd.R_elder' (by (with_reducible repeat (first | apply Kd.R_alloc | apply Kd.R_drewN | apply Kd.R_drew)); exact HO_5.out) (Kd.R_base ho43) hb)
              have n1_ := Aside0.mk (Kd.V_elder' (by (with_reducible repeat (first | apply Kd.V_alloc | apply Kd.V_drewN | apply Kd.V_drew)); exact HO_29.out) (Kd.R_base ho43) hb)
              have n2_ := Aside0.mk (Kd.R_below (by (with_reducible repeat (first | apply Kd.R_alloc | apply Kd.R_drewN | apply Kd.R_drew)); exact HO_137001.out) hb)
              have n3_ := Aside0.mk (Kd.R_lower (Kd.R_new' (Kd.R_newM (M := fun k_ => (w.heap.size ≤ k_)) ho43 (below_size belS) (fun k_ h_ => h_)) (Kd.R_lt (by (with_reducible repeat (first | apply Kd.R_alloc | apply Kd.R_drewN | apply Kd.R_drew)); exact HO_5.out))) (below_size belS))
              have n4_ := Aside0.mk (blk_below (g := gb136) (o := .cells #[.string (⟨#[]⟩ : ByteArray), u137001, .slice none 0 0] 48 (0, 0)) (by refine bY ?_; exact BK136.out) hb)
              have n5_ := Aside0.mk (below_step belS hb)
              clear HO_5
              clear HO_29
              clear HO_137001
              clear BK136
              clear HB
              have HO_5 := n0_
              have HO_29 := n1_
              have HO_137001 := n2_
              have HO158 := n3_
              have BK136 := n4_
              have HB := n5_
              clear n0_ n1_ n2_ n3_ n4_ n5_
              clear hb ho43
              refine hK.out _ _ ⟨HS0_, HS1_⟩ (fun hHeld => ?_)
              clear hK K
              refine norm_ (a' := ?_) ?_ ?_
              rotate_left
              ·show Act.put _ (some 57) _ = _
               simp only [Act.put, sA, s0, s1, i64_w, i32_w]
               rfl
              refine one_ (i := 3) (N := some 53) (tfA 8 7) rfl rfl (one_of HT_.out (by kernel_rfl)) (by decide) (fun K hK => ?_)
              refine goes_ Tryz.func41 (by kernel_rfl) rfl #[.string (rdOf ByteArray.empty t129 3), .int .u8 47] (by rfl) rfl rfl (by (try simp only [List.map_toArray, List.map_cons, List.map_nil]); first | done | rfl | (simp only [List.length_drop, List.length_take]; rfl)) ?_
              with_reducible refine (spec_Parts.calls k2 (rdOf ByteArray.empty t129 3) 47 t152 _ A35.out).mono ?_
              rintro e w44 ⟨v153, rfl, ho0, hb⟩
              have HS0_ := (hb.cell (World.block_lt_of_cell? _ _ (hHeld.1))).trans (hHeld.1)
              have HS1_ := (hb.cell (World.block_lt_of_cell? _ _ (hHeld.2))).trans (hHeld.2)
              refine ⟨_, rfl, ?_⟩
              have n0_ := Aside0.mk (Kd.R_elder' (by (with_reducible repeat (first | apply Kd.R_alloc | apply Kd.R_drewN | apply Kd.R_drew)); exact HO_5.out) (Kd.R_base ho0) hb)
              have n1_ := Aside0.mk (Kd.V_elder' (by (with_reducible repeat (first | apply Kd.V_alloc | apply Kd.V_drewN | apply Kd.V_drew)); exact HO_29.out) (Kd.R_base ho0) hb)
              have n2_ := Aside0.mk (Kd.R_below (by (with_reducible repeat (first | apply Kd.R_alloc | apply Kd.R_drewN | apply Kd.R_drew)); exact HO_137001.out) hb)
              have n3_ := Aside0.mk (Kd.R_elder' (by (with_reducible repeat (first | apply Kd.R_alloc | apply Kd.R_drewN | apply Kd.R_drew)); exact HO158.out) (Kd.R_base ho0) hb)
              have n4_ := Aside0.mk (Kd.R_lower (Kd.R_new' (Kd.R_new' (Kd.R_newM (M := fun k_ => (w.heap.size ≤ k_)) ho0 (below_size belS) (fun k_ h_ => h_)) (Kd.R_lt (by (with_reducible repeat (first | apply Kd.R_alloc | apply Kd.R_drewN | apply Kd.R_drew)); exact HO_5.out))) (Kd.R_lt (by (with_reducible repeat (first | apply Kd.R_alloc | apply Kd.R_drewN | apply Kd.R_drew)); exact HO158.out))) (below_size belS))
              have n5_ := Aside0.mk (blk_below (g := gb136) (o := .cells #[.string (⟨#[]⟩ : ByteArray), u137001, .slice none 0 0] 48 (0, 0)) (by refine bY ?_; exact BK136.out) hb)
              have n6_ := Aside0.mk (below_step belS hb)
              clear HO_5
              clear HO_29
              clear HO_137001
              clear HO158
              clear BK136
              clear HB
              have HO_5 := n0_
              have HO_29 := n1_
              have HO_137001 := n2_
              have HO158 := n3_
              have HO154 := n4_
              have BK136 := n5_
              have HB := n6_
              clear n0_ n1_ n2_ n3_ n4_ n5_ n6_
              (try clear hb)
              (try clear hb2)
              (try clear hk)
              (try clear hi)
              (try clear ho0)
              refine hK.out _ _ ⟨HS0_, HS1_⟩ (fun hHeld => ?_)
              clear hK K
              refine norm_ (a' := ?_) ?_ ?_
              rotate_left
              ·show Act.put _ (some 53) _ = _
               simp only [Act.put, sA, s0, s1, i64_w, i32_w]
               rfl
              exact norm_ (by simp only [putAll, Act.put, List.setIfInBounds_toArray, List.set_cons_zero, List.set_cons_succ]) (hCont (v153, v157) _ ⟨hHeld, (by (with_reducible repeat (first | apply Kd.R_alloc | apply Kd.R_drewN | apply Kd.R_drew)); exact Kd.R_mono HO154.out (fun _ hk => ⟨hk.1.1.1, ⟨hk.2, hk.1.2⟩⟩)), (by (with_reducible repeat (first | apply Kd.R_alloc | apply Kd.R_drewN | apply Kd.R_drew)); exact Kd.R_mono HO158.out (fun _ hk => ⟨hk.1.1.1, ⟨hk.2, hk.1.2⟩⟩)), (by (with_reducible repeat (first | apply Kd.R_alloc | apply Kd.R_drewN | apply Kd.R_drew)); exact HO_137001.out), (by (with_reducible repeat (first | apply Kd.V_alloc | apply Kd.V_drewN | apply Kd.V_drew)); exact Kd.V_mono HO_29.out (fun _ hk => ⟨hk.1.1.1, ⟨hk.2, ⟨hk.1.2, ⟨hk.1.1.2.1, hk.1.1.2.2⟩⟩⟩⟩)), (by (with_reducible repeat (first | apply Kd.R_alloc | apply Kd.R_drewN | apply Kd.R_drew)); exact Kd.R_mono HO_5.out (fun _ hk => ⟨hk.1.1, ⟨hk.2, hk.1.2⟩⟩)), (by refine bY ?_; exact BK136.out), belS⟩)
            rintro ⟨v153, v157⟩ w45 ⟨hS_, h0_, h1_, h2_, h3_, h4_, h5_, h6_⟩
            have n0_ : Aside0 (Kd.R Kd.string 9 w45 w.heap.size (fun k_ => (w.heap.size ≤ k_) ∧ some k_ ≠ (v157 : Value).ownBlock ∧ some k_ ≠ (.slice (some ad151) t129.length co20 : Value).ownBlock) v153 t152) := ⟨h0_⟩
            have n1_ : Aside0 (Kd.R Kd.string 9 w45 w.heap.size (fun k_ => (w.heap.size ≤ k_) ∧ some k_ ≠ (v153 : Value).ownBlock ∧ some k_ ≠ (.slice (some ad151) t129.length co20 : Value).ownBlock) v157 y156) := ⟨h1_⟩
            have n2_ : Aside0 (Kd.R (Kd.int .u64) 31 w45 w.heap.size (fun k_ => (w.heap.size ≤ k_)) u137001 x137001_2) := ⟨h2_⟩
            have n3_ : Aside0 (Kd.V Kd.string 9 w45 w.heap.size (fun k_ => (w.heap.size ≤ k_) ∧ some k_ ≠ (v153 : Value).ownBlock ∧ some k_ ≠ (v157 : Value).ownBlock ∧ some k_ ≠ (u137001 : Value).ownBlock ∧ k_ ≠ gb136) (.slice (some ad151) y137.length co20) y137) := ⟨h3_⟩
            have n4_ : Aside0 (Kd.R Kd.string 9 w45 w.heap.size (fun k_ => (w.heap.size ≤ k_) ∧ some k_ ≠ (v153 : Value).ownBlock ∧ some k_ ≠ (v157 : Value).ownBlock) (.slice (some ad151) t129.length co20) t129) := ⟨h4_⟩
            have n5_ : Aside0 (w45.heap[gb136]? = some (.cells #[.string (⟨#[]⟩ : ByteArray), u137001, .slice none 0 0] 48 (0, 0))) := ⟨h5_⟩
            have n6_ : Aside0 (Below w.heap.size w w45) := ⟨h6_⟩
            clear HO_5
            clear HO_29
            clear HO_137001
            clear BK136
            clear HB
            clear h0_ h1_ h2_ h3_ h4_ h5_ h6_
            have HO154 := n0_
            have HO158 := n1_
            have HO_137001 := n2_
            have HO_29 := n3_
            have HO_5 := n4_
            have BK136 := n5_
            have HB := n6_
            clear n0_ n1_ n2_ n3_ n4_ n5_ n6_
            have hHeld : w45.cell? ⟨ad151.block, ad151.off + 3, none⟩ = some (.string (rdOf ByteArray.empty t129 3)) ∧ w45.cell? ⟨ad151.block, ad151.off + 4, none⟩ = some (.string (rdOf ByteArray.empty t129 4)) := hS_
            obtain ⟨Ao47, co47, eo47⟩ := Kd.R_slice HO158.out
            (first | subst eo47 | (injection eo47 with f1_ f2_ f3_; have f4_ := f1_.symm; have f5_ := f3_.symm; clear f1_ f2_ f3_; subst f4_; subst f5_))
            refine norm_ (a' := ?_) ?_ ?_
            rotate_left
            ·simp only [putAll, Act.put, List.setIfInBounds_toArray, List.set_cons_zero, List.set_cons_succ]
             rfl
            refine last_ (i := 8) (N := some 58) (tfA 9 6) rfl rfl (one_of HT_.out (by kernel_rfl)) (by decide) (fun K hK => ?_)
            refine Kd.R_append_rows_step Kd.string (w0 := w) w.heap.size (by rfl) (.tmp 53) (.tmp 57) 42 9 (.string ⟨#[]⟩) 16 rfl Tryz.underlying42 info9 rfl (by decide) (by omega) v153 t152 y156 _ _ _ (fun k_ => (w.heap.size ≤ k_) ∧ some k_ ≠ (.slice (some ad151) t129.length co20 : Value).ownBlock ∧ some k_ ≠ (.slice Ao47 y156.length co47 : Value).ownBlock) (fun _ => False) rfl rfl ?aO ?aR (fun _ _ h => h) (fun _ h => h.elim) ?aF ?aB ?aS ?aL ?_
            (case aR => repeat (first | exact (Kd.R_reads' HO158.out).2.2 | (with_reducible refine Kd.C_alloc ?_ _) | (with_reducible refine Kd.C_drewN ?_ _) | (with_reducible refine Kd.C_drew ?_)))
            (case aB => exact belS)
            (case aF => exact (fun k_ hk => ⟨(Nat.le_trans (below_size belS) hk), Kd.fresh' (Kd.R_lt (by (with_reducible repeat (first | apply Kd.R_alloc | apply Kd.R_drewN | apply Kd.R_drew)); exact HO_5.out)) k_ hk, Kd.fresh' (Kd.R_lt (by (with_reducible repeat (first | apply Kd.R_alloc | apply Kd.R_drewN | apply Kd.R_drew)); exact HO158.out)) k_ hk⟩))
            (case aO => exact (by (with_reducible repeat (first | apply Kd.R_alloc | apply Kd.R_drewN | apply Kd.R_drew)); exact Kd.R_mono HO154.out (fun _ hk => ⟨hk.1, ⟨hk.2.2, hk.2.1⟩⟩)))
            (case aS => exact (below_size belS))
            (case aL => have := LMc37.out; omega)
            intro v160 w46 ho hb hg hat
            rw [← Ny159.out] at ho
            have n0_ := Aside0.mk (Kd.R_after (ok := (fun k_ => (w.heap.size ≤ k_) ∧ some k_ ≠ (.slice Ao47 y156.length co47 : Value).ownBlock)) (by (with_reducible repeat (first | apply Kd.R_alloc | apply Kd.R_drewN | apply Kd.R_drew)); exact Kd.R_mono HO_5.out (fun _ hk => ⟨⟨hk.1, hk.2.2⟩, hk.2.1⟩)) hg hat)
            have n1_ := Aside0.mk (Kd.V_afterv (ok := (fun k_ => (w.heap.size ≤ k_) ∧ some k_ ≠ (u137001 : Value).ownBlock ∧ some k_ ≠ (.slice Ao47 y156.length co47 : Value).ownBlock ∧ k_ ≠ gb136)) (by (with_reducible repeat (first | apply Kd.V_alloc | apply Kd.V_drewN | apply Kd.V_drew)); exact Kd.V_mono HO_29.out (fun _ hk => ⟨⟨hk.1, ⟨hk.2.2.2.1, ⟨hk.2.2.1, hk.2.2.2.2⟩⟩⟩, hk.2.1⟩)) hg hat)
            have n2_ := Aside0.mk (Kd.R_over' (by (with_reducible repeat (first | apply Kd.R_alloc | apply Kd.R_drewN | apply Kd.R_drew)); exact HO_137001.out) (Kd.R_typed (by (with_reducible repeat (first | apply Kd.R_alloc | apply Kd.R_drewN | apply Kd.R_drew)); exact HO154.out)) (by decide) hg)
            have n3_ := Aside0.mk (blk_grown (g := gb136) (o := .cells #[.string (⟨#[]⟩ : ByteArray), u137001, .slice none 0 0] 48 (0, 0)) (by refine bY ?_; exact BK136.out) hg (Kd.R_ne HO154.out BK136.out (by decide)))
            have n4_ := Aside0.mk (Kd.R_after (ok := (fun k_ => (w.heap.size ≤ k_) ∧ some k_ ≠ (.slice (some ad151) t129.length co20 : Value).ownBlock)) (by (with_reducible repeat (first | apply Kd.R_alloc | apply Kd.R_drewN | apply Kd.R_drew)); exact Kd.R_mono HO158.out (fun _ hk => ⟨⟨hk.1, hk.2.2⟩, hk.2.1⟩)) hg hat)
            have n5_ := Aside0.mk (hb)
            have n6_ := Aside0.mk (ho)
            clear HO_5
            clear HO_29
            clear HO_137001
            clear BK136
            clear HO158
            clear HB
            clear HO154
            have HO_5 := n0_
            have q_3 : ((3 : Int) < (t129.length : Int)) = True := eq_true (by first | omega | (simp only [*]; done))
            have q_4 : ((4 : Int) < (t129.length : Int)) = True := eq_true (by first | omega | (simp only [*]; done))
            clear hHeld
            have hHeld : w46.cell? ⟨ad151.block, ad151.off + 3, none⟩ = some (.string (rdOf ByteArray.empty t129 3)) ∧ w46.cell? ⟨ad151.block, ad151.off + 4, none⟩ = some (.string (rdOf ByteArray.empty t129 4)) := ⟨(by obtain ⟨az_, ez_, hz_⟩ := Kd.at_string (Kd.R_reads' HO_5.out).2.2 3 (by omega) (by first | omega | exact of_eq_true q_3); injection ez_ with ez_; subst ez_; simpa [Addr.add] using hz_), (by obtain ⟨az_, ez_, hz_⟩ := Kd.at_string (Kd.R_reads' HO_5.out).2.2 4 (by omega) (by first | omega | exact of_eq_true q_4); injection ez_ with ez_; subst ez_; simpa [Addr.add] using hz_)⟩
            clear q_3 q_4
            have HO_29 := n1_
            have HO_137001 := n2_
            have BK136 := n3_
            have HO158 := n4_
            have HB := n5_
            have HO161 := n6_
            clear n0_ n1_ n2_ n3_ n4_ n5_ n6_
            clear ho hb hg hat
            obtain ⟨Ao48, co48, eo48⟩ := Kd.R_slice HO161.out
            (first | subst eo48 | (injection eo48 with f1_ f2_ f3_; have f4_ := f1_.symm; have f5_ := f3_.symm; clear f1_ f2_ f3_; subst f4_; subst f5_))
            refine hK.out _ _ ?_
            clear hK K
            refine norm_ (a' := ?_) ?_ ?_
            rotate_left
            ·show Act.put _ (some 58) _ = _
             simp only [Act.put, sA, s0, s1, i64_w, i32_w]
             rfl
            refine one_ (i := 9) (N := some 59) (tfA 10 5) rfl rfl (one_of HT_.out (by kernel_rfl)) (by decide) (fun K hK => ?_)
            refine goes_ Tryz.func43 (by kernel_rfl) rfl #[.slice Ao48 y159.length co48] (by rfl) rfl rfl (by (try simp only [List.map_toArray, List.map_cons, List.map_nil]); first | done | rfl | (simp only [List.length_drop, List.length_take]; rfl)) ?_
            with_reducible refine (spec_decimals.calls k2 _ _ y159 t162 t163 _ ?side1 ?side2 A38.out).mono ?_
            (case side1 => repeat (first | exact (Kd.R_reads' HO161.out).2.2 | (with_reducible refine Kd.C_alloc ?_ _) | (with_reducible refine Kd.C_drewN ?_ _) | (with_reducible refine Kd.C_drew ?_)))
            (case side2 => exact (Kd.R_reads' HO161.out).2.1)
            rintro e w49 ⟨v164, rfl, ho0, hb⟩
            have HS0_ := (hb.cell (World.block_lt_of_cell? _ _ (hHeld.1))).trans (hHeld.1)
            have HS1_ := (hb.cell (World.block_lt_of_cell? _ _ (hHeld.2))).trans (hHeld.2)
            refine ⟨_, rfl, ?_⟩
            have n0_ := Aside0.mk (Kd.R_below (by (with_reducible repeat (first | apply Kd.R_alloc | apply Kd.R_drewN | apply Kd.R_drew)); exact HO_5.out) hb)
            have n1_ := Aside0.mk (Kd.V_elder' (by (with_reducible repeat (first | apply Kd.V_alloc | apply Kd.V_drewN | apply Kd.V_drew)); exact HO_29.out) (Kd.R_base ho0) hb)
            have n2_ := Aside0.mk (Kd.R_elder' (by (with_reducible repeat (first | apply Kd.R_alloc | apply Kd.R_drewN | apply Kd.R_drew)); exact HO_137001.out) (Kd.R_base ho0) hb)
            have n3_ := Aside0.mk (Kd.R_below (by (with_reducible repeat (first | apply Kd.R_alloc | apply Kd.R_drewN | apply Kd.R_drew)); exact HO158.out) hb)
            have n4_ := Aside0.mk (Kd.R_below (by (with_reducible repeat (first | apply Kd.R_alloc | apply Kd.R_drewN | apply Kd.R_drew)); exact HO161.out) hb)
            have n5_ := Aside0.mk (Kd.R_lower (Kd.R_new' (Kd.R_newM (M := fun k_ => (w.heap.size ≤ k_)) ho0 (below_size belS) (fun k_ h_ => h_)) (Kd.R_lt (by (with_reducible repeat (first | apply Kd.R_alloc | apply Kd.R_drewN | apply Kd.R_drew)); exact HO_137001.out))) (below_size belS))
            have n6_ := Aside0.mk (blk_below (g := gb136) (o := .cells #[.string (⟨#[]⟩ : ByteArray), u137001, .slice none 0 0] 48 (0, 0)) (by refine bY ?_; exact BK136.out) hb)
            have n7_ := Aside0.mk (below_step belS hb)
            clear HO_5
            clear HO_29
            clear HO_137001
            clear HO158
            clear HO161
            clear BK136
            clear HB
            have HO_5 := n0_
            have HO_29 := n1_
            have HO_137001 := n2_
            have HO158 := n3_
            have HO161 := n4_
            have HO165 := n5_
            have BK136 := n6_
            have HB := n7_
            clear n0_ n1_ n2_ n3_ n4_ n5_ n6_ n7_
            (try clear hb)
            (try clear hb2)
            (try clear hk)
            (try clear hi)
            (try clear ho0)
            refine hK.out _ _ ⟨HS0_, HS1_⟩ (fun hHeld => ?_)
            clear hK K
            refine norm_ (a' := ?_) ?_ ?_
            rotate_left
            ·show Act.put _ (some 59) _ = _
             simp only [Act.put, sA, s0, s1, i64_w, i32_w]
             rfl
            refine pure_ (i := 10) (N := some 49) (v := ?_) (a' := ?_) (tfA 11 4) rfl rfl (any_of HT_.out (by kernel_rfl)) (fun _ _ _ h => h) (Or.inl ⟨by rfl, ?_⟩) ?_ ?_
            rotate_left
            ·intro w'
             go_simp
             with_reducible rfl
            rotate_left
            ·simp only [Act.put, sA, s0, s1, i64_w, i32_w]
             rfl
            refine pure_ (i := 11) (N := some 60) (v := ?_) (a' := ?_) (tfA 12 3) rfl rfl (any_of HT_.out (by kernel_rfl)) (fun _ _ _ h => h) (Or.inl ⟨by rfl, ?_⟩) ?_ ?_
            rotate_left
            ·intro w'
             go_simp
             with_reducible rfl
            rotate_left
            ·simp only [Act.put, sA, s0, s1, i64_w, i32_w]
             rfl
            refine pure_ (i := 12) (N := some 61) (v := ?_) (a' := ?_) (tfA 13 2) rfl rfl (any_of HT_.out (by kernel_rfl)) (fun _ _ _ h => h) (Or.inl ⟨by rfl, ?_⟩) ?_ ?_
            rotate_left
            ·intro w'
             go_simp
             with_reducible rfl
            rotate_left
            ·simp only [Act.put, sA, s0, s1, i64_w, i32_w]
             rfl
            refine pure_ (i := 13) (N := some 11) (v := ?_) (a' := ?_) (tfA 14 1) rfl rfl (any_of HT_.out (by kernel_rfl)) (fun _ _ _ h => h) (Or.inl ⟨by rfl, ?_⟩) ?_ ?_
            rotate_left
            ·intro w'
             go_simp
             with_reducible rfl
            rotate_left
            ·simp only [Act.put, sA, s0, s1, i64_w, i32_w]
             rfl
            refine pure_ (i := 14) (N := some 12) (v := ?_) (a' := ?_) (tfA 15 0) rfl rfl (any_of HT_.out (by kernel_rfl)) (fun _ _ _ h => h) (Or.inl ⟨by rfl, ?_⟩) ?_ ?_
            rotate_left
            ·intro w'
             go_simp
             with_reducible rfl
            rotate_left
            ·simp only [Act.put, sA, s0, s1, i64_w, i32_w]
             rfl
            refine done_ (done_of HT_.out (by kernel_rfl)) ?_
            obtain ⟨hcz50_0, hcz50_1, hcz50_2, hfz50_0, hfz50_1, hfz50_2⟩ := rows3 (w := w49) BK136
            obtain ⟨Ao52, co52, eo52⟩ := Kd.R_slice HO165.out
            subst eo52
            try go_wp2_with (first | ((with_reducible refine gate_builtin (b := .append) (xs := #[.tmp 63, .tmp 64]) rfl ?_); (try (refine gate_guard (by rfl) ?_; dsimp only)); at_builtin; refine Kd.R_append_rows (Kd.int .u64) (w0 := w) w.heap.size rfl (.tmp 63) (.tmp 64) 46 31 (.int .u64 0) 8 rfl Tryz.underlying46 info31 rfl (by decide) (by omega) u137001 x137001_2 t162 _ _ _ (fun k_ => (w.heap.size ≤ k_) ∧ some k_ ≠ (.slice Ao52 t162.length co52 : Value).ownBlock) (fun _ => False) rfl rfl ?aO ?aR (fun _ _ h => h) (fun _ h => h.elim) ?aF ?aB ?aS ?aL ?_; (case aR => repeat (first | exact (Kd.R_reads' HO165.out).2.2 | (with_reducible refine Kd.C_alloc ?_ _) | (with_reducible refine Kd.C_drewN ?_ _) | (with_reducible refine Kd.C_drew ?_))); (case aB => exact belS); (case aF => exact (fun k_ hk => ⟨(Nat.le_trans (below_size belS) hk), Kd.fresh' (Kd.R_lt (by (with_reducible repeat (first | apply Kd.R_alloc | apply Kd.R_drewN | apply Kd.R_drew)); exact HO165.out)) k_ hk⟩)); (case aO => exact (by (with_reducible repeat (first | apply Kd.R_alloc | apply Kd.R_drewN | apply Kd.R_drew)); exact HO_137001.out)); (case aS => exact (below_size belS)); (case aL => have := LMc39.out; omega); intro v167 w51 ho hb hg hat; rw [← Ny166.out] at ho; have n0_ := Aside0.mk (Kd.R_over' (by (with_reducible repeat (first | apply Kd.R_alloc | apply Kd.R_drewN | apply Kd.R_drew)); exact HO_5.out) (Kd.R_typed (by (with_reducible repeat (first | apply Kd.R_alloc | apply Kd.R_drewN | apply Kd.R_drew)); exact HO_137001.out)) (by decide) hg); have n1_ := Aside0.mk (Kd.V_afterv (ok := (fun k_ => (w.heap.size ≤ k_) ∧ some k_ ≠ (.slice Ao47 y156.length co47 : Value).ownBlock ∧ some k_ ≠ (.slice Ao48 y159.length co48 : Value).ownBlock ∧ some k_ ≠ (.slice Ao52 t162.length co52 : Value).ownBlock ∧ k_ ≠ gb136)) (by (with_reducible repeat (first | apply Kd.V_alloc | apply Kd.V_drewN | apply Kd.V_drew)); exact Kd.V_mono HO_29.out (fun _ hk => ⟨⟨hk.1.1.1, ⟨hk.1.1.2.2.1, ⟨hk.1.2, ⟨hk.2, hk.1.1.2.2.2⟩⟩⟩⟩, hk.1.1.2.1⟩)) hg hat); have n2_ := Aside0.mk (blk_grown (g := gb136) (o := .cells #[.string (⟨#[]⟩ : ByteArray), u137001, .slice none 0 0] 48 (0, 0)) (by refine bY ?_; exact BK136.out) hg (Kd.R_ne HO_137001.out BK136.out (by decide))); have n3_ := Aside0.mk (Kd.R_over' (by (with_reducible repeat (first | apply Kd.R_alloc | apply Kd.R_drewN | apply Kd.R_drew)); exact HO158.out) (Kd.R_typed (by (with_reducible repeat (first | apply Kd.R_alloc | apply Kd.R_drewN | apply Kd.R_drew)); exact HO_137001.out)) (by decide) hg); have n4_ := Aside0.mk (Kd.R_over' (by (with_reducible repeat (first | apply Kd.R_alloc | apply Kd.R_drewN | apply Kd.R_drew)); exact HO161.out) (Kd.R_typed (by (with_reducible repeat (first | apply Kd.R_alloc | apply Kd.R_drewN | apply Kd.R_drew)); exact HO_137001.out)) (by decide) hg); have n5_ := Aside0.mk (Kd.R_after (ok := (fun k_ => (w.heap.size ≤ k_))) (by (with_reducible repeat (first | apply Kd.R_alloc | apply Kd.R_drewN | apply Kd.R_drew)); exact Kd.R_mono HO165.out (fun _ hk => ⟨hk.1.1, hk.2⟩)) hg hat); have n6_ := Aside0.mk (hb); have n7_ := Aside0.mk (ho); clear HO_5; clear HO_29; clear BK136; clear HO158; clear HO161; clear HO165; clear HB; clear HO_137001; have HO_5 := n0_; have HO_29 := n1_; have BK136 := n2_; have HO158 := n3_; have HO161 := n4_; have HO165 := n5_; have HB := n6_; have HO168 := n7_; clear n0_ n1_ n2_ n3_ n4_ n5_ n6_ n7_; clear ho hb hg hat; obtain ⟨Ao53, co53, eo53⟩ := Kd.R_slice HO168.out; subst eo53; obtain ⟨hcz54_0, hcz54_1, hcz54_2, hfz54_0, hfz54_1, hfz54_2⟩ := rows3 (w := w51) BK136) | ((with_reducible refine gate_store (t := 46) (p := 66) rfl ?_); refine store_event (t := 46) (p := 66) (v := ?vo_w55) (w1 := (w51.setCell ⟨gb136, 1, none⟩ (.slice Ao53 y166.length co53))) ?hg ?ho ?hn ?hr ?_; (case ho => rfl); (case hg => rfl); (case hn => rfl); (case hr => first | (go_simp; done) | (go_simp; rfl)); intro w55 hw; have n0_ : Aside0 (Kd.R Kd.string 9 w55 w.heap.size (fun k_ => (w.heap.size ≤ k_) ∧ some k_ ≠ (.slice Ao47 y156.length co47 : Value).ownBlock ∧ some k_ ≠ (.slice Ao48 y159.length co48 : Value).ownBlock) (.slice (some ad151) t129.length co20) t129) := ⟨(by rw [hw]; exact (by (with_reducible repeat (first | apply Kd.R_alloc | apply Kd.R_drewN | apply Kd.R_drew)); exact Kd.R_mono (Kd.R_far (p := ⟨gb136, 1, none⟩) (Kd.R_types HO_5.out BK136.out (by decide)) (fun _ hk => hk.2) (.slice Ao53 y166.length co53)) (fun _ hk => ⟨hk.1.1.1, ⟨hk.1.1.2, hk.1.2⟩⟩)))⟩; have n1_ : Aside0 (Kd.V Kd.string 9 w55 w.heap.size (fun k_ => (w.heap.size ≤ k_) ∧ some k_ ≠ (.slice Ao47 y156.length co47 : Value).ownBlock ∧ some k_ ≠ (.slice Ao48 y159.length co48 : Value).ownBlock ∧ some k_ ≠ (.slice Ao52 t162.length co52 : Value).ownBlock ∧ some k_ ≠ (.slice Ao53 y166.length co53 : Value).ownBlock ∧ k_ ≠ gb136) (.slice (some ad151) y137.length co20) y137) := ⟨(by rw [hw]; exact (by (with_reducible repeat (first | apply Kd.V_alloc | apply Kd.V_drewN | apply Kd.V_drew)); exact Kd.V_mono (Kd.V_far (p := ⟨gb136, 1, none⟩) (Kd.V_mono HO_29.out (fun k_ hk => (⟨hk, hk.1.2.2.2.2⟩ : _ ∧ k_ ≠ gb136))) (fun _ hk => hk.2) (.slice Ao53 y166.length co53)) (fun _ hk => ⟨hk.1.1.1, ⟨hk.1.1.2.1, ⟨hk.1.1.2.2.1, ⟨hk.1.1.2.2.2.1, ⟨hk.1.2, hk.1.1.2.2.2.2⟩⟩⟩⟩⟩)))⟩; have n2_ : Aside0 (Kd.R Kd.string 9 w55 w.heap.size (fun k_ => (w.heap.size ≤ k_) ∧ some k_ ≠ (.slice (some ad151) t129.length co20 : Value).ownBlock ∧ some k_ ≠ (.slice Ao48 y159.length co48 : Value).ownBlock) (.slice Ao47 y156.length co47) y156) := ⟨(by rw [hw]; exact (by (with_reducible repeat (first | apply Kd.R_alloc | apply Kd.R_drewN | apply Kd.R_drew)); exact Kd.R_mono (Kd.R_far (p := ⟨gb136, 1, none⟩) (Kd.R_types HO158.out BK136.out (by decide)) (fun _ hk => hk.2) (.slice Ao53 y166.length co53)) (fun _ hk => ⟨hk.1.1.1, ⟨hk.1.1.2, hk.1.2⟩⟩)))⟩; have n3_ : Aside0 (Kd.R Kd.string 9 w55 w.heap.size (fun k_ => (w.heap.size ≤ k_) ∧ some k_ ≠ (.slice (some ad151) t129.length co20 : Value).ownBlock ∧ some k_ ≠ (.slice Ao47 y156.length co47 : Value).ownBlock) (.slice Ao48 y159.length co48) y159) := ⟨(by rw [hw]; exact (by (with_reducible repeat (first | apply Kd.R_alloc | apply Kd.R_drewN | apply Kd.R_drew)); exact Kd.R_mono (Kd.R_far (p := ⟨gb136, 1, none⟩) (Kd.R_types HO161.out BK136.out (by decide)) (fun _ hk => hk.2) (.slice Ao53 y166.length co53)) (fun _ hk => ⟨hk.1.1, ⟨hk.1.2.1, hk.1.2.2⟩⟩)))⟩; have n4_ : Aside0 (Kd.R (Kd.int .u64) 31 w55 w.heap.size (fun k_ => (w.heap.size ≤ k_) ∧ some k_ ≠ (.slice Ao53 y166.length co53 : Value).ownBlock) (.slice Ao52 t162.length co52) t162) := ⟨(by rw [hw]; exact (by (with_reducible repeat (first | apply Kd.R_alloc | apply Kd.R_drewN | apply Kd.R_drew)); exact Kd.R_mono (Kd.R_far (p := ⟨gb136, 1, none⟩) (Kd.R_types HO165.out BK136.out (by decide)) (fun _ hk => hk.2) (.slice Ao53 y166.length co53)) (fun _ hk => ⟨hk.1.1, hk.1.2⟩)))⟩; have n5_ : Aside0 (Kd.R (Kd.int .u64) 31 w55 w.heap.size (fun k_ => (w.heap.size ≤ k_) ∧ some k_ ≠ (.slice Ao52 t162.length co52 : Value).ownBlock) (.slice Ao53 y166.length co53) y166) := ⟨(by rw [hw]; exact (by (with_reducible repeat (first | apply Kd.R_alloc | apply Kd.R_drewN | apply Kd.R_drew)); exact Kd.R_mono (Kd.R_far (p := ⟨gb136, 1, none⟩) (Kd.R_types HO168.out BK136.out (by decide)) (fun _ hk => hk.2) (.slice Ao53 y166.length co53)) (fun _ hk => ⟨hk.1.1, hk.1.2⟩)))⟩; have n6_ : Aside0 (w55.heap[gb136]? = some (.cells #[.string (⟨#[]⟩ : ByteArray), .slice Ao53 y166.length co53, .slice none 0 0] 48 (0, 0))) := ⟨(by rw [hw]; exact (by refine bY ?_; refine blk_put (cs := #[.string (⟨#[]⟩ : ByteArray), u137001, .slice none 0 0]) ?_ 1 _ rfl; refine bY ?_; exact BK136.out))⟩; have n7_ : Aside0 (Below w.heap.size w w55) := ⟨(by rw [hw]; exact belS)⟩; clear hw; clear HO_5; clear HO_29; clear HO158; clear HO161; clear HO165; clear HO168; clear BK136; clear HB; have HO_5 := n0_; have HO_29 := n1_; have HO158 := n2_; have HO161 := n3_; have HO165 := n4_; have HO168 := n5_; have BK136 := n6_; have HB := n7_; clear n0_ n1_ n2_ n3_ n4_ n5_ n6_ n7_; obtain ⟨hcz56_0, hcz56_1, hcz56_2, hfz56_0, hfz56_1, hfz56_2⟩ := rows3 (w := w55) BK136) | ((with_reducible refine gate_dst (N := 69) rfl ?_); (try (refine gate_guard (by rfl) ?_; dsimp only)); refine Kd.N_lit k48 _ 48 ?hg (N' := 69) ?hd (xs := ([(⟨(⟨#[]⟩ : ByteArray), y166, ([] : List ByteArray)⟩ : S48)] : List (S48))) (inner := [.string (⟨#[]⟩ : ByteArray), .slice Ao53 y166.length co53, .slice none 0 0]) (ok := (fun k_ => (w.heap.size ≤ k_) ∧ some k_ ≠ (.slice (some ad151) t129.length co20 : Value).ownBlock ∧ some k_ ≠ (.slice Ao47 y156.length co47 : Value).ownBlock ∧ some k_ ≠ (.slice Ao48 y159.length co48 : Value).ownBlock ∧ some k_ ≠ (.slice Ao52 t162.length co52 : Value).ownBlock ∧ k_ ≠ gb136)) (okp := (fun k_ => (w.heap.size ≤ k_) ∧ some k_ ≠ (.slice (some ad151) t129.length co20 : Value).ownBlock ∧ some k_ ≠ (.slice Ao47 y156.length co47 : Value).ownBlock ∧ some k_ ≠ (.slice Ao48 y159.length co48 : Value).ownBlock ∧ some k_ ≠ (.slice Ao52 t162.length co52 : Value).ownBlock ∧ k_ ≠ gb136)) ?hr ?hp (fun _ hk => hk) ((show ∀ k_, w55.heap.size ≤ k_ → (fun k_ => (w.heap.size ≤ k_) ∧ some k_ ≠ (.slice (some ad151) t129.length co20 : Value).ownBlock ∧ some k_ ≠ (.slice Ao47 y156.length co47 : Value).ownBlock ∧ some k_ ≠ (.slice Ao48 y159.length co48 : Value).ownBlock ∧ some k_ ≠ (.slice Ao52 t162.length co52 : Value).ownBlock ∧ k_ ≠ gb136) k_ from fun k_ hk => ⟨(Nat.le_trans (below_size belS) hk), Kd.fresh' (Kd.R_lt (by (with_reducible repeat (first | apply Kd.R_alloc | apply Kd.R_drewN | apply Kd.R_drew)); exact HO_5.out)) k_ hk, Kd.fresh' (Kd.R_lt (by (with_reducible repeat (first | apply Kd.R_alloc | apply Kd.R_drewN | apply Kd.R_drew)); exact HO158.out)) k_ hk, Kd.fresh' (Kd.R_lt (by (with_reducible repeat (first | apply Kd.R_alloc | apply Kd.R_drewN | apply Kd.R_drew)); exact HO161.out)) k_ hk, Kd.fresh' (Kd.R_lt (by (with_reducible repeat (first | apply Kd.R_alloc | apply Kd.R_drewN | apply Kd.R_drew)); exact HO165.out)) k_ hk, Kd.freshB (g := gb136) (o := .cells #[.string (⟨#[]⟩ : ByteArray), .slice Ao53 y166.length co53, .slice none 0 0] 48 (0, 0)) (by refine bY ?_; exact BK136.out) k_ hk⟩) _ (Nat.le_refl _)) (Below.refl _ _) (Nat.le_refl _) (by simp) ?_; (case hd => rfl); (case hg => rfl); (case hr => first | (go_simp; done) | (go_simp; rfl)); (case hp => exact (Reps.c3 (show Kd.FK k48 _ _ (⟨(⟨#[]⟩ : ByteArray), y166, ([] : List ByteArray)⟩ : S48) [.string (⟨#[]⟩ : ByteArray), .slice Ao53 y166.length co53, .slice none 0 0] from (k48_mkF _ _ (⟨(⟨#[]⟩ : ByteArray), y166, ([] : List ByteArray)⟩ : S48) (Kd.R_reads' (Kd.R_mono (ok' := (fun k_ => (w.heap.size ≤ k_) ∧ some k_ ≠ (.slice (some ad151) t129.length co20 : Value).ownBlock ∧ some k_ ≠ (.slice Ao47 y156.length co47 : Value).ownBlock ∧ some k_ ≠ (.slice Ao48 y159.length co48 : Value).ownBlock ∧ some k_ ≠ (.slice Ao52 t162.length co52 : Value).ownBlock ∧ k_ ≠ gb136)) (Kd.R_types (Kd.R_apart' (Kd.R_apart' (Kd.R_apart' (HO168.out) (Kd.R_typed HO_5.out) (by decide)) (Kd.R_typed HO158.out) (by decide)) (Kd.R_typed HO161.out) (by decide)) BK136.out (by decide)) (fun k_ hk => ⟨hk.1.1.1.1.1, ⟨hk.1.1.1.2, ⟨hk.1.1.2, ⟨hk.1.2, ⟨hk.1.1.1.1.2, hk.2⟩⟩⟩⟩⟩))).2.1 (Kd.R_F (Kd.R_mono (ok' := (fun k_ => (w.heap.size ≤ k_) ∧ some k_ ≠ (.slice (some ad151) t129.length co20 : Value).ownBlock ∧ some k_ ≠ (.slice Ao47 y156.length co47 : Value).ownBlock ∧ some k_ ≠ (.slice Ao48 y159.length co48 : Value).ownBlock ∧ some k_ ≠ (.slice Ao52 t162.length co52 : Value).ownBlock ∧ k_ ≠ gb136)) (Kd.R_types (Kd.R_apart' (Kd.R_apart' (Kd.R_apart' (HO168.out) (Kd.R_typed HO_5.out) (by decide)) (Kd.R_typed HO158.out) (by decide)) (Kd.R_typed HO161.out) (by decide)) BK136.out (by decide)) (fun k_ hk => ⟨hk.1.1.1.1.1, ⟨hk.1.1.1.2, ⟨hk.1.1.2, ⟨hk.1.2, ⟨hk.1.1.1.1.2, hk.2⟩⟩⟩⟩⟩))) (Nat.le_refl _) (Kd.F_nil _ _ _))) (Reps.none _ _))); intro v170 w57 ho58 hb hg_ hnew_; clear hg_ hnew_; (first | rw [← Ny169.out] at ho58 | (simp only [Int.reduceToNat] at ho58; rw [← Ny169.out] at ho58)); have n0_ := Aside0.mk (Kd.R_below (by (with_reducible repeat (first | apply Kd.R_alloc | apply Kd.R_drewN | apply Kd.R_drew)); exact HO_5.out) hb); have n1_ := Aside0.mk (Kd.V_elder' (by (with_reducible repeat (first | apply Kd.V_alloc | apply Kd.V_drewN | apply Kd.V_drew)); exact HO_29.out) (Kd.N_base ho58) hb); have n2_ := Aside0.mk (Kd.R_below (by (with_reducible repeat (first | apply Kd.R_alloc | apply Kd.R_drewN | apply Kd.R_drew)); exact HO158.out) hb); have n3_ := Aside0.mk (Kd.R_below (by (with_reducible repeat (first | apply Kd.R_alloc | apply Kd.R_drewN | apply Kd.R_drew)); exact HO161.out) hb); have n4_ := Aside0.mk (Kd.R_below (by (with_reducible repeat (first | apply Kd.R_alloc | apply Kd.R_drewN | apply Kd.R_drew)); exact HO165.out) hb); have n5_ := Aside0.mk (Kd.N_lower ho58 (below_size belS)); have n6_ := Aside0.mk (blk_below (g := gb136) (o := .cells #[.string (⟨#[]⟩ : ByteArray), .slice Ao53 y166.length co53, .slice none 0 0] 48 (0, 0)) (by refine bY ?_; exact BK136.out) hb); have n7_ := Aside0.mk (below_step belS hb); clear HO_5; clear HO_29; clear HO158; clear HO161; clear HO165; clear BK136; clear HB; clear HO168; have HO_5 := n0_; have HO_29 := n1_; have HO158 := n2_; have HO161 := n3_; have HO165 := n4_; have HO171 := n5_; have BK136 := n6_; have HB := n7_; clear n0_ n1_ n2_ n3_ n4_ n5_ n6_ n7_; clear hb ho58; obtain ⟨Ao59, co59, eo59⟩ := Kd.N_slice HO171.out; subst eo59) | ((with_reducible refine gate_callee (f := 44) rfl ?_); refine goesL_ (some 71) rfl rfl Tryz.func44 (by kernel_rfl) rfl #[.string a0, .slice Ao59 y169.length co59, .bool t163, .func (.func 13) #[] #[], .bool false] rfl (by (try simp only [List.map_toArray, List.map_cons, List.map_nil]); first | done | rfl | (simp only [List.length_drop, List.length_take]; rfl)) ?_; (with_reducible refine (spec_meant__LoadavgPrint.calls k2 a0 (fun k_ => ((w.heap.size ≤ k_) ∧ (some k_ ≠ (.slice (some ad151) t129.length co20 : Value).ownBlock ∧ (some k_ ≠ (.slice Ao47 y156.length co47 : Value).ownBlock ∧ (some k_ ≠ (.slice Ao48 y159.length co48 : Value).ownBlock ∧ (some k_ ≠ (.slice Ao52 t162.length co52 : Value).ownBlock ∧ k_ ≠ gb136)))))) _ _ y169 t163  false t172 t175 t176 _ ?side1 A40.out).mono ?_); (case side1 => exact Kd.N_V (HO171.out)); rintro e w60 ⟨v173, rfl, ho0, hb⟩; refine ⟨_, rfl, ?_⟩; have n0_ := Aside0.mk (Kd.R_below (by (with_reducible repeat (first | apply Kd.R_alloc | apply Kd.R_drewN | apply Kd.R_drew)); exact HO_5.out) hb); have n1_ := Aside0.mk (Kd.V_below (by (with_reducible repeat (first | apply Kd.V_alloc | apply Kd.V_drewN | apply Kd.V_drew)); exact HO_29.out) hb); have n2_ := Aside0.mk (Kd.R_below (by (with_reducible repeat (first | apply Kd.R_alloc | apply Kd.R_drewN | apply Kd.R_drew)); exact HO158.out) hb); have n3_ := Aside0.mk (Kd.R_below (by (with_reducible repeat (first | apply Kd.R_alloc | apply Kd.R_drewN | apply Kd.R_drew)); exact HO161.out) hb); have n4_ := Aside0.mk (Kd.R_below (by (with_reducible repeat (first | apply Kd.R_alloc | apply Kd.R_drewN | apply Kd.R_drew)); exact HO165.out) hb); have n5_ := Aside0.mk (Kd.N_below (by (with_reducible repeat (first | apply Kd.N_alloc | apply Kd.N_drewN | apply Kd.N_drew)); exact HO171.out) hb); have n6_ := Aside0.mk (Kd.V_lower (Kd.V_mono (ok' := fun k_ => (w.heap.size ≤ k_) ∧ some k_ ≠ (.slice (some ad151) t129.length co20 : Value).ownBlock ∧ some k_ ≠ (.slice Ao47 y156.length co47 : Value).ownBlock ∧ some k_ ≠ (.slice Ao48 y159.length co48 : Value).ownBlock ∧ some k_ ≠ (.slice Ao52 t162.length co52 : Value).ownBlock ∧ k_ ≠ gb136) ho0 (fun k_ hk_ => ⟨Or.elim hk_ (fun hs_ => hs_.1) (fun hn_ => (Nat.le_trans (below_size belS) hn_)), Or.elim hk_ (fun hs_ => hs_.2.1) (fun hn_ => (Kd.fresh' (Kd.R_lt (by (with_reducible repeat (first | apply Kd.R_alloc | apply Kd.R_drewN | apply Kd.R_drew)); exact HO_5.out)) k_ hn_)), Or.elim hk_ (fun hs_ => hs_.2.2.1) (fun hn_ => (Kd.fresh' (Kd.R_lt (by (with_reducible repeat (first | apply Kd.R_alloc | apply Kd.R_drewN | apply Kd.R_drew)); exact HO158.out)) k_ hn_)), Or.elim hk_ (fun hs_ => hs_.2.2.2.1) (fun hn_ => (Kd.fresh' (Kd.R_lt (by (with_reducible repeat (first | apply Kd.R_alloc | apply Kd.R_drewN | apply Kd.R_drew)); exact HO161.out)) k_ hn_)), Or.elim hk_ (fun hs_ => hs_.2.2.2.2.1) (fun hn_ => (Kd.fresh' (Kd.R_lt (by (with_reducible repeat (first | apply Kd.R_alloc | apply Kd.R_drewN | apply Kd.R_drew)); exact HO165.out)) k_ hn_)), Or.elim hk_ (fun hs_ => hs_.2.2.2.2.2) (fun hn_ => (Kd.freshB (g := gb136) (o := .cells #[.string (⟨#[]⟩ : ByteArray), .slice Ao53 y166.length co53, .slice none 0 0] 48 (0, 0)) (by refine bY ?_; exact BK136.out) k_ hn_))⟩)) (below_size belS)); have n7_ := Aside0.mk (blk_below (g := gb136) (o := .cells #[.string (⟨#[]⟩ : ByteArray), .slice Ao53 y166.length co53, .slice none 0 0] 48 (0, 0)) (by refine bY ?_; exact BK136.out) hb); have n8_ := Aside0.mk (below_step belS hb); clear HO_5; clear HO_29; clear HO158; clear HO161; clear HO165; clear HO171; clear BK136; clear HB; have HO_5 := n0_; have HO_29 := n1_; have HO158 := n2_; have HO161 := n3_; have HO165 := n4_; have HO171 := n5_; have HO174 := n6_; have BK136 := n7_; have HB := n8_; clear n0_ n1_ n2_ n3_ n4_ n5_ n6_ n7_ n8_; (try clear hb); (try clear hb2); (try clear hk); (try clear hi); (try clear ho0)))
            go_ret3
            exact ⟨_, by first | rfl | (simp [errW_none, errW_some] <;> rfl) | (simp [*, errW_none, errW_some] <;> rfl), by (with_reducible repeat (first | apply Kd.V_alloc | apply Kd.V_drewN | apply Kd.V_drew)); exact Kd.V_mono HO174.out (fun _ hk => hk.1), by repeat (first | (with_reducible first | exact HB.out | apply below_alloc | apply pw_below_drewN | apply below_drew1 | refine below_set ?_ GE136.out) | exact HB.out)⟩
           ·rw [if_neg c39] at H
            exact absurd H (by simp)
          ·rw [if_neg c37] at H
           exact absurd H (by simp)
         ·rw [if_neg c36] at H
          exact absurd H (by simp)
        ·rw [if_neg c34] at H
         exact absurd H (by simp)
    ·rw [if_neg c15] at H
     exact absurd H (by simp)

end Go.Proofs.YtdmpbaanonafbaaGreatDoor.A
