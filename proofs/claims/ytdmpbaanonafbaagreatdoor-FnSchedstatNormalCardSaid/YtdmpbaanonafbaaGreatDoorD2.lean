-- written by a program of this session (wip/tools/pp.py)
import Derived.Test.YtdmpbaanonafbaaGreatDoorD1
namespace Go.Proofs.YtdmpbaanonafbaaGreatDoor.D
open Go.RowKit Go.Proofs.YtdmpbaanonafbaaGreatDoorW.PrintWords Go.Proofs.YtdmpbaanonafbaaGreatDoorW.PrintLast Go.Proofs.YtdmpbaanonafbaaGreatDoor.Flt Go.Proofs.YtdmpbaanonafbaaGreatDoor.GivZ Go.Proofs.YtdmpbaanonafbaaGreatDoor.E Go.Proofs.YtdmpbaanonafbaaGreatDoor.L Go.Proofs.YtdmpbaanonafbaaGreatDoor.V Go.Proofs.YtdmpbaanonafbaaGreatDoor.DoorSs Go.Proofs.YtdmpbaanonafbaaGreatDoor.Lives Go.Proofs.YtdmpbaanonafbaaGreatDoor.R Go.Proofs.YtdmpbaanonafbaaGreatDoorW.PrintMore
attribute [local go_sem] max2_int min2_int max_two min_two max_three min_three max_four min_four   -- for this text's walks alone
set_option linter.unusedVariables false
set_option linter.unusedSimpArgs false

/-! ### spec_Ends: function 56 -/
def spec_Ends.f (a0 : ByteArray) (a1 : ByteArray) : Option (Bool) := if (a0.size : Int) ≥ (a1.size : Int) then (if 0 ≤ (wrap64 ((a0.size : Int) - (a1.size : Int))) then (if (wrap64 ((a0.size : Int) - (a1.size : Int))) ≤ (a0.size : Int) then (some ((a0.extract ((wrap64 ((a0.size : Int) - (a1.size : Int))) : Int).toNat a0.size).toList == a1.toList)) else (none)) else (none)) else (some false)
set_option maxHeartbeats 8000000 in
set_option maxRecDepth 100000 in
theorem spec_Ends.calls (a0 : ByteArray) (a1 : ByteArray) (r : Bool) (w : World) (h : spec_Ends.f a0 a1 = some r) :
  Calls Tryz.prog 56 #[.string a0, .string a1] w fun e w' => e = .returned (.bool r) ∧ Drawn0 w w' := by
 have H : (if (a0.size : Int) ≥ (a1.size : Int) then (if 0 ≤ (wrap64 ((a0.size : Int) - (a1.size : Int))) then (if (wrap64 ((a0.size : Int) - (a1.size : Int))) ≤ (a0.size : Int) then (some ((a0.extract ((wrap64 ((a0.size : Int) - (a1.size : Int))) : Int).toNat a0.size).toList == a1.toList)) else (none)) else (none)) else (some false)) = some r := h
 clear h
 by_cases c3 : (a0.size : Int) ≥ (a1.size : Int)
 ·rw [if_pos c3] at H
  have c3b0 : decide ((a1.size : Int) ≤ (a0.size : Int)) = true := decide_eq_true c3
  have c3b1 : decide (a1.size ≤ a0.size) = true := decide_eq_true (Int.ofNat_le.mp c3)
  clear c3
  obtain ⟨ji4, hji4⟩ : ∃ j_ : Int, (wrap64 ((a0.size : Int) - (a1.size : Int))) = j_ := ⟨_, rfl⟩
  replace H : (if 0 ≤ (ji4) then (if (ji4) ≤ (a0.size : Int) then (some ((a0.extract ((ji4) : Int).toNat a0.size).toList == a1.toList)) else (none)) else (none)) = some r := by first | (rw [hji4] at H; exact H) | (simp only [hji4] at H ⊢; exact H)
  have hji4w : (IntKind.i64.wrap ((a0.size : Int) - (a1.size : Int))) = ji4 := (i64_w _).trans hji4
  by_cases c5 : 0 ≤ (ji4)
  ·rw [if_pos c5] at H
   have c5b0 := eq_true c5
   have c5b1 : decide (0 ≤ (ji4)) = true := decide_eq_true c5
   clear c5
   by_cases c6 : (ji4) ≤ (a0.size : Int)
   ·rw [if_pos c6] at H
    have c6b0 := eq_true c6
    have c6b1 : decide ((ji4) ≤ (a0.size : Int)) = true := decide_eq_true c6
    clear c6
    obtain rfl := Option.some.inj H
    go_enter Tryz.func56, Tryz.ntmps56
    go_wp2
    go_ret
    exact ⟨by first | rfl | (simp; done) | (simp only [← hji4] <;> (first | rfl | simp)) | (simp [*]; done), by repeat (first | exact Drawn0.refl _ | apply Drawn0.step)⟩
   ·rw [if_neg c6] at H
    exact absurd H (by simp)
  ·rw [if_neg c5] at H
   exact absurd H (by simp)
 ·rw [if_neg c3] at H
  have c3b0 : decide ((a1.size : Int) ≤ (a0.size : Int)) = false := decide_eq_false c3
  have c3b1 : decide (a1.size ≤ a0.size) = false := decide_eq_false (fun h => c3 (Int.ofNat_le.mpr h))
  clear c3
  obtain rfl := Option.some.inj H
  go_enter Tryz.func56, Tryz.ntmps56
  go_wp2
  go_ret
  exact ⟨by first | rfl | (simp; done) | (simp [*]; done) | (simp [bne_nil]; done) | (simp [bne_nil, *]; done), by repeat (first | exact Drawn0.refl _ | apply Drawn0.step)⟩

/-! ### spec_table: function 72 -/
mutual
def spec_table.l0 : Nat → ByteArray → List (S48) → List ByteArray → Int → Int → Option ((List (S48)) × Bool)
 | 0, _, _, _, _, _ => none
 | k + 1, x1, x6, x12, x13, x14 => if x14 < x13 then (if 0 ≤ x14 then (if x14 < (x12.length : Int) then ((spec_Fields.f k (rdOf ByteArray.empty x12 x14)).bind fun t109 => (if (t109.length : Int) = 0 then (spec_table.j1 k x1 x6 t109 x12 x13 x14 true) else (if 0 < (t109.length : Int) then ((spec_Ends.f (rdOf ByteArray.empty t109 0) x1).bind fun t113 => (spec_table.j1 k x1 x6 t109 x12 x13 x14 (!t113))) else (none)))) else (none)) else (none)) else (some (x6, true))
def spec_table.j1 : Nat → ByteArray → List (S48) → List ByteArray → List ByteArray → Int → Int → Bool → Option ((List (S48)) × Bool)
 | 0, _, _, _, _, _, _, _ => none
 | k + 1, x1, x6, x9, x12, x13, x14, x30 => if x30 = true then (some (([] : List (S48)), false)) else (if 1 ≤ (x9.length : Int) then ((spec_decimals.f k (x9.drop 1)).bind fun bt118 => (if bt118.2 = true then (if 0 < (x9.length : Int) then (if 0 ≤ (wrap64 (((rdOf ByteArray.empty x9 0).size : Int) - (x1.size : Int))) then (if (wrap64 (((rdOf ByteArray.empty x9 0).size : Int) - (x1.size : Int))) ≤ ((rdOf ByteArray.empty x9 0).size : Int) then (if x6.length < 2199023255552 then (spec_table.l0 k x1 (x6 ++ [(⟨(rdOf ByteArray.empty x9 0).extract 0 ((wrap64 (((rdOf ByteArray.empty x9 0).size : Int) - (x1.size : Int))) : Int).toNat, bt118.1, ([] : List ByteArray)⟩ : S48)]) x12 x13 (wrap64 (x14 + 1))) else (none)) else (none)) else (none)) else (none)) else (some (([] : List (S48)), false)))) else (none))
end
def spec_table.f (k : Nat) (l0 : List ByteArray) (a1 : ByteArray) : Option ((List (S48)) × Bool) := spec_table.l0 k a1 ([] : List (S48)) l0 (l0.length : Int) 0
theorem spec_table.mono_l : ∀ k, (∀ y0 y1 y2 y3 y4, LeO (spec_table.l0 k y0 y1 y2 y3 y4) (spec_table.l0 (k + 1) y0 y1 y2 y3 y4)) ∧ (∀ y0 y1 y2 y3 y4 y5 y6, LeO (spec_table.j1 k y0 y1 y2 y3 y4 y5 y6) (spec_table.j1 (k + 1) y0 y1 y2 y3 y4 y5 y6))
 | 0 => ⟨fun _ _ _ _ _ r h => by simp [spec_table.l0] at h, fun _ _ _ _ _ _ _ r h => by simp [spec_table.j1] at h⟩
 | k + 1 => by
  obtain ⟨ih0, ih1⟩ := spec_table.mono_l k
  refine ⟨?_, ?_⟩
  ·intro y0 y1 y2 y3 y4
   unfold spec_table.l0
   repeat' first
   | (with_reducible exact ih0 _ _ _ _ _)
   | (with_reducible exact ih1 _ _ _ _ _ _ _)
   | (with_reducible exact spec_Fields.mono _ _)
   | (with_reducible exact spec_decimals.mono _ _)
   | (with_reducible exact LeO.refl _)
   | (with_reducible exact LeO.none _)
   | (with_reducible refine LeO.ite ?_ ?_)
   | (with_reducible refine LeO.bind ?_ (fun _ => ?_))
   | exact ih0 _ _ _ _ _
   | exact ih1 _ _ _ _ _ _ _
   | exact spec_Fields.mono _ _
   | exact spec_decimals.mono _ _
   | exact LeO.none _
   | refine LeO.ite ?_ ?_
   | refine LeO.bind ?_ (fun _ => ?_)
  ·intro y0 y1 y2 y3 y4 y5 y6
   unfold spec_table.j1
   repeat' first
   | (with_reducible exact ih0 _ _ _ _ _)
   | (with_reducible exact ih1 _ _ _ _ _ _ _)
   | (with_reducible exact spec_Fields.mono _ _)
   | (with_reducible exact spec_decimals.mono _ _)
   | (with_reducible exact LeO.refl _)
   | (with_reducible exact LeO.none _)
   | (with_reducible refine LeO.ite ?_ ?_)
   | (with_reducible refine LeO.bind ?_ (fun _ => ?_))
   | exact ih0 _ _ _ _ _
   | exact ih1 _ _ _ _ _ _ _
   | exact spec_Fields.mono _ _
   | exact spec_decimals.mono _ _
   | exact LeO.none _
   | refine LeO.ite ?_ ?_
   | refine LeO.bind ?_ (fun _ => ?_)
theorem spec_table.mono : ∀ a0 a1 k, LeO (spec_table.f k a0 a1) (spec_table.f (k + 1) a0 a1) := by
 intro a0 a1 k
 obtain ⟨ih0, ih1⟩ := spec_table.mono_l k
 unfold spec_table.f
 repeat' first
   | (with_reducible exact ih0 _ _ _ _ _)
   | (with_reducible exact ih1 _ _ _ _ _ _ _)
   | (with_reducible exact spec_Fields.mono _ _)
   | (with_reducible exact spec_decimals.mono _ _)
   | (with_reducible exact LeO.refl _)
   | (with_reducible exact LeO.none _)
   | (with_reducible refine LeO.ite ?_ ?_)
   | (with_reducible refine LeO.bind ?_ (fun _ => ?_))
   | exact ih0 _ _ _ _ _
   | exact ih1 _ _ _ _ _ _ _
   | exact spec_Fields.mono _ _
   | exact spec_decimals.mono _ _
   | exact LeO.none _
   | refine LeO.ite ?_ ?_
   | refine LeO.bind ?_ (fun _ => ?_)
def spec_table.T11 : Bool × List (List Nat × List Nat) := (true, [([], []), ([], []), ([1], [1]), ([2], [2]), ([], []), ([4], [4]), ([5], [5]), ([6], [6]), ([], []), ([8], [8]), ([7, 9], [7, 9]), ([3, 10], [3, 10]), ([], []), ([11, 12], [11, 12]), ([13], [13]), ([0, 14], [0, 14]), ([15, 15, 0, 1, 2, 3, 4, 5, 6, 7, 8, 9, 10, 11, 12, 13, 14, 15], [0, 15])])
def spec_table.B11 : List Nat := [0, 0, 2, 6, 0, 16, 48, 112, 0, 256, 1008, 2046, 0, 8190, 16382, 32767, 65535]
theorem spec_table.tab11 : rtab .any (opsOf Tryz.f72 11) = spec_table.T11 := by kernel_rfl
theorem spec_table.bits11 : waitsOk spec_table.T11.2 spec_table.B11 = true := by kernel_rfl
set_option maxHeartbeats 8000000 in
set_option maxRecDepth 100000 in
theorem spec_table.calls (k : Nat) (A0 : Option Addr) (c0 : Nat) (l0 : List ByteArray) (a1 : ByteArray) (r1 : List (S48)) (r2 : Bool) (w : World) (hr0 : Kd.C Kd.string w A0 l0.length l0) (hc0 : l0.length ≤ c0) (h : spec_table.f k l0 a1 = some (r1, r2)) :
  Calls Tryz.prog 72 #[.slice A0 l0.length c0, .string a1] w fun e w' => ∃ v0_ : Value, e = .returned (.tuple #[v0_, .bool r2]) ∧ Kd.S k48 48 w' w.heap.size (fun _ => True) v0_ r1 ∧ Below w.heap.size w w' := by
 have hu48 := Tryz.underlying48
 have HR0 := Aside0.mk hr0
 have HC0 := Aside0.mk hc0
 clear hr0 hc0
 have HB := Aside0.mk (Below.refl w.heap.size w)
 have H : (spec_table.l0 k a1 ([] : List (S48)) l0 (l0.length : Int) 0) = some (r1, r2) := h
 clear h
 have H' := Aside0.mk H
 clear H
 go_enter Tryz.func72, Tryz.ntmps72
 go_wp2
 go_loopg [6, 14] k (fun kq v6 v14 w' => ∃ (x6_1 : List (S48)) (x14_1 : Int), v14 = .int .i64 x14_1 ∧ Aside0 (spec_table.l0 kq a1 x6_1 l0 (l0.length : Int) x14_1 = some (r1, r2)) ∧ Aside0 (kq ≤ k) ∧ Aside0 (Kd.S k48 48 w' w.heap.size (fun _ => True) v6 x6_1) ∧ Aside0 (Below w.heap.size w w'))
 case atStart => exact ⟨(([] : List (S48))), (0), (by first | rfl | (simp; done) | (simp [*]; done) | (simp [bne_nil]; done) | (simp [bne_nil, *]; done)), H', ⟨Nat.le_refl _⟩, ⟨by first | exact Kd.S_nil _ _ _ _ _ | exact Kd.N_nil _ _ _ _ _ | exact Kd.V_nil _ _ _ _ _ | exact Kd.Q_nil _ _ _ _ _ | exact Kd.R_nil _ _ _ _ _⟩, ⟨by repeat (first | (with_reducible first | exact HB.out | apply below_alloc | apply pw_below_drewN | apply below_drew1) | exact HB.out)⟩⟩
 case round =>
  clear H'
  try clear p2
  obtain ⟨x6_1, x14_1, rfl, HA, HK1, HO_6, HB⟩ := hrel
  cases gk with
  | zero => exact absurd HA.out (by simp [spec_table.l0])
  | succ k1 =>
   have H := HA.out
   clear HA
   simp only [spec_table.l0] at H
   by_cases c3 : x14_1 < (l0.length : Int)
   ·rw [if_pos c3] at H
    have c3b0 : decide (x14_1 < (l0.length : Int)) = true := decide_eq_true c3
    clear c3
    by_cases c4 : 0 ≤ x14_1
    ·rw [if_pos c4] at H
     have c4b0 : decide (0 ≤ x14_1) = true := decide_eq_true c4
     clear c4
     by_cases c5 : x14_1 < (l0.length : Int)
     ·rw [if_pos c5] at H
      have c5b0 : decide (x14_1 < (l0.length : Int)) = true := decide_eq_true c5
      clear c5
      replace H := Option.bind_eq_some_iff.mp H
      obtain ⟨t109, A60, H⟩ := H
      have A6 := Aside0.mk A60
      clear A60
      have HC7 := Aside0.mk H
      clear H
      have p108 : 0 ≤ (x14_1 : Int) := of_decide_eq_true (by first | (with_reducible assumption) | assumption)
      have q108 : x14_1 < (l0.length : Int) := of_decide_eq_true (by first | (with_reducible assumption) | assumption)
      obtain ⟨ad108, e108, hx108_0⟩ := Kd.at_string HR0.out x14_1 p108 q108
      cases e108
      replace hx108_0 := (HB.out.cell (World.block_lt_of_cell? w _ hx108_0)).trans hx108_0
      replace p108 := eq_true p108
      replace q108 := eq_true q108
      go_upto_region 6 with (first | ((with_reducible refine gate_callee (f := 39) rfl ?_); refine goesL_ (some 19) rfl rfl Tryz.func39 (by kernel_rfl) rfl #[.string (rdOf ByteArray.empty l0 x14_1)] rfl (by (try simp only [List.map_toArray, List.map_cons, List.map_nil]); first | done | rfl | (simp only [List.length_drop, List.length_take]; rfl)) ?_; (with_reducible refine (spec_Fields.calls k1 (rdOf ByteArray.empty l0 x14_1) t109 _ A6.out).mono ?_); rintro e w8 ⟨v110, rfl, ho0, hb⟩; refine ⟨_, rfl, ?_⟩; have n0_ := Aside0.mk (Kd.S_elder' (by (with_reducible repeat (first | apply Kd.S_alloc | apply Kd.S_drewN | apply Kd.S_drew)); exact HO_6.out) (Kd.R_base ho0) hb); have n1_ := Aside0.mk (Kd.R_lower ho0 (below_size belH)); have n2_ := Aside0.mk (below_step belH hb); clear HO_6; clear HB; have HO_6 := n0_; have HO111 := n1_; have HB := n2_; clear n0_ n1_ n2_; (try clear hb); (try clear hb2); (try clear hk); (try clear hi); (try clear ho0)))
      (try simp only [Act.put, List.setIfInBounds_toArray, List.set_cons_zero, List.set_cons_succ])
      go_cut [30] (fun v30 wc => ∃ (kq : Nat) (x30_6 : Bool), v30 = .bool x30_6 ∧ Aside0 (spec_table.j1 kq a1 x6_1 t109 l0 (l0.length : Int) x14_1 x30_6 = some (r1, r2)) ∧ Aside0 (kq ≤ k1) ∧ Aside0 (Kd.S k48 48 wc w.heap.size (fun k_ => some k_ ≠ (v110 : Value).ownBlock) u6 x6_1) ∧ Aside0 (Kd.R Kd.string 9 wc w.heap.size (fun _ => True) v110 t109) ∧ Aside0 (Below w.heap.size w wc))
      case first =>
       have H := HC7.out
       clear HC7
       by_cases c9 : (t109.length : Int) = 0
       ·rw [if_pos c9] at H
        have c9b0 : ((t109.length : Int) == 0) = true := beq_iff_eq.mpr c9
        have c9b1 : ((t109.length : Int) != 0) = false := bne_eq_false_iff_eq.mpr c9
        clear c9
        (first | rw [c9b0] | (simp only [i64_w, i32_w]; rw [c9b0]) | skip)
        have H' := Aside0.mk H
        clear H
        obtain ⟨Ao10, co10, eo10⟩ := Kd.R_slice HO111.out
        subst eo10
        go_wp2
        go_meet
        case rel => exact ⟨_, (true), (by first | rfl | (simp; done) | (simp [*]; done) | (simp [bne_nil]; done) | (simp [bne_nil, *]; done)), H', ⟨by have := HK1.out; first | omega | exact Nat.le_refl _⟩, ⟨by (with_reducible repeat (first | apply Kd.S_alloc | apply Kd.S_drewN | apply Kd.S_drew)); exact Kd.S_mono HO_6.out (fun _ hk => hk.2)⟩, ⟨by (with_reducible repeat (first | apply Kd.R_alloc | apply Kd.R_drewN | apply Kd.R_drew)); exact HO111.out⟩, ⟨by repeat (first | (with_reducible first | exact HB.out | apply below_alloc | apply pw_below_drewN | apply below_drew1) | exact HB.out)⟩⟩
       ·rw [if_neg c9] at H
        have c9b0 : ((t109.length : Int) == 0) = false := beq_eq_false_iff_ne.mpr c9
        have c9b1 : ((t109.length : Int) != 0) = true := bne_iff_ne.mpr c9
        have c9b2 : ¬ (t109 = []) := fun h_ => c9 (by rw [h_]; rfl)
        (first | rw [c9b0] | (simp only [i64_w, i32_w]; rw [c9b0]) | skip)
        by_cases c11 : 0 < (t109.length : Int)
        ·rw [if_pos c11] at H
         have c11b0 : decide (0 < (t109.length : Int)) = true := decide_eq_true c11
         have c11b1 : decide (0 < t109.length) = true := decide_eq_true (by omega)
         clear c11
         replace H := Option.bind_eq_some_iff.mp H
         obtain ⟨t113, A120, H⟩ := H
         have A12 := Aside0.mk A120
         clear A120
         have H' := Aside0.mk H
         clear H
         obtain ⟨Ao13, co13, eo13⟩ := Kd.R_slice HO111.out
         subst eo13
         have p112 : 0 ≤ (0 : Int) := (by omega)
         have q112 : 0 < (t109.length : Int) := of_decide_eq_true (by first | (with_reducible assumption) | assumption)
         obtain ⟨ad112, e112, hx112_0⟩ := Kd.at_string (Kd.R_reads' HO111.out).2.2 0 p112 q112
         cases e112
         have qi112 : (0 < t109.length) = True := eq_true (by omega)
         (try rw [show ((0 : Int)).toNat = 0 from rfl] at hx112_0)
         (try rw [Addr.add_zero'] at hx112_0)
         replace p112 := eq_true p112
         replace q112 := eq_true q112
         go_wp2_with (first | (go_at_call 56; (with_reducible refine (spec_Ends.calls (rdOf ByteArray.empty t109 0) a1 t113 _ A12.out).mono ?_); rintro e w' ⟨rfl, ⟨nd, rfl⟩⟩))
         go_meet
         case rel => exact ⟨_, (!t113), (by first | rfl | (simp; done) | (simp [*]; done) | (simp [bne_nil]; done) | (simp [bne_nil, *]; done)), H', ⟨by have := HK1.out; first | omega | exact Nat.le_refl _⟩, ⟨by (with_reducible repeat (first | apply Kd.S_alloc | apply Kd.S_drewN | apply Kd.S_drew)); exact Kd.S_mono HO_6.out (fun _ hk => hk.2)⟩, ⟨by (with_reducible repeat (first | apply Kd.R_alloc | apply Kd.R_drewN | apply Kd.R_drew)); exact HO111.out⟩, ⟨by repeat (first | (with_reducible first | exact HB.out | apply below_alloc | apply pw_below_drewN | apply below_drew1) | exact HB.out)⟩⟩
        ·rw [if_neg c11] at H
         exact absurd H (by simp)
      case rest =>
       clear HC7
       try clear c1
       try clear p1
       try clear q1
       try clear hx1
       try clear qi1
       try clear p2
       try clear c3
       try clear c3b0
       try clear c4
       try clear c4b0
       try clear c5
       try clear c5b0
       try clear c7
       try clear c9
       try clear c9b0
       try clear c9b1
       try clear c9b2
       try clear p10
       try clear q10
       try clear hx10
       try clear c11
       try clear c11b0
       try clear c11b1
       try clear p11
       try clear q11
       try clear hx11
       try clear qi11
       try clear hx108_0
       try clear hx112_0
       try clear p108
       try clear p112
       try clear p2
       try clear q108
       try clear q112
       obtain ⟨kq, x30_6, rfl, HA, HJ6, HO_6, HO_9, HB⟩ := hcut
       cases kq with
       | zero => exact absurd HA.out (by simp [spec_table.j1])
       | succ kj6 =>
        have H := HA.out
        clear HA
        simp only [spec_table.j1] at H
        by_cases c14 : x30_6 = true
        ·subst c14
         have H1 : (some (([] : List (S48)), false)) = some (r1, r2) := by rw [if_pos rfl] at H; exact H
         clear H
         have H := H1
         clear H1
         simp only [Option.some.injEq, Prod.mk.injEq] at H
         obtain ⟨rfl, rfl⟩ := H
         go_wp2
         go_ret2
         exact ⟨_, by first | rfl | (simp [errW_none, errW_some] <;> rfl) | (simp [*, errW_none, errW_some] <;> rfl), by first | exact Kd.S_nil _ _ _ _ _ | exact Kd.N_nil _ _ _ _ _ | exact Kd.V_nil _ _ _ _ _ | exact Kd.Q_nil _ _ _ _ _ | exact Kd.R_nil _ _ _ _ _, by repeat (first | (with_reducible first | exact HB.out | apply below_alloc | apply pw_below_drewN | apply below_drew1) | exact HB.out)⟩
        ·replace c14 := Bool.eq_false_iff.mpr c14
         subst c14
         have H1 : (if 1 ≤ (t109.length : Int) then ((spec_decimals.f kj6 (t109.drop 1)).bind fun bt118 => (if bt118.2 = true then (if 0 < (t109.length : Int) then (if 0 ≤ (wrap64 (((rdOf ByteArray.empty t109 0).size : Int) - (a1.size : Int))) then (if (wrap64 (((rdOf ByteArray.empty t109 0).size : Int) - (a1.size : Int))) ≤ ((rdOf ByteArray.empty t109 0).size : Int) then (if x6_1.length < 2199023255552 then (spec_table.l0 kj6 a1 (x6_1 ++ [(⟨(rdOf ByteArray.empty t109 0).extract 0 ((wrap64 (((rdOf ByteArray.empty t109 0).size : Int) - (a1.size : Int))) : Int).toNat, bt118.1, ([] : List ByteArray)⟩ : S48)]) l0 (l0.length : Int) (wrap64 (x14_1 + 1))) else (none)) else (none)) else (none)) else (none)) else (some (([] : List (S48)), false)))) else (none)) = some (r1, r2) := by rw [if_neg (show ¬ (false = true) by decide)] at H; exact H
         clear H
         have H := H1
         clear H1
         by_cases c15 : 1 ≤ (t109.length : Int)
         ·rw [if_pos c15] at H
          have c15b0 := eq_true c15
          have c15b1 : decide (1 ≤ (t109.length : Int)) = true := decide_eq_true c15
          clear c15
          obtain ⟨y114, hy114⟩ : ∃ y_ : List ByteArray, y_ = (t109.drop 1) := ⟨_, rfl⟩
          replace H : ((spec_decimals.f kj6 y114).bind fun bt118 => (if bt118.2 = true then (if 0 < (t109.length : Int) then (if 0 ≤ (wrap64 (((rdOf ByteArray.empty t109 0).size : Int) - (a1.size : Int))) then (if (wrap64 (((rdOf ByteArray.empty t109 0).size : Int) - (a1.size : Int))) ≤ ((rdOf ByteArray.empty t109 0).size : Int) then (if x6_1.length < 2199023255552 then (spec_table.l0 kj6 a1 (x6_1 ++ [(⟨(rdOf ByteArray.empty t109 0).extract 0 ((wrap64 (((rdOf ByteArray.empty t109 0).size : Int) - (a1.size : Int))) : Int).toNat, bt118.1, ([] : List ByteArray)⟩ : S48)]) l0 (l0.length : Int) (wrap64 (x14_1 + 1))) else (none)) else (none)) else (none)) else (none)) else (some (([] : List (S48)), false)))) = some (r1, r2) := by first | (rw [hy114]; with_reducible exact H) | (have H2_ := (Option.bind_some _ _).symm.trans H; rw [hy114]; with_reducible exact H2_) | (have H2_ := (Option.bind_some _ _).symm.trans H; with_reducible exact H2_) | with_reducible exact H | (rw [hy114]; exact H) | exact H
          have Ny114 := Aside0.mk hy114
          clear hy114
          replace H := Option.bind_eq_some_iff.mp H
          obtain ⟨⟨t118, t119⟩, A160, H⟩ := H
          have A16 := Aside0.mk A160
          clear A160
          by_cases c17 : t119 = true
          ·subst c17
           have H1 : (if 0 < (t109.length : Int) then (if 0 ≤ (wrap64 (((rdOf ByteArray.empty t109 0).size : Int) - (a1.size : Int))) then (if (wrap64 (((rdOf ByteArray.empty t109 0).size : Int) - (a1.size : Int))) ≤ ((rdOf ByteArray.empty t109 0).size : Int) then (if x6_1.length < 2199023255552 then (spec_table.l0 kj6 a1 (x6_1 ++ [(⟨(rdOf ByteArray.empty t109 0).extract 0 ((wrap64 (((rdOf ByteArray.empty t109 0).size : Int) - (a1.size : Int))) : Int).toNat, t118, ([] : List ByteArray)⟩ : S48)]) l0 (l0.length : Int) (wrap64 (x14_1 + 1))) else (none)) else (none)) else (none)) else (none)) = some (r1, r2) := by rw [if_pos rfl] at H; exact H
           clear H
           have H := H1
           clear H1
           by_cases c18 : 0 < (t109.length : Int)
           ·rw [if_pos c18] at H
            have c18b0 : decide (0 < (t109.length : Int)) = true := decide_eq_true c18
            have c18b1 : decide (0 < t109.length) = true := decide_eq_true (by omega)
            clear c18
            obtain ⟨ji19, hji19⟩ : ∃ j_ : Int, (wrap64 (((rdOf ByteArray.empty t109 0).size : Int) - (a1.size : Int))) = j_ := ⟨_, rfl⟩
            replace H : (if 0 ≤ (ji19) then (if (ji19) ≤ ((rdOf ByteArray.empty t109 0).size : Int) then (if x6_1.length < 2199023255552 then (spec_table.l0 kj6 a1 (x6_1 ++ [(⟨(rdOf ByteArray.empty t109 0).extract 0 ((ji19) : Int).toNat, t118, ([] : List ByteArray)⟩ : S48)]) l0 (l0.length : Int) (wrap64 (x14_1 + 1))) else (none)) else (none)) else (none)) = some (r1, r2) := by first | (rw [hji19] at H; exact H) | (simp only [hji19] at H ⊢; exact H)
            (try rw [hji19] at A16)
            have hji19w : (IntKind.i64.wrap (((rdOf ByteArray.empty t109 0).size : Int) - (a1.size : Int))) = ji19 := (i64_w _).trans hji19
            by_cases c20 : 0 ≤ (ji19)
            ·rw [if_pos c20] at H
             have c20b0 := eq_true c20
             have c20b1 : decide (0 ≤ (ji19)) = true := decide_eq_true c20
             clear c20
             by_cases c21 : (ji19) ≤ ((rdOf ByteArray.empty t109 0).size : Int)
             ·rw [if_pos c21] at H
              have c21b0 := eq_true c21
              have c21b1 : decide ((ji19) ≤ ((rdOf ByteArray.empty t109 0).size : Int)) = true := decide_eq_true c21
              clear c21
              by_cases c22 : x6_1.length < 2199023255552
              ·rw [if_pos c22] at H
               have LMc22 := Aside0.mk c22
               clear c22
               obtain ⟨y124, hy124⟩ : ∃ y_ : List (S48), y_ = (x6_1 ++ [(⟨(rdOf ByteArray.empty t109 0).extract 0 ((ji19) : Int).toNat, t118, ([] : List ByteArray)⟩ : S48)]) := ⟨_, rfl⟩
               replace H : (spec_table.l0 kj6 a1 y124 l0 (l0.length : Int) (wrap64 (x14_1 + 1))) = some (r1, r2) := by first | (rw [hy124]; with_reducible exact H) | (have H2_ := (Option.bind_some _ _).symm.trans H; rw [hy124]; with_reducible exact H2_) | (have H2_ := (Option.bind_some _ _).symm.trans H; with_reducible exact H2_) | with_reducible exact H | (rw [hy124]; exact H) | exact H
               have Ny124 := Aside0.mk hy124
               clear hy124
               have H' := Aside0.mk H
               clear H
               obtain ⟨Ao24, co24, eo24⟩ := Kd.R_slice HO_9.out
               subst eo24
               have q23 : (1 : Int) ≤ ((t109.length : Int) : Int) := of_decide_eq_true (by first | (with_reducible assumption) | assumption)
               obtain ⟨i023, hi023, _, hsz23, _⟩ := info_parts info9
               have hroom23 : t109.length ≤ co24 := (Kd.R_reads' HO_9.out).2.1
               have hC23 : Kd.C Kd.string _ Ao24 t109.length t109 := (Kd.R_reads' HO_9.out).2.2
               have hcut23 := cut_from (P := Tryz.prog) 42 9 .i64 Tryz.underlying42 hi023 1 hsz23 Ao24 t109.length co24 1 (by omega) q23
               have hr23 := Kd.C_drop (m := (1 : Int).toNat) (c := co24) hC23 (by omega) hroom23
               obtain ⟨A23, hA23⟩ : ∃ A1, A1 = (if co24 = (1 : Int).toNat then Ao24 else (Ao24 : Option Addr).map (·.add ((1 : Int).toNat * 1))) := ⟨_, rfl⟩
               obtain ⟨c23, hc23⟩ : ∃ c1, c1 = co24 - (1 : Int).toNat := ⟨_, rfl⟩
               have hy23 : y114.length = t109.length - (1 : Int).toNat := (by rw [Ny114.out, List.length_drop] <;> omega)
               rw [show (t109).drop (1 : Int).toNat = y114 from Ny114.out.symm] at hr23
               replace hr23 : Kd.C Kd.string _ A23 y114.length y114 := (by rw [hA23]; exact hr23)
               rw [← hy23, ← hA23, ← hc23] at hcut23
               have HR117 := Aside0.mk hr23
               have HC117 := Aside0.mk (show y114.length ≤ c23 from by rw [hy23, hc23]; exact Nat.sub_le_sub_right hroom23 _)
               clear hr23 hC23 hroom23 hi023 hsz23 hc23
               have KY23 := Aside0.mk hy23
               have KA23 := Aside0.mk hA23
               clear hy23 hA23
               have KL23 := Aside0.mk (show 1 ≤ t109.length from by omega)
               replace q23 := eq_true q23
               try go_wp2_with (first | ((with_reducible refine gate_callee (f := 43) rfl ?_); refine goesL_ (some 34) rfl rfl Tryz.func43 (by kernel_rfl) rfl #[.slice A23 y114.length c23] rfl (by (try simp only [List.map_toArray, List.map_cons, List.map_nil]); first | done | rfl | (simp only [List.length_drop, List.length_take]; rfl)) ?_; (with_reducible refine (spec_decimals.calls kj6 _ _ y114 t118 true _ ?side1 ?side2 A16.out).mono ?_); (case side1 => repeat (first | exact (by repeat (first | (with_reducible exact HR117.out) | (with_reducible refine Kd.C_alloc ?_ _) | (with_reducible refine Kd.C_drewN ?_ _) | (with_reducible refine Kd.C_drew ?_) | exact HR117.out)) | (with_reducible refine Kd.C_alloc ?_ _) | (with_reducible refine Kd.C_drewN ?_ _) | (with_reducible refine Kd.C_drew ?_))); (case side2 => exact HC117.out); rintro e w25 ⟨v120, rfl, ho0, hb⟩; refine ⟨_, rfl, ?_⟩; have n0_ := Aside0.mk (Kd.S_elder' (by (with_reducible repeat (first | apply Kd.S_alloc | apply Kd.S_drewN | apply Kd.S_drew)); exact HO_6.out) (Kd.R_base ho0) hb); have n1_ := Aside0.mk (Kd.R_below (by (with_reducible repeat (first | apply Kd.R_alloc | apply Kd.R_drewN | apply Kd.R_drew)); exact HO_9.out) hb); have n2_ := Aside0.mk (Kd.R_lower ho0 (below_size belH)); have n3_ := Aside0.mk (Kd.C_below (by repeat (first | (with_reducible exact HR117.out) | (with_reducible refine Kd.C_alloc ?_ _) | (with_reducible refine Kd.C_drewN ?_ _) | (with_reducible refine Kd.C_drew ?_) | exact HR117.out)) hb); have n4_ := Aside0.mk (below_step belH hb); clear HO_6; clear HO_9; clear HR117; clear HB; have HO_6 := n0_; have HO_9 := n1_; have HO121 := n2_; have HR117 := n3_; have HB := n4_; clear n0_ n1_ n2_ n3_ n4_; (try clear hb); (try clear hb2); (try clear hk); (try clear hi); (try clear ho0)))
               have n0_ := Aside0.mk (Kd.S_drew HO_6.out)
               have n1_ := Aside0.mk (Kd.R_drew HO_9.out)
               have n2_ := Aside0.mk (Kd.R_drew HO121.out)
               have n3_ := Aside0.mk (Kd.C_drew HR117.out)
               have n4_ := Aside0.mk (below_drew1 HB.out)
               clear HO_6
               clear HO_9
               clear HO121
               clear HR117
               clear HB
               have HO_6 := n0_
               have HO_9 := n1_
               have HO121 := n2_
               have HR117 := n3_
               have HB := n4_
               clear n0_ n1_ n2_ n3_ n4_
               have p122 : 0 ≤ (0 : Int) := (by omega)
               have q122 : 0 < (t109.length : Int) := of_decide_eq_true (by first | (with_reducible assumption) | assumption)
               obtain ⟨ad122, e122, hx122_0⟩ := Kd.at_string (Kd.R_reads' HO_9.out).2.2 0 p122 q122
               cases e122
               have qi122 : (0 < t109.length) = True := eq_true (by omega)
               (try rw [show ((0 : Int)).toNat = 0 from rfl] at hx122_0)
               (try rw [Addr.add_zero'] at hx122_0)
               replace p122 := eq_true p122
               replace q122 := eq_true q122
               have p123 : 0 ≤ (0 : Int) := (by omega)
               have q123 : 0 < (t109.length : Int) := of_decide_eq_true (by first | (with_reducible assumption) | assumption)
               obtain ⟨ad123, e123, hx123_0⟩ := Kd.at_string (Kd.R_reads' HO_9.out).2.2 0 p123 q123
               obtain rfl : ad122 = ad123 := (by injection e123)
               have qi123 : (0 < t109.length) = True := eq_true (by omega)
               (try rw [show ((0 : Int)).toNat = 0 from rfl] at hx123_0)
               (try rw [Addr.add_zero'] at hx123_0)
               replace p123 := eq_true p123
               replace q123 := eq_true q123
               obtain ⟨Ao27, co27, eo27⟩ := Kd.R_slice HO121.out
               (first | subst eo27 | (injection eo27 with f1_ f2_ f3_; have f4_ := f1_.symm; have f5_ := f3_.symm; clear f1_ f2_ f3_; subst f4_; subst f5_))
               refine start_ (n := 17) (S := fun w' => w'.cell? ad122 = some (.string (rdOf ByteArray.empty t109 0)) ∧ w'.cell? ad122 = some (.string (rdOf ByteArray.empty t109 0))) (ds := [14, 15]) (tfA 0 17) (by kernel_rfl) rfl rfl ⟨hx122_0, hx123_0⟩ (fun hHeld => ?_); refine with_tabW spec_table.tab11 spec_table.bits11 (fun HT_ HW_ => ?_)
               generalize w25.drew = w26 at HO_6 HO_9 HO121 HR117 HB hx122_0 hx123_0 hHeld ⊢
               refine pure_ (i := 0) (N := some 39) (v := ?_) (a' := ?_) (tfA 1 16) rfl rfl (any_of HT_.out (by kernel_rfl)) (fun _ _ _ h => h) (Or.inl ⟨by rfl, ?_⟩) ?_ ?_
               rotate_left
               ·intro w'
                go_simp
                with_reducible rfl
               rotate_left
               ·simp only [Act.put, sA, s0, s1, i64_w, i32_w]
                rfl
               refine pure_ (i := 1) (N := some 40) (v := ?_) (a' := ?_) (tfA 2 15) rfl rfl (any_of HT_.out (by kernel_rfl)) (fun _ _ _ h => h) (Or.inl ⟨by rfl, ?_⟩) ?_ ?_
               rotate_left
               ·intro w'
                go_simp
                with_reducible rfl
               rotate_left
               ·simp only [Act.put, sA, s0, s1, i64_w, i32_w]
                rfl
               refine pure_ (i := 2) (N := some 41) (v := ?_) (a' := ?_) (tfA 3 14) rfl rfl (any_of HT_.out (by kernel_rfl)) (fun _ _ _ h => h) (Or.inl ⟨by rfl, ?_⟩) ?_ ?_
               rotate_left
               ·intro w'
                go_simp
                with_reducible rfl
               rotate_left
               ·simp only [Act.put, sA, s0, s1, i64_w, i32_w]
                rfl
               refine pure_ (i := 4) (N := some 43) (v := ?_) (a' := ?_) (bnA 17 23) rfl rfl (any_of HT_.out (by kernel_rfl)) (fun _ _ _ h => h) (Or.inl ⟨by rfl, ?_⟩) ?_ ?_
               rotate_left
               ·intro w'
                go_simp
                with_reducible rfl
               rotate_left
               ·simp only [Act.put, sA, s0, s1, i64_w, i32_w]
                rfl
               refine pure_ (i := 5) (N := some 44) (v := ?_) (a' := ?_) (bnA 17 55) rfl rfl (any_of HT_.out (by kernel_rfl)) (fun _ _ _ h => h) (Or.inl ⟨by rfl, ?_⟩) ?_ ?_
               rotate_left
               ·intro w'
                go_simp
                with_reducible rfl
               rotate_left
               ·simp only [Act.put, sA, s0, s1, i64_w, i32_w]
                rfl
               refine pure_ (i := 8) (N := some 47) (v := ?_) (a' := ?_) (bnA 17 311) rfl rfl (any_of HT_.out (by kernel_rfl)) (fun _ _ _ h => h) (Or.inl ⟨by rfl, ?_⟩) ?_ ?_
               rotate_left
               ·intro w'
                go_simp
                with_reducible rfl
               rotate_left
               ·simp only [Act.put, sA, s0, s1, i64_w, i32_w]
                rfl
               refine pure_ (i := 9) (N := some 48) (v := ?_) (a' := ?_) (bnA 17 823) rfl rfl (any_of HT_.out (by kernel_rfl)) (fun _ _ _ h => h) (Or.inl ⟨by rfl, ?_⟩) ?_ ?_
               rotate_left
               ·intro w'
                go_simp
                with_reducible rfl
               rotate_left
               ·simp only [Act.put, sA, s0, s1, i64_w, i32_w]
                rfl
               refine pure_ (i := 12) (N := some 51) (v := ?_) (a' := ?_) (bnA 17 4919) rfl rfl (any_of HT_.out (by kernel_rfl)) (fun _ _ _ h => h) (Or.inl ⟨by rfl, ?_⟩) ?_ ?_
               rotate_left
               ·intro w'
                go_simp
                with_reducible rfl
               rotate_left
               ·simp only [Act.put, sA, s0, s1, i64_w, i32_w]
                rfl
               refine take_ (i := 3) (N := some 42) (v := ?_) (a' := ?_) (bnA 17 4927) rfl rfl (take_ofW HT_.out HW_.out (by kernel_rfl)) (fun _ _ _ h => h) (Or.inl ⟨by rfl, ?_⟩) hHeld ?_ ?_
               rotate_left
               ·rintro w' ⟨s0, s1⟩
                go_simp
                with_reducible rfl
               rotate_left
               ·simp only [Act.put, sA, s0, s1, i64_w, i32_w]
                rfl
               refine take_ (i := 6) (N := some 45) (v := ?_) (a' := ?_) (bnA 17 4991) rfl rfl (take_ofW HT_.out HW_.out (by kernel_rfl)) (fun _ _ _ h => h) (Or.inl ⟨by rfl, ?_⟩) hHeld ?_ ?_
               rotate_left
               ·rintro w' ⟨s0, s1⟩
                go_simp
                with_reducible rfl
               rotate_left
               ·simp only [Act.put, sA, s0, s1, i64_w, i32_w]
                rfl
               refine pure_ (i := 7) (N := some 46) (v := ?_) (a' := ?_) (bnA 17 5119) rfl rfl (any_of HT_.out (by kernel_rfl)) (fun _ _ _ h => h) (Or.inl ⟨by rfl, ?_⟩) ?_ ?_
               rotate_left
               ·intro w'
                go_simp
                with_reducible rfl
               rotate_left
               ·simp only [Act.put, sA, s0, s1, i64_w, i32_w]
                rfl
               refine pure_ (i := 10) (N := some 49) (v := ?_) (a' := ?_) (bnA 17 6143) rfl rfl (any_of HT_.out (by kernel_rfl)) (fun _ _ _ h => h) (Or.inl ⟨by rfl, ?_⟩) ?_ ?_
               rotate_left
               ·intro w'
                go_simp
                with_reducible rfl
               rotate_left
               ·simp only [Act.put, sA, s0, s1, i64_w, i32_w]
                rfl
               refine pure_ (i := 11) (N := some 50) (v := ?_) (a' := ?_) (tfA 13 4) rfl rfl (any_of HT_.out (by kernel_rfl)) (fun _ _ _ h => h) (Or.inl ⟨by rfl, ?_⟩) ?_ ?_
               rotate_left
               ·intro w'
                go_simp
                with_reducible rfl
               rotate_left
               ·simp only [Act.put, sA, s0, s1, i64_w, i32_w]
                rfl
               refine pure_ (i := 13) (N := some 52) (v := ?_) (a' := ?_) (tfA 14 3) rfl rfl (any_of HT_.out (by kernel_rfl)) (fun _ _ _ h => h) (Or.inl ⟨by rfl, ?_⟩) ?_ ?_
               rotate_left
               ·intro w'
                go_simp
                with_reducible rfl
               rotate_left
               ·simp only [Act.put, sA, s0, s1, i64_w, i32_w]
                rfl
               refine last_ (i := 14) (N := some 53) (tfA 15 2) rfl rfl (one_of HT_.out (by kernel_rfl)) (by decide) (fun K hK => ?_)
               refine value_ (w1 := ?_) (v := ?_) (by rfl) rfl ?_ ?_
               rotate_left 2
               ·go_simp
                constructor
                ·rfl
                ·rfl
               refine hK.out _ _ ?_
               clear hK K
               refine norm_ (a' := ?_) ?_ ?_
               rotate_left
               ·show Act.put _ (some 53) _ = _
                simp only [Act.put, sA, s0, s1, i64_w, i32_w]
                rfl
               refine last_ (i := 15) (N := some 54) (tfA 16 1) rfl rfl (one_of HT_.out (by kernel_rfl)) (by decide) (fun K hK => ?_)
               refine Kd.S_append_step k48 (w0 := w) w.heap.size (by rfl) (.tmp 39) (.tmp 53) 27 48 (.agg #[(.string ⟨#[]⟩), (.slice none 0 0), (.slice none 0 0)]) 64 rfl Tryz.underlying27 info48 rfl (by decide) (by omega) u6 x6_1 (⟨(rdOf ByteArray.empty t109 0).extract 0 ((ji19) : Int).toNat, t118, ([] : List ByteArray)⟩ : S48) [.string ((rdOf ByteArray.empty t109 0).extract 0 ((ji19) : Int).toNat), .slice Ao27 t118.length co27, .slice none 0 0] (fun k_ => some k_ ≠ (.slice (some ad122) t109.length co24 : Value).ownBlock) (fun k_ => some k_ = (.slice Ao27 t118.length co27 : Value).ownBlock) rfl rfl ?aP (fun k_ hk_ => ((Kd.R_mono (ok' := fun k_ => ((fun k_ => some k_ ≠ (.slice (some ad122) t109.length co24 : Value).ownBlock)) k_ ∧ some k_ ≠ (u6 : Value).ownBlock) (Kd.R_apart' (Kd.R_apart' (HO121.out) (Kd.R_typed HO_9.out) (by decide)) (Kd.S_typed HO_6.out) (by decide)) (fun k_ hk => ⟨hk.1.2, hk.2⟩))).1 k_ hk_.symm) ?aF ?aO ?aB ?aS ?aL ?_
               (case aP => exact k48_mkM _ _ _ (⟨(rdOf ByteArray.empty t109 0).extract 0 ((ji19) : Int).toNat, t118, ([] : List ByteArray)⟩ : S48) (Kd.R_mono (Kd.R_tight rfl (Kd.R_mono (ok' := fun k_ => ((fun k_ => some k_ ≠ (.slice (some ad122) t109.length co24 : Value).ownBlock)) k_ ∧ some k_ ≠ (u6 : Value).ownBlock) (Kd.R_apart' (Kd.R_apart' (HO121.out) (Kd.R_typed HO_9.out) (by decide)) (Kd.S_typed HO_6.out) (by decide)) (fun k_ hk => ⟨hk.1.2, hk.2⟩))) (fun _ h_ => h_)) (Kd.R_nil _ _ _ _ _))
               (case aB => exact belH)
               (case aF => exact (fun k_ hk => Kd.fresh' (Kd.R_lt (by (with_reducible repeat (first | apply Kd.R_alloc | apply Kd.R_drewN | apply Kd.R_drew)); exact HO_9.out)) k_ hk))
               (case aO => exact (by (with_reducible repeat (first | apply Kd.S_alloc | apply Kd.S_drewN | apply Kd.S_drew)); exact Kd.S_mono HO_6.out (fun k_ hk => ⟨hk.1, fun e_ => hk.2 e_⟩)))
               (case aS => exact (below_size belH))
               (case aL => have := LMc22.out; omega)
               intro v125 w28 ho hb hg hat
               rw [← Ny124.out] at ho
               have n0_ := Aside0.mk (Kd.R_over' (by (with_reducible repeat (first | apply Kd.R_alloc | apply Kd.R_drewN | apply Kd.R_drew)); exact HO_9.out) (Kd.S_typed (by (with_reducible repeat (first | apply Kd.S_alloc | apply Kd.S_drewN | apply Kd.S_drew)); exact HO_6.out)) (by decide) hg)
               have n1_ := Aside0.mk (hb)
               have n2_ := Aside0.mk ((show Kd.C Kd.string w28 A23 y114.length y114 from by rw [Ny114.out, KA23.out]; exact Kd.C_drop (m := 1) (c := co24) ((Kd.R_reads' (Kd.R_over' (by (with_reducible repeat (first | apply Kd.R_alloc | apply Kd.R_drewN | apply Kd.R_drew)); exact HO_9.out) (Kd.S_typed (by (with_reducible repeat (first | apply Kd.S_alloc | apply Kd.S_drewN | apply Kd.S_drew)); exact HO_6.out)) (by decide) hg)).2.2) KL23.out ((Kd.R_reads' (Kd.R_over' (by (with_reducible repeat (first | apply Kd.R_alloc | apply Kd.R_drewN | apply Kd.R_drew)); exact HO_9.out) (Kd.S_typed (by (with_reducible repeat (first | apply Kd.S_alloc | apply Kd.S_drewN | apply Kd.S_drew)); exact HO_6.out)) (by decide) hg)).2.1)))
               have n3_ := Aside0.mk (ho)
               clear HO_9
               clear HB
               clear HR117
               clear HO_6
               clear HO121
               have HO_9 := n0_
               have HB := n1_
               have HR117 := n2_
               have HO126 := n3_
               clear n0_ n1_ n2_ n3_
               clear ho hb hg hat
               refine hK.out _ _ ?_
               clear hK K
               refine norm_ (a' := ?_) ?_ ?_
               rotate_left
               ·show Act.put _ (some 54) _ = _
                simp only [Act.put, sA, s0, s1, i64_w, i32_w]
                rfl
               refine pure_ (i := 16) (N := some 6) (v := ?_) (a' := ?_) (tfA 17 0) rfl rfl (any_of HT_.out (by kernel_rfl)) (fun _ _ _ h => h) (Or.inl ⟨by rfl, ?_⟩) ?_ ?_
               rotate_left
               ·intro w'
                go_simp
                with_reducible rfl
               rotate_left
               ·simp only [Act.put, sA, s0, s1, i64_w, i32_w]
                rfl
               refine done_ (done_of HT_.out (by kernel_rfl)) ?_
               try go_wp2
               go_roundg kj6
               case measure => have := HK1.out; have := HJ6.out; omega
               case rel => exact ⟨(y124), (wrap64 (x14_1 + 1)), (by first | rfl | (simp; done) | (simp [*]; done) | (simp [bne_nil]; done) | (simp [bne_nil, *]; done)), H', ⟨by have := HK1.out; have := HJ6.out; omega⟩, ⟨by (with_reducible repeat (first | apply Kd.S_alloc | apply Kd.S_drewN | apply Kd.S_drew)); exact Kd.S_mono HO126.out (fun _ hk => trivial)⟩, ⟨by repeat (first | (with_reducible first | exact HB.out | apply below_alloc | apply pw_below_drewN | apply below_drew1) | exact HB.out)⟩⟩
              ·rw [if_neg c22] at H
               exact absurd H (by simp)
             ·rw [if_neg c21] at H
              exact absurd H (by simp)
            ·rw [if_neg c20] at H
             exact absurd H (by simp)
           ·rw [if_neg c18] at H
            exact absurd H (by simp)
          ·replace c17 := Bool.eq_false_iff.mpr c17
           subst c17
           have H1 : (some (([] : List (S48)), false)) = some (r1, r2) := by rw [if_neg (show ¬ (false = true) by decide)] at H; exact H
           clear H
           have H := H1
           clear H1
           simp only [Option.some.injEq, Prod.mk.injEq] at H
           obtain ⟨rfl, rfl⟩ := H
           obtain ⟨Ao30, co30, eo30⟩ := Kd.R_slice HO_9.out
           subst eo30
           have q29 : (1 : Int) ≤ ((t109.length : Int) : Int) := of_decide_eq_true (by first | (with_reducible assumption) | assumption)
           obtain ⟨i029, hi029, _, hsz29, _⟩ := info_parts info9
           have hroom29 : t109.length ≤ co30 := (Kd.R_reads' HO_9.out).2.1
           have hC29 : Kd.C Kd.string _ Ao30 t109.length t109 := (Kd.R_reads' HO_9.out).2.2
           have hcut29 := cut_from (P := Tryz.prog) 42 9 .i64 Tryz.underlying42 hi029 1 hsz29 Ao30 t109.length co30 1 (by omega) q29
           have hr29 := Kd.C_drop (m := (1 : Int).toNat) (c := co30) hC29 (by omega) hroom29
           obtain ⟨A29, hA29⟩ : ∃ A1, A1 = (if co30 = (1 : Int).toNat then Ao30 else (Ao30 : Option Addr).map (·.add ((1 : Int).toNat * 1))) := ⟨_, rfl⟩
           obtain ⟨c29, hc29⟩ : ∃ c1, c1 = co30 - (1 : Int).toNat := ⟨_, rfl⟩
           have hy29 : y114.length = t109.length - (1 : Int).toNat := (by rw [Ny114.out, List.length_drop] <;> omega)
           rw [show (t109).drop (1 : Int).toNat = y114 from Ny114.out.symm] at hr29
           replace hr29 : Kd.C Kd.string _ A29 y114.length y114 := (by rw [hA29]; exact hr29)
           rw [← hy29, ← hA29, ← hc29] at hcut29
           have HR117 := Aside0.mk hr29
           have HC117 := Aside0.mk (show y114.length ≤ c29 from by rw [hy29, hc29]; exact Nat.sub_le_sub_right hroom29 _)
           clear hr29 hC29 hroom29 hi029 hsz29 hc29
           have KY29 := Aside0.mk hy29
           have KA29 := Aside0.mk hA29
           clear hy29 hA29
           have KL29 := Aside0.mk (show 1 ≤ t109.length from by omega)
           replace q29 := eq_true q29
           go_wp2_with (first | ((with_reducible refine gate_callee (f := 43) rfl ?_); refine goesL_ (some 34) rfl rfl Tryz.func43 (by kernel_rfl) rfl #[.slice A29 y114.length c29] rfl (by (try simp only [List.map_toArray, List.map_cons, List.map_nil]); first | done | rfl | (simp only [List.length_drop, List.length_take]; rfl)) ?_; (with_reducible refine (spec_decimals.calls kj6 _ _ y114 t118 false _ ?side1 ?side2 A16.out).mono ?_); (case side1 => repeat (first | exact (by repeat (first | (with_reducible exact HR117.out) | (with_reducible refine Kd.C_alloc ?_ _) | (with_reducible refine Kd.C_drewN ?_ _) | (with_reducible refine Kd.C_drew ?_) | exact HR117.out)) | (with_reducible refine Kd.C_alloc ?_ _) | (with_reducible refine Kd.C_drewN ?_ _) | (with_reducible refine Kd.C_drew ?_))); (case side2 => exact HC117.out); rintro e w31 ⟨v120, rfl, ho0, hb⟩; refine ⟨_, rfl, ?_⟩; have n0_ := Aside0.mk (Kd.S_elder' (by (with_reducible repeat (first | apply Kd.S_alloc | apply Kd.S_drewN | apply Kd.S_drew)); exact HO_6.out) (Kd.R_base ho0) hb); have n1_ := Aside0.mk (Kd.R_below (by (with_reducible repeat (first | apply Kd.R_alloc | apply Kd.R_drewN | apply Kd.R_drew)); exact HO_9.out) hb); have n2_ := Aside0.mk (Kd.R_lower ho0 (below_size belH)); have n3_ := Aside0.mk (Kd.C_below (by repeat (first | (with_reducible exact HR117.out) | (with_reducible refine Kd.C_alloc ?_ _) | (with_reducible refine Kd.C_drewN ?_ _) | (with_reducible refine Kd.C_drew ?_) | exact HR117.out)) hb); have n4_ := Aside0.mk (below_step belH hb); clear HO_6; clear HO_9; clear HR117; clear HB; have HO_6 := n0_; have HO_9 := n1_; have HO121 := n2_; have HR117 := n3_; have HB := n4_; clear n0_ n1_ n2_ n3_ n4_; (try clear hb); (try clear hb2); (try clear hk); (try clear hi); (try clear ho0)))
           go_ret2
           exact ⟨_, by first | rfl | (simp [errW_none, errW_some] <;> rfl) | (simp [*, errW_none, errW_some] <;> rfl), by first | exact Kd.S_nil _ _ _ _ _ | exact Kd.N_nil _ _ _ _ _ | exact Kd.V_nil _ _ _ _ _ | exact Kd.Q_nil _ _ _ _ _ | exact Kd.R_nil _ _ _ _ _, by repeat (first | (with_reducible first | exact HB.out | apply below_alloc | apply pw_below_drewN | apply below_drew1) | exact HB.out)⟩
         ·rw [if_neg c15] at H
          exact absurd H (by simp)
     ·rw [if_neg c5] at H
      exact absurd H (by simp)
    ·rw [if_neg c4] at H
     exact absurd H (by simp)
   ·rw [if_neg c3] at H
    have c3b0 : decide (x14_1 < (l0.length : Int)) = false := decide_eq_false c3
    clear c3
    simp only [Option.some.injEq, Prod.mk.injEq] at H
    obtain ⟨rfl, rfl⟩ := H
    go_wp2
    go_ret2
    exact ⟨_, by first | rfl | (simp [errW_none, errW_some] <;> rfl) | (simp [*, errW_none, errW_some] <;> rfl), by (with_reducible repeat (first | apply Kd.S_alloc | apply Kd.S_drewN | apply Kd.S_drew)); exact HO_6.out, by repeat (first | (with_reducible first | exact HB.out | apply below_alloc | apply pw_below_drewN | apply below_drew1) | exact HB.out)⟩

/-! ### spec_meant__SchedstatPrint: function 44 -/
def spec_meant__SchedstatPrint.j0 : Nat → ByteArray → List (S48) → Bool → Bool → Option ((List (S48)) × Bool × Int)
 | 0, _, _, _, _ => none
 | k + 1, x0, x1, x4, x21 => if x21 = true then (some (([] : List (S48)), false, 2)) else ((spec_SchedstatPrint.f k x1).bind fun bt128 => (if bt128.2 = 1 then (if bt128.1.toList = x0.toList then (some (x1, true, 1)) else (if x4 = true then (none) else (some (([] : List (S48)), false, 2)))) else (some (([] : List (S48)), false, 2))))
def spec_meant__SchedstatPrint.f (k : Nat) (a0 : ByteArray) (l1 : List (S48)) (a2 : Bool)  (a4 : Bool) : Option ((List (S48)) × Bool × Int) := if a2 = true then ((spec_Plain.f k a0).bind fun t127 => (spec_meant__SchedstatPrint.j0 k a0 l1 a4 (!t127))) else (spec_meant__SchedstatPrint.j0 k a0 l1 a4 true)
theorem spec_meant__SchedstatPrint.mono_l : ∀ k, (∀ y0 y1 y2 y3, LeO (spec_meant__SchedstatPrint.j0 k y0 y1 y2 y3) (spec_meant__SchedstatPrint.j0 (k + 1) y0 y1 y2 y3))
 | 0 => fun _ _ _ _ r h => by simp [spec_meant__SchedstatPrint.j0] at h
 | k + 1 => by
  have ih0 := spec_meant__SchedstatPrint.mono_l k
  ·intro y0 y1 y2 y3
   unfold spec_meant__SchedstatPrint.j0
   repeat' first
   | (with_reducible exact ih0 _ _ _ _)
   | (with_reducible exact spec_Plain.mono _ _)
   | (with_reducible exact spec_SchedstatPrint.mono _ _)
   | (with_reducible exact LeO.refl _)
   | (with_reducible exact LeO.none _)
   | (with_reducible refine LeO.ite ?_ ?_)
   | (with_reducible refine LeO.bind ?_ (fun _ => ?_))
   | exact ih0 _ _ _ _
   | exact spec_Plain.mono _ _
   | exact spec_SchedstatPrint.mono _ _
   | exact LeO.none _
   | refine LeO.ite ?_ ?_
   | refine LeO.bind ?_ (fun _ => ?_)
theorem spec_meant__SchedstatPrint.mono : ∀ a0 a1 a2 a3 k, LeO (spec_meant__SchedstatPrint.f k a0 a1 a2 a3) (spec_meant__SchedstatPrint.f (k + 1) a0 a1 a2 a3) := by
 intro a0 a1 a2 a3 k
 have ih0 := spec_meant__SchedstatPrint.mono_l k
 unfold spec_meant__SchedstatPrint.f
 repeat' first
   | (with_reducible exact ih0 _ _ _ _)
   | (with_reducible exact spec_Plain.mono _ _)
   | (with_reducible exact spec_SchedstatPrint.mono _ _)
   | (with_reducible exact LeO.refl _)
   | (with_reducible exact LeO.none _)
   | (with_reducible refine LeO.ite ?_ ?_)
   | (with_reducible refine LeO.bind ?_ (fun _ => ?_))
   | exact ih0 _ _ _ _
   | exact spec_Plain.mono _ _
   | exact spec_SchedstatPrint.mono _ _
   | exact LeO.none _
   | refine LeO.ite ?_ ?_
   | refine LeO.bind ?_ (fun _ => ?_)
set_option maxHeartbeats 8000000 in
set_option maxRecDepth 100000 in
theorem spec_meant__SchedstatPrint.calls (k : Nat) (a0 : ByteArray) (P1_ : Nat → Prop) (A1 : Option Addr) (c1 : Nat) (l1 : List (S48)) (a2 : Bool)  (a4 : Bool) (r1 : List (S48)) (r2 : Bool) (r3 : Int) (w : World) (hs1 : Kd.V k48 48 w w.heap.size (fun k_ => P1_ k_) (.slice A1 l1.length c1) l1) (h : spec_meant__SchedstatPrint.f k a0 l1 a2 a4 = some (r1, r2, r3)) :
  Calls Tryz.prog 44 #[.string a0, .slice A1 l1.length c1, .bool a2, .func (.func 22) #[] #[], .bool a4] w fun e w' => ∃ v0_ : Value, e = .returned (.tuple #[v0_, .bool r2, .int .i64 r3]) ∧ Kd.V k48 48 w' w.heap.size (fun k_ => (P1_ k_ ∨ w.heap.size ≤ k_)) v0_ r1 ∧ Below w.heap.size w w' := by
 have HO1 := Aside0.mk (show Kd.V k48 48 w w.heap.size (fun k_ => (P1_ k_ ∨ w.heap.size ≤ k_)) (.slice A1 l1.length c1) l1 from Kd.V_mono hs1 (fun k_ hk => .inl hk))
 have HB := Aside0.mk (Below.refl w.heap.size w)
 have H : (if a2 = true then ((spec_Plain.f k a0).bind fun t127 => (spec_meant__SchedstatPrint.j0 k a0 l1 a4 (!t127))) else (spec_meant__SchedstatPrint.j0 k a0 l1 a4 true)) = some (r1, r2, r3) := h
 clear h
 have HC6 := Aside0.mk H
 clear H
 go_enter Tryz.func44, Tryz.ntmps44
 go_upto_region 1 with (fail)
 go_cut [21] (fun v21 wc => ∃ (kq : Nat) (x21_5 : Bool), v21 = .bool x21_5 ∧ Aside0 (spec_meant__SchedstatPrint.j0 kq a0 l1 a4 x21_5 = some (r1, r2, r3)) ∧ Aside0 (kq ≤ k) ∧ Aside0 (Kd.V k48 48 wc w.heap.size (fun k_ => (P1_ k_ ∨ w.heap.size ≤ k_)) (.slice A1 l1.length c1) l1) ∧ Aside0 (Below w.heap.size w wc))
 case first =>
  have H := HC6.out
  clear HC6
  by_cases c7 : a2 = true
  ·subst c7
   have H1 : ((spec_Plain.f k a0).bind fun t127 => (spec_meant__SchedstatPrint.j0 k a0 l1 a4 (!t127))) = some (r1, r2, r3) := by rw [if_pos rfl] at H; exact H
   clear H
   have H := H1
   clear H1
   replace H := Option.bind_eq_some_iff.mp H
   obtain ⟨t127, A80, H⟩ := H
   have A8 := Aside0.mk A80
   clear A80
   have H' := Aside0.mk H
   clear H
   go_wp2_with (first | (go_at_call 80; (with_reducible refine (spec_Plain.calls k a0 t127 _ A8.out).mono ?_); rintro e w' ⟨rfl, ⟨nd, rfl⟩⟩))
   go_meet
   case rel => exact ⟨_, (!t127), (by first | rfl | (simp; done) | (simp [*]; done) | (simp [bne_nil]; done) | (simp [bne_nil, *]; done)), H', ⟨by first | omega | exact Nat.le_refl _⟩, ⟨by (with_reducible repeat (first | apply Kd.V_alloc | apply Kd.V_drewN | apply Kd.V_drew)); exact HO1.out⟩, ⟨by repeat (first | (with_reducible first | exact HB.out | apply below_alloc | apply pw_below_drewN | apply below_drew1) | exact HB.out)⟩⟩
  ·replace c7 := Bool.eq_false_iff.mpr c7
   subst c7
   have H1 : (spec_meant__SchedstatPrint.j0 k a0 l1 a4 true) = some (r1, r2, r3) := by rw [if_neg (show ¬ (false = true) by decide)] at H; exact H
   clear H
   have H := H1
   clear H1
   have H' := Aside0.mk H
   clear H
   go_wp2
   go_meet
   case rel => exact ⟨_, (true), (by first | rfl | (simp; done) | (simp [*]; done) | (simp [bne_nil]; done) | (simp [bne_nil, *]; done)), H', ⟨by first | omega | exact Nat.le_refl _⟩, ⟨by (with_reducible repeat (first | apply Kd.V_alloc | apply Kd.V_drewN | apply Kd.V_drew)); exact HO1.out⟩, ⟨by repeat (first | (with_reducible first | exact HB.out | apply below_alloc | apply pw_below_drewN | apply below_drew1) | exact HB.out)⟩⟩
 case rest =>
  clear HC6
  try clear c1
  try clear p2
  try clear c7
  obtain ⟨kq, x21_5, rfl, HA, HJ5, HO_1, HB⟩ := hcut
  cases kq with
  | zero => exact absurd HA.out (by simp [spec_meant__SchedstatPrint.j0])
  | succ kj5 =>
   have H := HA.out
   clear HA
   simp only [spec_meant__SchedstatPrint.j0] at H
   by_cases c9 : x21_5 = true
   ·subst c9
    have H1 : (some (([] : List (S48)), false, 2)) = some (r1, r2, r3) := by rw [if_pos rfl] at H; exact H
    clear H
    have H := H1
    clear H1
    simp only [Option.some.injEq, Prod.mk.injEq] at H
    obtain ⟨rfl, rfl, rfl⟩ := H
    go_wp2
    go_ret3
    exact ⟨_, by first | rfl | (simp [errW_none, errW_some] <;> rfl) | (simp [*, errW_none, errW_some] <;> rfl), Kd.V_nil _ _ _ _ _, by repeat (first | (with_reducible first | exact HB.out | apply below_alloc | apply pw_below_drewN | apply below_drew1) | exact HB.out)⟩
   ·replace c9 := Bool.eq_false_iff.mpr c9
    subst c9
    have H1 : ((spec_SchedstatPrint.f kj5 l1).bind fun bt128 => (if bt128.2 = 1 then (if bt128.1.toList = a0.toList then (some (l1, true, 1)) else (if a4 = true then (none) else (some (([] : List (S48)), false, 2)))) else (some (([] : List (S48)), false, 2)))) = some (r1, r2, r3) := by rw [if_neg (show ¬ (false = true) by decide)] at H; exact H
    clear H
    have H := H1
    clear H1
    replace H := Option.bind_eq_some_iff.mp H
    obtain ⟨⟨t128, t129⟩, A100, H⟩ := H
    have A10 := Aside0.mk A100
    clear A100
    by_cases c11 : t129 = 1
    ·rw [if_pos c11] at H
     have c11b0 : (t129 == 1) = true := beq_iff_eq.mpr c11
     have c11b1 : (t129 != 1) = false := bne_eq_false_iff_eq.mpr c11
     clear c11
     by_cases c12 : t128.toList = a0.toList
     ·rw [if_pos c12] at H
      have c12b0 : (t128.toList == a0.toList) = true := beq_iff_eq.mpr c12
      have c12b1 : (t128.toList != a0.toList) = false := bne_eq_false_iff_eq.mpr c12
      clear c12
      simp only [Option.some.injEq, Prod.mk.injEq] at H
      obtain ⟨rfl, rfl, rfl⟩ := H
      go_wp2_with (first | (go_at_call 22; (with_reducible refine (spec_SchedstatPrint.calls kj5 _ _ l1 t128 t129 _ ?side1 ?side2 A10.out).mono ?_); (case side1 => repeat (first | exact (Kd.V_reads' HO_1.out).2.2 | (with_reducible refine Kd.C_alloc ?_ _) | (with_reducible refine Kd.C_drewN ?_ _) | (with_reducible refine Kd.C_drew ?_))); (case side2 => exact (Kd.V_reads' HO_1.out).2.1); rintro e w13 ⟨rfl, hb⟩; have n0_ := Aside0.mk (Kd.V_below (by (with_reducible repeat (first | apply Kd.V_alloc | apply Kd.V_drewN | apply Kd.V_drew)); exact HO_1.out) hb); have n1_ := Aside0.mk (below_step belH hb); clear HO_1; clear HB; have HO_1 := n0_; have HB := n1_; clear n0_ n1_; (try clear hb); (try clear hb2); (try clear hk); (try clear hi)))
      go_ret3
      exact ⟨_, by first | rfl | (simp [errW_none, errW_some] <;> rfl) | (simp [*, errW_none, errW_some] <;> rfl), by (with_reducible repeat (first | apply Kd.V_alloc | apply Kd.V_drewN | apply Kd.V_drew)); exact HO_1.out, by repeat (first | (with_reducible first | exact HB.out | apply below_alloc | apply pw_below_drewN | apply below_drew1) | exact HB.out)⟩
     ·rw [if_neg c12] at H
      have c12b0 : (t128.toList == a0.toList) = false := beq_eq_false_iff_ne.mpr c12
      have c12b1 : (t128.toList != a0.toList) = true := bne_iff_ne.mpr c12
      by_cases c14 : a4 = true
      ·subst c14
       have H1 : (none) = some (r1, r2, r3) := by rw [if_pos rfl] at H; exact H
       clear H
       have H := H1
       clear H1
       exact absurd H (by simp)
      ·replace c14 := Bool.eq_false_iff.mpr c14
       subst c14
       have H1 : (some (([] : List (S48)), false, 2)) = some (r1, r2, r3) := by rw [if_neg (show ¬ (false = true) by decide)] at H; exact H
       clear H
       have H := H1
       clear H1
       simp only [Option.some.injEq, Prod.mk.injEq] at H
       obtain ⟨rfl, rfl, rfl⟩ := H
       go_wp2_with (first | (go_at_call 22; (with_reducible refine (spec_SchedstatPrint.calls kj5 _ _ l1 t128 t129 _ ?side1 ?side2 A10.out).mono ?_); (case side1 => repeat (first | exact (Kd.V_reads' HO_1.out).2.2 | (with_reducible refine Kd.C_alloc ?_ _) | (with_reducible refine Kd.C_drewN ?_ _) | (with_reducible refine Kd.C_drew ?_))); (case side2 => exact (Kd.V_reads' HO_1.out).2.1); rintro e w15 ⟨rfl, hb⟩; have n0_ := Aside0.mk (Kd.V_below (by (with_reducible repeat (first | apply Kd.V_alloc | apply Kd.V_drewN | apply Kd.V_drew)); exact HO_1.out) hb); have n1_ := Aside0.mk (below_step belH hb); clear HO_1; clear HB; have HO_1 := n0_; have HB := n1_; clear n0_ n1_; (try clear hb); (try clear hb2); (try clear hk); (try clear hi)))
       go_ret3
       exact ⟨_, by first | rfl | (simp [errW_none, errW_some] <;> rfl) | (simp [*, errW_none, errW_some] <;> rfl), Kd.V_nil _ _ _ _ _, by repeat (first | (with_reducible first | exact HB.out | apply below_alloc | apply pw_below_drewN | apply below_drew1) | exact HB.out)⟩
    ·rw [if_neg c11] at H
     have c11b0 : (t129 == 1) = false := beq_eq_false_iff_ne.mpr c11
     have c11b1 : (t129 != 1) = true := bne_iff_ne.mpr c11
     simp only [Option.some.injEq, Prod.mk.injEq] at H
     obtain ⟨rfl, rfl, rfl⟩ := H
     go_wp2_with (first | (go_at_call 22; (with_reducible refine (spec_SchedstatPrint.calls kj5 _ _ l1 t128 t129 _ ?side1 ?side2 A10.out).mono ?_); (case side1 => repeat (first | exact (Kd.V_reads' HO_1.out).2.2 | (with_reducible refine Kd.C_alloc ?_ _) | (with_reducible refine Kd.C_drewN ?_ _) | (with_reducible refine Kd.C_drew ?_))); (case side2 => exact (Kd.V_reads' HO_1.out).2.1); rintro e w16 ⟨rfl, hb⟩; have n0_ := Aside0.mk (Kd.V_below (by (with_reducible repeat (first | apply Kd.V_alloc | apply Kd.V_drewN | apply Kd.V_drew)); exact HO_1.out) hb); have n1_ := Aside0.mk (below_step belH hb); clear HO_1; clear HB; have HO_1 := n0_; have HB := n1_; clear n0_ n1_; (try clear hb); (try clear hb2); (try clear hk); (try clear hi)))
     go_ret3
     exact ⟨_, by first | rfl | (simp [errW_none, errW_some] <;> rfl) | (simp [*, errW_none, errW_some] <;> rfl), Kd.V_nil _ _ _ _ _, by repeat (first | (with_reducible first | exact HB.out | apply below_alloc | apply pw_below_drewN | apply below_drew1) | exact HB.out)⟩

end Go.Proofs.YtdmpbaanonafbaaGreatDoor.D
