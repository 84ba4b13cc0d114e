-- written by a program of this session (wip/tools/pp.py)
import Derived.Test.YtdmpbaanonafbaaGreatDoorN0
import Derived.Test.YtdmpbaanonafbaaGreatDoorN1
namespace Go.Proofs.YtdmpbaanonafbaaGreatDoor.N
open Go.RowKit Go.Proofs.YtdmpbaanonafbaaGreatDoorW.PrintWords Go.Proofs.YtdmpbaanonafbaaGreatDoorW.PrintLast Go.Proofs.YtdmpbaanonafbaaGreatDoor.Flt Go.Proofs.YtdmpbaanonafbaaGreatDoor.GivZ Go.Proofs.YtdmpbaanonafbaaGreatDoor.E Go.Proofs.YtdmpbaanonafbaaGreatDoor.L Go.Proofs.YtdmpbaanonafbaaGreatDoor.V Go.Proofs.YtdmpbaanonafbaaGreatDoor.DoorSn Go.Proofs.YtdmpbaanonafbaaGreatDoor.Lives Go.Proofs.YtdmpbaanonafbaaGreatDoor.R Go.Proofs.YtdmpbaanonafbaaGreatDoorW.PrintMore
attribute [local go_sem] max2_int min2_int max_two min_two max_three min_three max_four min_four   -- for this text's walks alone
set_option linter.unusedVariables false
set_option linter.unusedSimpArgs false

/-! ### spec_SoftnetRead: function 27 -/
mutual
def spec_SoftnetRead.l0 : Nat → List (S48) → List ByteArray → Int → Int → Option ((List (S48)) × Bool × Int)
 | 0, _, _, _, _ => none
 | k + 1, x5, x17, x18, x19 => if x19 < x18 then (if 0 ≤ x19 then (if x19 < (x17.length : Int) then ((spec_Fields.f k (rdOf ByteArray.empty x17 x19)).bind fun t115 => (spec_SoftnetRead.l1 k x5 x17 x18 x19 t115 (t115.length : Int) 0 (⟨#[]⟩ : ByteArray) ([] : List Int))) else (none)) else (none)) else ((spec_softnetFine.f k x5).bind fun t111 => ((spec_told.f t111).bind fun t112 => (some (x5, true, t112))))
def spec_SoftnetRead.l1 : Nat → List (S48) → List ByteArray → Int → Int → List ByteArray → Int → Int → ByteArray → List Int → Option ((List (S48)) × Bool × Int)
 | 0, _, _, _, _, _, _, _, _, _ => none
 | k + 1, x5, x17, x18, x19, x24, x25, x26, x115000, x115001 => if x26 < x25 then (if 0 ≤ x26 then (if x26 < (x24.length : Int) then ((spec_Number.f k (rdOf ByteArray.empty x24 x26) 16).bind fun bt119 => (if bt119.2 = true then (if ((rdOf ByteArray.empty x24 x26).size : Int) = 8 then (if x115001.length < 17592186044416 then (spec_SoftnetRead.l1 k x5 x17 x18 x19 x24 x25 (wrap64 (x26 + 1)) x115000 (x115001 ++ [bt119.1])) else (none)) else (some (([] : List (S48)), false, 2))) else (some (([] : List (S48)), false, 2)))) else (none)) else (none)) else (if x5.length < 2199023255552 then (spec_SoftnetRead.l0 k (x5 ++ [(⟨x115000, x115001, ([] : List ByteArray)⟩ : S48)]) x17 x18 (wrap64 (x19 + 1))) else (none))
end
def spec_SoftnetRead.f (k : Nat) (a0 : ByteArray) : Option ((List (S48)) × Bool × Int) := (spec_Plain.f k a0).bind fun t107 => (if t107 = true then ((spec_Lines.f k a0).bind fun t108 => (spec_SoftnetRead.l0 k ([] : List (S48)) t108 (t108.length : Int) 0)) else (some (([] : List (S48)), false, 2)))
theorem spec_SoftnetRead.mono_l : ∀ k, (∀ y0 y1 y2 y3, LeO (spec_SoftnetRead.l0 k y0 y1 y2 y3) (spec_SoftnetRead.l0 (k + 1) y0 y1 y2 y3)) ∧ (∀ y0 y1 y2 y3 y4 y5 y6 y7 y8, LeO (spec_SoftnetRead.l1 k y0 y1 y2 y3 y4 y5 y6 y7 y8) (spec_SoftnetRead.l1 (k + 1) y0 y1 y2 y3 y4 y5 y6 y7 y8))
 | 0 => ⟨fun _ _ _ _ r h => by simp [spec_SoftnetRead.l0] at h, fun _ _ _ _ _ _ _ _ _ r h => by simp [spec_SoftnetRead.l1] at h⟩
 | k + 1 => by
  obtain ⟨ih0, ih1⟩ := spec_SoftnetRead.mono_l k
  refine ⟨?_, ?_⟩
  ·intro y0 y1 y2 y3
   unfold spec_SoftnetRead.l0
   repeat' first
   | (with_reducible exact ih0 _ _ _ _)
   | (with_reducible exact ih1 _ _ _ _ _ _ _ _ _)
   | (with_reducible exact spec_Fields.mono _ _)
   | (with_reducible exact spec_Lines.mono _ _)
   | (with_reducible exact spec_Number.mono _ _ _)
   | (with_reducible exact spec_Plain.mono _ _)
   | (with_reducible exact spec_softnetFine.mono _ _)
   | (with_reducible exact LeO.refl _)
   | (with_reducible exact LeO.none _)
   | (with_reducible refine LeO.ite ?_ ?_)
   | (with_reducible refine LeO.bind ?_ (fun _ => ?_))
   | exact ih0 _ _ _ _
   | exact ih1 _ _ _ _ _ _ _ _ _
   | exact spec_Fields.mono _ _
   | exact spec_Lines.mono _ _
   | exact spec_Number.mono _ _ _
   | exact spec_Plain.mono _ _
   | exact spec_softnetFine.mono _ _
   | exact LeO.none _
   | refine LeO.ite ?_ ?_
   | refine LeO.bind ?_ (fun _ => ?_)
  ·intro y0 y1 y2 y3 y4 y5 y6 y7 y8
   unfold spec_SoftnetRead.l1
   repeat' first
   | (with_reducible exact ih0 _ _ _ _)
   | (with_reducible exact ih1 _ _ _ _ _ _ _ _ _)
   | (with_reducible exact spec_Fields.mono _ _)
   | (with_reducible exact spec_Lines.mono _ _)
   | (with_reducible exact spec_Number.mono _ _ _)
   | (with_reducible exact spec_Plain.mono _ _)
   | (with_reducible exact spec_softnetFine.mono _ _)
   | (with_reducible exact LeO.refl _)
   | (with_reducible exact LeO.none _)
   | (with_reducible refine LeO.ite ?_ ?_)
   | (with_reducible refine LeO.bind ?_ (fun _ => ?_))
   | exact ih0 _ _ _ _
   | exact ih1 _ _ _ _ _ _ _ _ _
   | exact spec_Fields.mono _ _
   | exact spec_Lines.mono _ _
   | exact spec_Number.mono _ _ _
   | exact spec_Plain.mono _ _
   | exact spec_softnetFine.mono _ _
   | exact LeO.none _
   | refine LeO.ite ?_ ?_
   | refine LeO.bind ?_ (fun _ => ?_)
theorem spec_SoftnetRead.mono : ∀ a0 k, LeO (spec_SoftnetRead.f k a0) (spec_SoftnetRead.f (k + 1) a0) := by
 intro a0 k
 obtain ⟨ih0, ih1⟩ := spec_SoftnetRead.mono_l k
 unfold spec_SoftnetRead.f
 repeat' first
   | (with_reducible exact ih0 _ _ _ _)
   | (with_reducible exact ih1 _ _ _ _ _ _ _ _ _)
   | (with_reducible exact spec_Fields.mono _ _)
   | (with_reducible exact spec_Lines.mono _ _)
   | (with_reducible exact spec_Number.mono _ _ _)
   | (with_reducible exact spec_Plain.mono _ _)
   | (with_reducible exact spec_softnetFine.mono _ _)
   | (with_reducible exact LeO.refl _)
   | (with_reducible exact LeO.none _)
   | (with_reducible refine LeO.ite ?_ ?_)
   | (with_reducible refine LeO.bind ?_ (fun _ => ?_))
   | exact ih0 _ _ _ _
   | exact ih1 _ _ _ _ _ _ _ _ _
   | exact spec_Fields.mono _ _
   | exact spec_Lines.mono _ _
   | exact spec_Number.mono _ _ _
   | exact spec_Plain.mono _ _
   | exact spec_softnetFine.mono _ _
   | exact LeO.none _
   | refine LeO.ite ?_ ?_
   | refine LeO.bind ?_ (fun _ => ?_)
set_option maxHeartbeats 8000000 in
set_option maxRecDepth 100000 in
theorem spec_SoftnetRead.calls (k : Nat) (a0 : ByteArray) (r1 : List (S48)) (r2 : Bool) (r3 : Int) (w : World) (h : spec_SoftnetRead.f k a0 = some (r1, r2, r3)) :
  Calls Tryz.prog 27 #[.string a0] w fun e w' => ∃ v0_ : Value, e = .returned (.tuple #[v0_, .bool r2, .int .i64 r3]) ∧ Kd.S k48 48 w' w.heap.size (fun _ => True) v0_ r1 ∧ Below w.heap.size w w' := by
 have hu48 := Tryz.underlying48
 have HB := Aside0.mk (Below.refl w.heap.size w)
 have H : ((spec_Plain.f k a0).bind fun t107 => (if t107 = true then ((spec_Lines.f k a0).bind fun t108 => (spec_SoftnetRead.l0 k ([] : List (S48)) t108 (t108.length : Int) 0)) else (some (([] : List (S48)), false, 2)))) = some (r1, r2, r3) := h
 clear h
 replace H := Option.bind_eq_some_iff.mp H
 obtain ⟨t107, A20, H⟩ := H
 replace H : (if t107 = true then ((spec_Lines.f k a0).bind fun t108 => (spec_SoftnetRead.l0 k ([] : List (S48)) t108 (t108.length : Int) 0)) else (some (([] : List (S48)), false, 2))) = some (r1, r2, r3) := H
 have A2 := Aside0.mk A20
 clear A20
 by_cases c3 : t107 = true
 ·subst c3
  have H1 : ((spec_Lines.f k a0).bind fun t108 => (spec_SoftnetRead.l0 k ([] : List (S48)) t108 (t108.length : Int) 0)) = some (r1, r2, r3) := by rw [if_pos rfl] at H; exact H
  clear H
  have H := H1
  clear H1
  replace H := Option.bind_eq_some_iff.mp H
  obtain ⟨t108, A40, H⟩ := H
  replace H : (spec_SoftnetRead.l0 k ([] : List (S48)) t108 (t108.length : Int) 0) = some (r1, r2, r3) := H
  have A4 := Aside0.mk A40
  clear A40
  have H' := Aside0.mk H
  clear H
  go_enter Tryz.func27, Tryz.ntmps27
  go_wp2_with (first | ((with_reducible refine gate_callee (f := 80) rfl ?_); refine goesL_ (some 14) rfl rfl Tryz.func80 (by kernel_rfl) rfl #[.string a0] rfl (by (try simp only [List.map_toArray, List.map_cons, List.map_nil]); first | done | rfl | (simp only [List.length_drop, List.length_take]; rfl)) ?_; (with_reducible refine (spec_Plain.calls k a0 true _ A2.out).mono ?_); rintro e w' ⟨rfl, ⟨nd, rfl⟩⟩; refine ⟨_, rfl, ?_⟩) | ((with_reducible refine gate_callee (f := 55) rfl ?_); refine goesL_ (some 17) rfl rfl Tryz.func55 (by kernel_rfl) rfl #[.string a0] rfl (by (try simp only [List.map_toArray, List.map_cons, List.map_nil]); first | done | rfl | (simp only [List.length_drop, List.length_take]; rfl)) ?_; (with_reducible refine (spec_Lines.calls k a0 t108 _ A4.out).mono ?_); rintro e w5 ⟨v109, rfl, ho0, hb⟩; refine ⟨_, rfl, ?_⟩; have n0_ := Aside0.mk (Kd.R_lower ho0 (below_size belH)); have n1_ := Aside0.mk (below_step belH hb); clear HB; have HO110 := n0_; have HB := n1_; clear n0_ n1_; (try clear hb); (try clear hb2); (try clear hk); (try clear hi); (try clear ho0); obtain ⟨Ao6, co6, eo6⟩ := Kd.R_slice HO110.out; subst eo6))
  go_loopg [5, 19] k (fun kq v5 v19 w' => ∃ (x5_1 : List (S48)) (x19_1 : Int), v19 = .int .i64 x19_1 ∧ Aside0 (spec_SoftnetRead.l0 kq x5_1 t108 (t108.length : Int) x19_1 = some (r1, r2, r3)) ∧ Aside0 (kq ≤ k) ∧ Aside0 (Kd.S k48 48 w' w.heap.size (fun k_ => some k_ ≠ ((.slice Ao6 t108.length co6) : Value).ownBlock) v5 x5_1) ∧ Aside0 (Kd.R Kd.string 9 w' w.heap.size (fun _ => True) (.slice Ao6 t108.length co6) t108) ∧ Aside0 (Below w.heap.size w w'))
  case atStart => exact ⟨(([] : List (S48))), (0), (by first | rfl | (simp; done) | (simp [*]; done) | (simp [bne_nil]; done) | (simp [bne_nil, *]; done)), H', ⟨Nat.le_refl _⟩, ⟨by first | exact Kd.S_nil _ _ _ _ _ | exact Kd.N_nil _ _ _ _ _ | exact Kd.V_nil _ _ _ _ _ | exact Kd.Q_nil _ _ _ _ _ | exact Kd.R_nil _ _ _ _ _⟩, ⟨by (with_reducible repeat (first | apply Kd.R_alloc | apply Kd.R_drewN | apply Kd.R_drew)); exact HO110.out⟩, ⟨by repeat (first | (with_reducible first | exact HB.out | apply below_alloc | apply pw_below_drewN | apply below_drew1) | exact HB.out)⟩⟩
  case round =>
   clear H'
   try clear c2
   try clear p2
   try clear c3
   try clear c5
   obtain ⟨x5_1, x19_1, rfl, HA, HK1, HO_5, HO_17, HB⟩ := hrel
   cases gk with
   | zero => exact absurd HA.out (by simp [spec_SoftnetRead.l0])
   | succ k1 =>
    have H := HA.out
    clear HA
    simp only [spec_SoftnetRead.l0] at H
    by_cases c7 : x19_1 < (t108.length : Int)
    ·rw [if_pos c7] at H
     have c7b0 : decide (x19_1 < (t108.length : Int)) = true := decide_eq_true c7
     clear c7
     by_cases c8 : 0 ≤ x19_1
     ·rw [if_pos c8] at H
      have c8b0 : decide (0 ≤ x19_1) = true := decide_eq_true c8
      clear c8
      by_cases c9 : x19_1 < (t108.length : Int)
      ·rw [if_pos c9] at H
       have c9b0 : decide (x19_1 < (t108.length : Int)) = true := decide_eq_true c9
       clear c9
       replace H := Option.bind_eq_some_iff.mp H
       obtain ⟨t115, A100, H⟩ := H
       replace H : (spec_SoftnetRead.l1 k1 x5_1 t108 (t108.length : Int) x19_1 t115 (t115.length : Int) 0 (⟨#[]⟩ : ByteArray) ([] : List Int)) = some (r1, r2, r3) := H
       have A10 := Aside0.mk A100
       clear A100
       have H' := Aside0.mk H
       clear H
       have p113 : 0 ≤ (x19_1 : Int) := of_decide_eq_true (by first | (with_reducible assumption) | assumption)
       have q113 : x19_1 < (t108.length : Int) := of_decide_eq_true (by first | (with_reducible assumption) | assumption)
       obtain ⟨ad113, e113, hx113_0⟩ := Kd.at_string (Kd.R_reads' HO_17.out).2.2 x19_1 p113 q113
       cases e113
       replace p113 := eq_true p113
       replace q113 := eq_true q113
       go_wp2_with (first | ((with_reducible refine gate_dst (N := 8) rfl ?_); (try (refine gate_guard (by rfl) ?_; dsimp only)); refine box_event ?hg (N := 8) ?hd (cs := #[.string (⟨#[]⟩ : ByteArray), .slice none 0 0, .slice none 0 0]) (t := 48) ?hr ?_; (case hd => rfl); (case hg => rfl); (case hr => first | (go_simp; done) | (go_simp; rfl)); intro gb114 hg w11 hbox hb; have n0_ := Aside0.mk (Kd.S_below (Kd.S_elderB (by (with_reducible repeat (first | apply Kd.S_alloc | apply Kd.S_drewN | apply Kd.S_drew)); exact HO_5.out) gb114 (Nat.le_of_eq hg.symm)) hb); have n1_ := Aside0.mk (Kd.R_below (by (with_reducible repeat (first | apply Kd.R_alloc | apply Kd.R_drewN | apply Kd.R_drew)); exact HO_17.out) hb); have n2_ := Aside0.mk (below_step belH hb); have n3_ := Aside0.mk (hbox); have n4_ := Aside0.mk ((by rw [hg]; exact (below_size belH) : w.heap.size ≤ gb114)); have n5_ := Aside0.mk ((by rw [hg]; exact (below_size belH) : w.heap.size ≤ gb114)); clear HO_5; clear HO_17; clear HB; have HO_5 := n0_; have HO_17 := n1_; have HB := n2_; have BK114 := n3_; have GW114 := n4_; have GE114 := n5_; clear n0_ n1_ n2_ n3_ n4_ n5_; clear hb hbox hg) | ((with_reducible refine gate_callee (f := 39) rfl ?_); refine goesL_ (some 24) rfl rfl Tryz.func39 (by kernel_rfl) rfl #[.string (rdOf ByteArray.empty t108 x19_1)] rfl (by (try simp only [List.map_toArray, List.map_cons, List.map_nil]); first | done | rfl | (simp only [List.length_drop, List.length_take]; rfl)) ?_; (with_reducible refine (spec_Fields.calls k1 (rdOf ByteArray.empty t108 x19_1) t115 _ A10.out).mono ?_); rintro e w12 ⟨v116, rfl, ho0, hb⟩; refine ⟨_, rfl, ?_⟩; have n0_ := Aside0.mk (Kd.S_elder' (by (with_reducible repeat (first | apply Kd.S_alloc | apply Kd.S_drewN | apply Kd.S_drew)); exact HO_5.out) (Kd.R_base ho0) hb); have n1_ := Aside0.mk (Kd.R_elder' (by (with_reducible repeat (first | apply Kd.R_alloc | apply Kd.R_drewN | apply Kd.R_drew)); exact HO_17.out) (Kd.R_base ho0) hb); have n2_ := Aside0.mk (Kd.R_lower (Kd.R_new' ho0 (Kd.R_lt (by (with_reducible repeat (first | apply Kd.R_alloc | apply Kd.R_drewN | apply Kd.R_drew)); exact HO_17.out))) (below_size belS)); have n3_ := Aside0.mk (blk_below (g := gb114) (o := .cells #[.string (⟨#[]⟩ : ByteArray), .slice none 0 0, .slice none 0 0] 48 (0, 0)) (by (with_reducible repeat (first | refine bN ?_ _ | refine bW ?_ | refine bA ?_ _)); exact BK114.out) hb); have n4_ := Aside0.mk (below_step belS hb); clear HO_5; clear HO_17; clear BK114; clear HB; have HO_5 := n0_; have HO_17 := n1_; have HO117 := n2_; have BK114 := n3_; have HB := n4_; clear n0_ n1_ n2_ n3_ n4_; (try clear hb); (try clear hb2); (try clear hk); (try clear hi); (try clear ho0); obtain ⟨Ao13, co13, eo13⟩ := Kd.R_slice HO117.out; subst eo13))
       go_loopg [26] k1 (fun kq v26 w' => ∃ (x26_2 : Int) (x115001_2 : List Int) (u115001 : Value), v26 = .int .i64 x26_2 ∧ Aside0 (spec_SoftnetRead.l1 kq x5_1 t108 (t108.length : Int) x19_1 t115 (t115.length : Int) x26_2 (⟨#[]⟩ : ByteArray) x115001_2 = some (r1, r2, r3)) ∧ Aside0 (kq ≤ k1) ∧ Aside0 (Kd.S k48 48 w' w.heap.size (fun k_ => some k_ ≠ ((.slice (some ad113) t108.length co6) : Value).ownBlock ∧ some k_ ≠ ((.slice Ao13 t115.length co13) : Value).ownBlock ∧ some k_ ≠ (u115001 : Value).ownBlock ∧ k_ ≠ gb114) u5 x5_1) ∧ Aside0 (Kd.R Kd.string 9 w' w.heap.size (fun k_ => some k_ ≠ ((.slice Ao13 t115.length co13) : Value).ownBlock) (.slice (some ad113) t108.length co6) t108) ∧ Aside0 (Kd.R Kd.string 9 w' w.heap.size (fun k_ => some k_ ≠ ((.slice (some ad113) t108.length co6) : Value).ownBlock) (.slice Ao13 t115.length co13) t115) ∧ Aside0 (Kd.R (Kd.int .u64) 31 w' w.heap.size (fun _ => True) u115001 x115001_2) ∧ Aside0 (w'.heap[gb114]? = some (.cells #[.string (⟨#[]⟩ : ByteArray), u115001, (.slice none 0 0)] 48 (0, 0))) ∧ Aside0 (Below w.heap.size w w'))
       case atStart => exact ⟨(0), (([] : List Int)), (.slice none 0 0), (by first | rfl | (simp; done) | (simp [*]; done) | (simp [bne_nil]; done) | (simp [bne_nil, *]; done)), H', ⟨Nat.le_refl _⟩, ⟨by (with_reducible repeat (first | apply Kd.S_alloc | apply Kd.S_drewN | apply Kd.S_drew)); exact Kd.S_mono HO_5.out (fun _ hk => ⟨hk.1.1, ⟨hk.2, ⟨(by simp [Value.ownBlock]), hk.1.2⟩⟩⟩)⟩, ⟨by (with_reducible repeat (first | apply Kd.R_alloc | apply Kd.R_drewN | apply Kd.R_drew)); exact Kd.R_mono HO_17.out (fun _ hk => hk.2)⟩, ⟨by (with_reducible repeat (first | apply Kd.R_alloc | apply Kd.R_drewN | apply Kd.R_drew)); exact Kd.R_mono HO117.out (fun _ hk => hk.2)⟩, ⟨by first | exact Kd.R_nil _ _ _ _ _ | exact Kd.N_nil _ _ _ _ _ | exact Kd.V_nil _ _ _ _ _ | exact Kd.Q_nil _ _ _ _ _ | exact Kd.S_nil _ _ _ _ _⟩, ⟨by (with_reducible repeat (first | refine bN ?_ _ | refine bW ?_ | refine bA ?_ _)); exact BK114.out⟩, ⟨by repeat (first | (with_reducible first | exact HB.out | apply below_alloc | apply pw_below_drewN | apply below_drew1 | refine below_set ?_ GE114.out) | exact HB.out)⟩⟩
       case round =>
        clear H'
        try clear p1
        try clear q1
        try clear hx1
        try clear c2
        try clear p2
        try clear c3
        try clear c5
        try clear c7
        try clear c7b0
        try clear c8
        try clear c8b0
        try clear c9
        try clear c9b0
        try clear p11
        try clear q11
        try clear hx11
        try clear hx113_0
        try clear p113
        try clear p2
        try clear q113
        obtain ⟨x26_2, x115001_2, u115001, rfl, HA, HK2, HO_5, HO_17, HO_24, HO_115001, BK114, HB⟩ := hrel
        cases gk with
        | zero => exact absurd HA.out (by simp [spec_SoftnetRead.l1])
        | succ k2 =>
         have H := HA.out
         clear HA
         simp only [spec_SoftnetRead.l1] at H
         by_cases c14 : x26_2 < (t115.length : Int)
         ·rw [if_pos c14] at H
          have c14b0 : decide (x26_2 < (t115.length : Int)) = true := decide_eq_true c14
          clear c14
          by_cases c15 : 0 ≤ x26_2
          ·rw [if_pos c15] at H
           have c15b0 : decide (0 ≤ x26_2) = true := decide_eq_true c15
           clear c15
           by_cases c16 : x26_2 < (t115.length : Int)
           ·rw [if_pos c16] at H
            have c16b0 : decide (x26_2 < (t115.length : Int)) = true := decide_eq_true c16
            clear c16
            replace H := Option.bind_eq_some_iff.mp H
            obtain ⟨⟨t119, t120⟩, A170, H⟩ := H
            replace H : (if t120 = true then (if ((rdOf ByteArray.empty t115 x26_2).size : Int) = 8 then (if x115001_2.length < 17592186044416 then (spec_SoftnetRead.l1 k2 x5_1 t108 (t108.length : Int) x19_1 t115 (t115.length : Int) (wrap64 (x26_2 + 1)) (⟨#[]⟩ : ByteArray) (x115001_2 ++ [t119])) else (none)) else (some (([] : List (S48)), false, 2))) else (some (([] : List (S48)), false, 2))) = some (r1, r2, r3) := H
            have A17 := Aside0.mk A170
            clear A170
            by_cases c18 : t120 = true
            ·subst c18
             have H1 : (if ((rdOf ByteArray.empty t115 x26_2).size : Int) = 8 then (if x115001_2.length < 17592186044416 then (spec_SoftnetRead.l1 k2 x5_1 t108 (t108.length : Int) x19_1 t115 (t115.length : Int) (wrap64 (x26_2 + 1)) (⟨#[]⟩ : ByteArray) (x115001_2 ++ [t119])) else (none)) else (some (([] : List (S48)), false, 2))) = some (r1, r2, r3) := by rw [if_pos rfl] at H; exact H
             clear H
             have H := H1
             clear H1
             by_cases c19 : ((rdOf ByteArray.empty t115 x26_2).size : Int) = 8
             ·rw [if_pos c19] at H
              have c19b0 : (((rdOf ByteArray.empty t115 x26_2).size : Int) == 8) = true := beq_iff_eq.mpr c19
              have c19b1 : (((rdOf ByteArray.empty t115 x26_2).size : Int) != 8) = false := bne_eq_false_iff_eq.mpr c19
              clear c19
              by_cases c20 : x115001_2.length < 17592186044416
              ·rw [if_pos c20] at H
               have LMc20 := Aside0.mk c20
               clear c20
               obtain ⟨y121, hy121⟩ : ∃ y_ : List Int, y_ = (x115001_2 ++ [t119]) := ⟨_, rfl⟩
               replace H : (spec_SoftnetRead.l1 k2 x5_1 t108 (t108.length : Int) x19_1 t115 (t115.length : Int) (wrap64 (x26_2 + 1)) (⟨#[]⟩ : ByteArray) y121) = some (r1, r2, r3) := by first | (rw [hy121]; with_reducible exact H) | (have H2_ := (Option.bind_some _ _).symm.trans H; rw [hy121]; with_reducible exact H2_) | (have H2_ := (Option.bind_some _ _).symm.trans H; with_reducible exact H2_) | with_reducible exact H | (rw [hy121]; exact H) | exact H
               have Ny121 := Aside0.mk hy121
               clear hy121
               have H' := Aside0.mk H
               clear H
               have p118 : 0 ≤ (x26_2 : Int) := of_decide_eq_true (by first | (with_reducible assumption) | assumption)
               have q118 : x26_2 < (t115.length : Int) := of_decide_eq_true (by first | (with_reducible assumption) | assumption)
               obtain ⟨ad118, e118, hx118_0⟩ := Kd.at_string (Kd.R_reads' HO_24.out).2.2 x26_2 p118 q118
               cases e118
               replace p118 := eq_true p118
               replace q118 := eq_true q118
               go_wp2_with (first | ((with_reducible refine gate_callee (f := 81) rfl ?_); refine goesL_ (some 32) rfl rfl Tryz.func81 (by kernel_rfl) rfl #[.string (rdOf ByteArray.empty t115 x26_2), .int .u64 16] rfl (by (try simp only [List.map_toArray, List.map_cons, List.map_nil]); first | done | rfl | (simp only [List.length_drop, List.length_take]; rfl)) ?_; (with_reducible refine (spec_Number.calls k2 (rdOf ByteArray.empty t115 x26_2) 16 t119 true _ A17.out).mono ?_); rintro e w' ⟨rfl, ⟨nd, rfl⟩⟩; refine ⟨_, rfl, ?_⟩; (try (rw [drewN_self wr]; generalize hq_ : World.drewN wr _ = wr; have n0_ : Aside0 (Kd.R (Kd.int .u64) 31 wr w.heap.size (fun _ => True) u115001 x115001_2) := ⟨by rw [← hq_]; exact (by (with_reducible repeat (first | apply Kd.R_alloc | apply Kd.R_drewN | apply Kd.R_drew)); exact HO_115001.out)⟩; have n1_ : Aside0 (Kd.R Kd.string 9 wr w.heap.size (fun k_ => some k_ ≠ (.slice (some ad118) t115.length co13 : Value).ownBlock) (.slice (some ad113) t108.length co6) t108) := ⟨by rw [← hq_]; exact (by (with_reducible repeat (first | apply Kd.R_alloc | apply Kd.R_drewN | apply Kd.R_drew)); exact HO_17.out)⟩; have n2_ : Aside0 (Kd.R Kd.string 9 wr w.heap.size (fun k_ => some k_ ≠ (.slice (some ad113) t108.length co6 : Value).ownBlock) (.slice (some ad118) t115.length co13) t115) := ⟨by rw [← hq_]; exact (by (with_reducible repeat (first | apply Kd.R_alloc | apply Kd.R_drewN | apply Kd.R_drew)); exact HO_24.out)⟩; have n3_ : Aside0 (Kd.S k48 48 wr w.heap.size (fun k_ => some k_ ≠ (u115001 : Value).ownBlock ∧ some k_ ≠ (.slice (some ad113) t108.length co6 : Value).ownBlock ∧ some k_ ≠ (.slice (some ad118) t115.length co13 : Value).ownBlock ∧ k_ ≠ gb114) u5 x5_1) := ⟨by rw [← hq_]; exact (by (with_reducible repeat (first | apply Kd.S_alloc | apply Kd.S_drewN | apply Kd.S_drew)); exact Kd.S_mono HO_5.out (fun _ hk => ⟨hk.2.2.1, ⟨hk.1, ⟨hk.2.1, hk.2.2.2⟩⟩⟩))⟩; have n4_ : Aside0 (wr.heap[gb114]? = some (.cells #[.string (⟨#[]⟩ : ByteArray), u115001, .slice none 0 0] 48 (0, 0))) := ⟨by rw [← hq_]; exact (by (with_reducible repeat (first | refine bN ?_ _ | refine bW ?_ | refine bA ?_ _)); exact BK114.out)⟩; have n5_ : Aside0 (Below w.heap.size w wr) := ⟨by rw [← hq_]; exact belS⟩; clear HO_115001 HO_17 HO_24 HO_5 BK114 HB hq_; have HO_115001 := n0_; have HO_17 := n1_; have HO_24 := n2_; have HO_5 := n3_; have BK114 := n4_; have HB := n5_; clear n0_ n1_ n2_ n3_ n4_ n5_)); have hcz21_0 : wr.cell? ⟨gb114, 0, none⟩ = some (.string (⟨#[]⟩ : ByteArray)) := (blk_cell BK114.out 0).trans rfl; have hcz21_1 : wr.cell? ⟨gb114, 1, none⟩ = some (u115001) := (blk_cell BK114.out 1).trans rfl; have hcz21_2 : wr.cell? ⟨gb114, 2, none⟩ = some (.slice none 0 0) := (blk_cell BK114.out 2).trans rfl; have hfz21_0 := blk_frozen BK114.out 0; have hfz21_1 := blk_frozen BK114.out 1; have hfz21_2 := blk_frozen BK114.out 2) | ((with_reducible refine gate_builtin (b := .append) (xs := #[.tmp 43, .tmp 45]) rfl ?_); (try (refine gate_guard (by rfl) ?_; dsimp only)); at_builtin; refine Kd.R_append (Kd.int .u64) (w0 := w) w.heap.size rfl (.tmp 43) (.tmp 45) 46 31 (.int .u64 0) 8 rfl Tryz.underlying46 info31 rfl (by decide) (by omega) u115001 x115001_2 t119 [.int .u64 t119] (fun _ => True) (fun _ => False) rfl rfl ?aP (fun _ hk => hk.elim) ?aF ?aO ?aB ?aS ?aL ?_; (case aP => exact rfl); (case aB => exact belS); (case aF => exact (fun _ _ => trivial)); (case aO => exact (by (with_reducible repeat (first | apply Kd.R_alloc | apply Kd.R_drewN | apply Kd.R_drew)); exact HO_115001.out)); (case aS => exact (below_size belS)); (case aL => have := LMc20.out; omega); intro v122 w22 ho hb hg hat; rw [← Ny121.out] at ho; have n0_ := Aside0.mk (Kd.S_after (ok := (fun k_ => some k_ ≠ (.slice (some ad113) t108.length co6 : Value).ownBlock ∧ some k_ ≠ (.slice (some ad118) t115.length co13 : Value).ownBlock ∧ k_ ≠ gb114)) (by (with_reducible repeat (first | apply Kd.S_alloc | apply Kd.S_drewN | apply Kd.S_drew)); exact Kd.S_mono HO_5.out (fun _ hk => by first | exact ⟨⟨hk.1, ⟨hk.2.1, hk.2.2.2⟩⟩, hk.2.2.1⟩ | exact ⟨⟨hk.2.1, ⟨hk.2.2.1, hk.2.2.2⟩⟩, hk.1⟩)) hg hat); have n1_ := Aside0.mk (Kd.R_over' (by (with_reducible repeat (first | apply Kd.R_alloc | apply Kd.R_drewN | apply Kd.R_drew)); exact HO_17.out) (Kd.R_typed (by (with_reducible repeat (first | apply Kd.R_alloc | apply Kd.R_drewN | apply Kd.R_drew)); exact HO_115001.out)) (by decide) hg); have n2_ := Aside0.mk (Kd.R_over' (by (with_reducible repeat (first | apply Kd.R_alloc | apply Kd.R_drewN | apply Kd.R_drew)); exact HO_24.out) (Kd.R_typed (by (with_reducible repeat (first | apply Kd.R_alloc | apply Kd.R_drewN | apply Kd.R_drew)); exact HO_115001.out)) (by decide) hg); have n3_ := Aside0.mk (blk_grown (g := gb114) (o := .cells #[.string (⟨#[]⟩ : ByteArray), u115001, .slice none 0 0] 48 (0, 0)) (by (with_reducible repeat (first | refine bN ?_ _ | refine bW ?_ | refine bA ?_ _)); exact BK114.out) hg (Kd.R_ne HO_115001.out BK114.out (by decide))); have n4_ := Aside0.mk (hb); have n5_ := Aside0.mk (ho); clear HO_5; clear HO_17; clear HO_24; clear BK114; clear HB; clear HO_115001; have HO_5 := n0_; have HO_17 := n1_; have HO_24 := n2_; have BK114 := n3_; have HB := n4_; have HO123 := n5_; clear n0_ n1_ n2_ n3_ n4_ n5_; clear ho hb hg hat; obtain ⟨Ao23, co23, eo23⟩ := Kd.R_slice HO123.out; subst eo23; have hcz24_0 : w22.cell? ⟨gb114, 0, none⟩ = some (.string (⟨#[]⟩ : ByteArray)) := (blk_cell BK114.out 0).trans rfl; have hcz24_1 : w22.cell? ⟨gb114, 1, none⟩ = some (u115001) := (blk_cell BK114.out 1).trans rfl; have hcz24_2 : w22.cell? ⟨gb114, 2, none⟩ = some (.slice none 0 0) := (blk_cell BK114.out 2).trans rfl; have hfz24_0 := blk_frozen BK114.out 0; have hfz24_1 := blk_frozen BK114.out 1; have hfz24_2 := blk_frozen BK114.out 2))
               go_roundg k2
               case measure => have := HK1.out; have := HK2.out; omega
               case rel => exact ⟨(wrap64 (x26_2 + 1)), (y121), (.slice Ao23 y121.length co23), (by first | rfl | (simp; done) | (simp [*]; done) | (simp [bne_nil]; done) | (simp [bne_nil, *]; done)), H', ⟨by have := HK1.out; have := HK2.out; omega⟩, ⟨by (with_reducible repeat (first | apply Kd.S_alloc | apply Kd.S_drewN | apply Kd.S_drew)); exact Kd.S_mono (Kd.S_far (p := ⟨gb114, 1, none⟩) (Kd.S_mono HO_5.out (fun k_ hk => (⟨hk, hk.1.2.2⟩ : _ ∧ k_ ≠ gb114))) (fun _ hk => hk.2) (.slice Ao23 y121.length co23)) (fun _ hk => ⟨hk.1.1.1, ⟨hk.1.1.2.1, ⟨hk.1.2, hk.1.1.2.2⟩⟩⟩)⟩, ⟨by (with_reducible repeat (first | apply Kd.R_alloc | apply Kd.R_drewN | apply Kd.R_drew)); exact Kd.R_mono (Kd.R_far (p := ⟨gb114, 1, none⟩) (Kd.R_types HO_17.out BK114.out (by decide)) (fun _ hk => hk.2) (.slice Ao23 y121.length co23)) (fun _ hk => hk.1)⟩, ⟨by (with_reducible repeat (first | apply Kd.R_alloc | apply Kd.R_drewN | apply Kd.R_drew)); exact Kd.R_mono (Kd.R_far (p := ⟨gb114, 1, none⟩) (Kd.R_types HO_24.out BK114.out (by decide)) (fun _ hk => hk.2) (.slice Ao23 y121.length co23)) (fun _ hk => hk.1)⟩, ⟨by (with_reducible repeat (first | apply Kd.R_alloc | apply Kd.R_drewN | apply Kd.R_drew)); exact Kd.R_mono (Kd.R_far (p := ⟨gb114, 1, none⟩) (Kd.R_types HO123.out BK114.out (by decide)) (fun _ hk => hk.2) (.slice Ao23 y121.length co23)) (fun _ hk => trivial)⟩, ⟨by (with_reducible repeat (first | refine bN ?_ _ | refine bW ?_ | refine bA ?_ _)); refine blk_put (cs := #[.string (⟨#[]⟩ : ByteArray), u115001, .slice none 0 0]) ?_ 1 _ rfl; (with_reducible repeat (first | refine bN ?_ _ | refine bW ?_ | refine bA ?_ _)); exact BK114.out⟩, ⟨by repeat (first | (with_reducible first | exact HB.out | apply below_alloc | apply pw_below_drewN | apply below_drew1 | refine below_set ?_ GE114.out) | exact HB.out)⟩⟩
              ·rw [if_neg c20] at H
               exact absurd H (by simp)
             ·rw [if_neg c19] at H
              have c19b0 : (((rdOf ByteArray.empty t115 x26_2).size : Int) == 8) = false := beq_eq_false_iff_ne.mpr c19
              have c19b1 : (((rdOf ByteArray.empty t115 x26_2).size : Int) != 8) = true := bne_iff_ne.mpr c19
              simp only [Option.some.injEq, Prod.mk.injEq] at H
              obtain ⟨rfl, rfl, rfl⟩ := H
              have p118 : 0 ≤ (x26_2 : Int) := of_decide_eq_true (by first | (with_reducible assumption) | assumption)
              have q118 : x26_2 < (t115.length : Int) := of_decide_eq_true (by first | (with_reducible assumption) | assumption)
              obtain ⟨ad118, e118, hx118_0⟩ := Kd.at_string (Kd.R_reads' HO_24.out).2.2 x26_2 p118 q118
              cases e118
              replace p118 := eq_true p118
              replace q118 := eq_true q118
              go_wp2_with (first | ((with_reducible refine gate_callee (f := 81) rfl ?_); refine goesL_ (some 32) rfl rfl Tryz.func81 (by kernel_rfl) rfl #[.string (rdOf ByteArray.empty t115 x26_2), .int .u64 16] rfl (by (try simp only [List.map_toArray, List.map_cons, List.map_nil]); first | done | rfl | (simp only [List.length_drop, List.length_take]; rfl)) ?_; (with_reducible refine (spec_Number.calls k2 (rdOf ByteArray.empty t115 x26_2) 16 t119 true _ A17.out).mono ?_); rintro e w' ⟨rfl, ⟨nd, rfl⟩⟩; refine ⟨_, rfl, ?_⟩))
              go_ret3
              exact ⟨_, by first | rfl | (simp [errW_none, errW_some] <;> rfl) | (simp [*, errW_none, errW_some] <;> rfl), by first | exact Kd.S_nil _ _ _ _ _ | exact Kd.N_nil _ _ _ _ _ | exact Kd.V_nil _ _ _ _ _ | exact Kd.Q_nil _ _ _ _ _ | exact Kd.R_nil _ _ _ _ _, by repeat (first | (with_reducible first | exact HB.out | apply below_alloc | apply pw_below_drewN | apply below_drew1 | refine below_set ?_ GE114.out) | exact HB.out)⟩
            ·replace c18 := Bool.eq_false_iff.mpr c18
             subst c18
             have H1 : (some (([] : List (S48)), false, 2)) = some (r1, r2, r3) := by rw [if_neg (show ¬ (false = true) by decide)] at H; exact H
             clear H
             have H := H1
             clear H1
             simp only [Option.some.injEq, Prod.mk.injEq] at H
             obtain ⟨rfl, rfl, rfl⟩ := H
             have p118 : 0 ≤ (x26_2 : Int) := of_decide_eq_true (by first | (with_reducible assumption) | assumption)
             have q118 : x26_2 < (t115.length : Int) := of_decide_eq_true (by first | (with_reducible assumption) | assumption)
             obtain ⟨ad118, e118, hx118_0⟩ := Kd.at_string (Kd.R_reads' HO_24.out).2.2 x26_2 p118 q118
             cases e118
             replace p118 := eq_true p118
             replace q118 := eq_true q118
             go_wp2_with (first | ((with_reducible refine gate_callee (f := 81) rfl ?_); refine goesL_ (some 32) rfl rfl Tryz.func81 (by kernel_rfl) rfl #[.string (rdOf ByteArray.empty t115 x26_2), .int .u64 16] rfl (by (try simp only [List.map_toArray, List.map_cons, List.map_nil]); first | done | rfl | (simp only [List.length_drop, List.length_take]; rfl)) ?_; (with_reducible refine (spec_Number.calls k2 (rdOf ByteArray.empty t115 x26_2) 16 t119 false _ A17.out).mono ?_); rintro e w' ⟨rfl, ⟨nd, rfl⟩⟩; refine ⟨_, rfl, ?_⟩))
             go_ret3
             exact ⟨_, by first | rfl | (simp [errW_none, errW_some] <;> rfl) | (simp [*, errW_none, errW_some] <;> rfl), by first | exact Kd.S_nil _ _ _ _ _ | exact Kd.N_nil _ _ _ _ _ | exact Kd.V_nil _ _ _ _ _ | exact Kd.Q_nil _ _ _ _ _ | exact Kd.R_nil _ _ _ _ _, by repeat (first | (with_reducible first | exact HB.out | apply below_alloc | apply pw_below_drewN | apply below_drew1 | refine below_set ?_ GE114.out) | exact HB.out)⟩
           ·rw [if_neg c16] at H
            exact absurd H (by simp)
          ·rw [if_neg c15] at H
           exact absurd H (by simp)
         ·rw [if_neg c14] at H
          have c14b0 : decide (x26_2 < (t115.length : Int)) = false := decide_eq_false c14
          clear c14
          by_cases c25 : x5_1.length < 2199023255552
          ·rw [if_pos c25] at H
           have LMc25 := Aside0.mk c25
           clear c25
           obtain ⟨y124, hy124⟩ : ∃ y_ : List (S48), y_ = (x5_1 ++ [(⟨(⟨#[]⟩ : ByteArray), x115001_2, ([] : List ByteArray)⟩ : S48)]) := ⟨_, rfl⟩
           replace H : (spec_SoftnetRead.l0 k2 y124 t108 (t108.length : Int) (wrap64 (x19_1 + 1))) = some (r1, r2, r3) := by first | (rw [hy124]; with_reducible exact H) | (have H2_ := (Option.bind_some _ _).symm.trans H; rw [hy124]; with_reducible exact H2_) | (have H2_ := (Option.bind_some _ _).symm.trans H; with_reducible exact H2_) | with_reducible exact H | (rw [hy124]; exact H) | exact H
           have Ny124 := Aside0.mk hy124
           clear hy124
           have H' := Aside0.mk H
           clear H
           have hcz26_0 : wr.cell? ⟨gb114, 0, none⟩ = some (.string (⟨#[]⟩ : ByteArray)) := (blk_cell BK114.out 0).trans rfl
           have hcz26_1 : wr.cell? ⟨gb114, 1, none⟩ = some (u115001) := (blk_cell BK114.out 1).trans rfl
           have hcz26_2 : wr.cell? ⟨gb114, 2, none⟩ = some (.slice none 0 0) := (blk_cell BK114.out 2).trans rfl
           have hfz26_0 := blk_frozen BK114.out 0
           have hfz26_1 := blk_frozen BK114.out 1
           have hfz26_2 := blk_frozen BK114.out 2
           obtain ⟨Ao28, co28, eo28⟩ := Kd.R_slice HO_115001.out
           subst eo28
           go_wp2_with (first | ((with_reducible refine gate_builtin (b := .append) (xs := #[.tmp 49, .tmp 51]) rfl ?_); (try (refine gate_guard (by rfl) ?_; dsimp only)); at_builtin; refine Kd.S_append k48 (w0 := w) w.heap.size rfl (.tmp 49) (.tmp 51) 27 48 (.agg #[(.string ⟨#[]⟩), (.slice none 0 0), (.slice none 0 0)]) 64 rfl Tryz.underlying27 info48 rfl (by decide) (by omega) u5 x5_1 (⟨(⟨#[]⟩ : ByteArray), x115001_2, ([] : List ByteArray)⟩ : S48) [.string (⟨#[]⟩ : ByteArray), .slice Ao28 x115001_2.length co28, .slice none 0 0] (fun k_ => some k_ ≠ (.slice (some ad113) t108.length co6 : Value).ownBlock ∧ some k_ ≠ (.slice Ao13 t115.length co13 : Value).ownBlock ∧ k_ ≠ gb114) (fun k_ => some k_ = (.slice Ao28 x115001_2.length co28 : Value).ownBlock) rfl rfl ?aP (fun k_ hk_ => ((Kd.R_mono (ok' := fun k_ => ((fun k_ => some k_ ≠ (.slice (some ad113) t108.length co6 : Value).ownBlock ∧ some k_ ≠ (.slice Ao13 t115.length co13 : Value).ownBlock ∧ k_ ≠ gb114)) k_ ∧ some k_ ≠ (u5 : Value).ownBlock) (Kd.R_types (Kd.R_apart' (Kd.R_apart' (Kd.R_apart' (HO_115001.out) (Kd.R_typed HO_17.out) (by decide)) (Kd.R_typed HO_24.out) (by decide)) (Kd.S_typed HO_5.out) (by decide)) BK114.out (by decide)) (fun k_ hk => ⟨⟨hk.1.1.1.2, ⟨hk.1.1.2, hk.2⟩⟩, hk.1.2⟩))).1 k_ hk_.symm) ?aF ?aO ?aB ?aS ?aL ?_; (case aP => exact k48_mkM _ _ _ (⟨(⟨#[]⟩ : ByteArray), x115001_2, ([] : List ByteArray)⟩ : S48) (Kd.R_mono (Kd.R_tight rfl (Kd.R_mono (ok' := fun k_ => ((fun k_ => some k_ ≠ (.slice (some ad113) t108.length co6 : Value).ownBlock ∧ some k_ ≠ (.slice Ao13 t115.length co13 : Value).ownBlock ∧ k_ ≠ gb114)) k_ ∧ some k_ ≠ (u5 : Value).ownBlock) (Kd.R_types (Kd.R_apart' (Kd.R_apart' (Kd.R_apart' (HO_115001.out) (Kd.R_typed HO_17.out) (by decide)) (Kd.R_typed HO_24.out) (by decide)) (Kd.S_typed HO_5.out) (by decide)) BK114.out (by decide)) (fun k_ hk => ⟨⟨hk.1.1.1.2, ⟨hk.1.1.2, hk.2⟩⟩, hk.1.2⟩))) (fun _ h_ => h_)) (Kd.R_nil _ _ _ _ _)); (case aB => exact belS); (case aF => exact (fun k_ hk => ⟨Kd.fresh' (Kd.R_lt (by (with_reducible repeat (first | apply Kd.R_alloc | apply Kd.R_drewN | apply Kd.R_drew)); exact HO_17.out)) k_ hk, Kd.fresh' (Kd.R_lt (by (with_reducible repeat (first | apply Kd.R_alloc | apply Kd.R_drewN | apply Kd.R_drew)); exact HO_24.out)) k_ hk, Kd.freshB (g := gb114) (o := .cells #[.string (⟨#[]⟩ : ByteArray), .slice Ao28 x115001_2.length co28, .slice none 0 0] 48 (0, 0)) (by (with_reducible repeat (first | refine bN ?_ _ | refine bW ?_ | refine bA ?_ _)); exact BK114.out) k_ hk⟩)); (case aO => exact (by (with_reducible repeat (first | apply Kd.S_alloc | apply Kd.S_drewN | apply Kd.S_drew)); exact Kd.S_mono HO_5.out (fun k_ hk => ⟨⟨hk.1, ⟨hk.2.1, hk.2.2.2⟩⟩, fun e_ => hk.2.2.1 e_⟩))); (case aS => exact (below_size belS)); (case aL => have := LMc25.out; omega); intro v125 w27 ho hb hg hat; rw [← Ny124.out] at ho; have n0_ := Aside0.mk (Kd.R_over' (by (with_reducible repeat (first | apply Kd.R_alloc | apply Kd.R_drewN | apply Kd.R_drew)); exact HO_17.out) (Kd.S_typed (by (with_reducible repeat (first | apply Kd.S_alloc | apply Kd.S_drewN | apply Kd.S_drew)); exact HO_5.out)) (by decide) hg); have n1_ := Aside0.mk (Kd.R_over' (by (with_reducible repeat (first | apply Kd.R_alloc | apply Kd.R_drewN | apply Kd.R_drew)); exact HO_24.out) (Kd.S_typed (by (with_reducible repeat (first | apply Kd.S_alloc | apply Kd.S_drewN | apply Kd.S_drew)); exact HO_5.out)) (by decide) hg); have n2_ := Aside0.mk (blk_grown (g := gb114) (o := .cells #[.string (⟨#[]⟩ : ByteArray), .slice Ao28 x115001_2.length co28, .slice none 0 0] 48 (0, 0)) (by (with_reducible repeat (first | refine bN ?_ _ | refine bW ?_ | refine bA ?_ _)); exact BK114.out) hg (Kd.S_away HO_5.out (fun _ hk => hk.2.2.2))); have n3_ := Aside0.mk (hb); have n4_ := Aside0.mk (ho); clear HO_17; clear HO_24; clear BK114; clear HB; clear HO_5; clear HO_115001; have HO_17 := n0_; have HO_24 := n1_; have BK114 := n2_; have HB := n3_; have HO126 := n4_; clear n0_ n1_ n2_ n3_ n4_; clear ho hb hg hat))
           go_roundg k2
           case measure => have := HK1.out; have := HK2.out; omega
           case rel => exact ⟨(y124), (wrap64 (x19_1 + 1)), (by first | rfl | (simp; done) | (simp [*]; done) | (simp [bne_nil]; done) | (simp [bne_nil, *]; done)), H', ⟨by have := HK1.out; have := HK2.out; omega⟩, ⟨by (with_reducible repeat (first | apply Kd.S_alloc | apply Kd.S_drewN | apply Kd.S_drew)); exact Kd.S_mono HO126.out (fun _ hk => hk.1)⟩, ⟨by (with_reducible repeat (first | apply Kd.R_alloc | apply Kd.R_drewN | apply Kd.R_drew)); exact Kd.R_mono HO_17.out (fun _ hk => trivial)⟩, ⟨by repeat (first | (with_reducible first | exact HB.out | apply below_alloc | apply pw_below_drewN | apply below_drew1 | refine below_set ?_ GE114.out) | exact HB.out)⟩⟩
          ·rw [if_neg c25] at H
           exact absurd H (by simp)
      ·rw [if_neg c9] at H
       exact absurd H (by simp)
     ·rw [if_neg c8] at H
      exact absurd H (by simp)
    ·rw [if_neg c7] at H
     have c7b0 : decide (x19_1 < (t108.length : Int)) = false := decide_eq_false c7
     clear c7
     replace H := Option.bind_eq_some_iff.mp H
     obtain ⟨t111, A290, H⟩ := H
     replace H : ((spec_told.f t111).bind fun t112 => (some (x5_1, true, t112))) = some (r1, r2, r3) := H
     have A29 := Aside0.mk A290
     clear A290
     replace H := Option.bind_eq_some_iff.mp H
     obtain ⟨t112, A300, H⟩ := H
     replace H : (some (x5_1, true, t112)) = some (r1, r2, r3) := H
     have A30 := Aside0.mk A300
     clear A300
     simp only [Option.some.injEq, Prod.mk.injEq] at H
     obtain ⟨rfl, rfl, rfl⟩ := H
     obtain ⟨Ao31, co31, eo31⟩ := Kd.S_slice HO_5.out
     subst eo31
     go_wp2_with (first | ((with_reducible refine gate_callee (f := 91) rfl ?_); refine goesL_ (some 56) rfl rfl Tryz.func91 (by kernel_rfl) rfl #[.slice Ao31 x5_1.length co31] rfl (by (try simp only [List.map_toArray, List.map_cons, List.map_nil]); first | done | rfl | (simp only [List.length_drop, List.length_take]; rfl)) ?_; (with_reducible refine (spec_softnetFine.calls k1 _ _ x5_1 t111 _ ?side1 ?side2 A29.out).mono ?_); (case side1 => repeat (first | exact (Kd.S_reads' HO_5.out).2.2 | (with_reducible refine Kd.C_alloc ?_ _) | (with_reducible refine Kd.C_drewN ?_ _) | (with_reducible refine Kd.C_drew ?_))); (case side2 => exact (Kd.S_reads' HO_5.out).2.1); rintro e w32 ⟨rfl, hb⟩; refine ⟨_, rfl, ?_⟩; have n0_ := Aside0.mk (Kd.S_below (by (with_reducible repeat (first | apply Kd.S_alloc | apply Kd.S_drewN | apply Kd.S_drew)); exact HO_5.out) hb); have n1_ := Aside0.mk (Kd.R_below (by (with_reducible repeat (first | apply Kd.R_alloc | apply Kd.R_drewN | apply Kd.R_drew)); exact HO_17.out) hb); have n2_ := Aside0.mk (below_step belH hb); clear HO_5; clear HO_17; clear HB; have HO_5 := n0_; have HO_17 := n1_; have HB := n2_; clear n0_ n1_ n2_; (try clear hb); (try clear hb2); (try clear hk); (try clear hi)) | ((with_reducible refine gate_callee (f := 82) rfl ?_); refine goesL_ (some 57) rfl rfl Tryz.func82 (by kernel_rfl) rfl #[.bool t111] rfl (by (try simp only [List.map_toArray, List.map_cons, List.map_nil]); first | done | rfl | (simp only [List.length_drop, List.length_take]; rfl)) ?_; (with_reducible refine (spec_told.calls t111 t112 _ A30.out).mono ?_); rintro e w' ⟨rfl, ⟨nd, rfl⟩⟩; refine ⟨_, rfl, ?_⟩))
     go_ret3
     exact ⟨_, by first | rfl | (simp [errW_none, errW_some] <;> rfl) | (simp [*, errW_none, errW_some] <;> rfl), by (with_reducible repeat (first | apply Kd.S_alloc | apply Kd.S_drewN | apply Kd.S_drew)); exact Kd.S_mono HO_5.out (fun _ hk => trivial), by repeat (first | (with_reducible first | exact HB.out | apply below_alloc | apply pw_below_drewN | apply below_drew1) | exact HB.out)⟩
 ·replace c3 := Bool.eq_false_iff.mpr c3
  subst c3
  have H1 : (some (([] : List (S48)), false, 2)) = some (r1, r2, r3) := by rw [if_neg (show ¬ (false = true) by decide)] at H; exact H
  clear H
  have H := H1
  clear H1
  simp only [Option.some.injEq, Prod.mk.injEq] at H
  obtain ⟨rfl, rfl, rfl⟩ := H
  go_enter Tryz.func27, Tryz.ntmps27
  go_wp2_with (first | ((with_reducible refine gate_callee (f := 80) rfl ?_); refine goesL_ (some 14) rfl rfl Tryz.func80 (by kernel_rfl) rfl #[.string a0] rfl (by (try simp only [List.map_toArray, List.map_cons, List.map_nil]); first | done | rfl | (simp only [List.length_drop, List.length_take]; rfl)) ?_; (with_reducible refine (spec_Plain.calls k a0 false _ A2.out).mono ?_); rintro e w' ⟨rfl, ⟨nd, rfl⟩⟩; refine ⟨_, rfl, ?_⟩))
  go_ret3
  exact ⟨_, by first | rfl | (simp [errW_none, errW_some] <;> rfl) | (simp [*, errW_none, errW_some] <;> rfl), by first | exact Kd.S_nil _ _ _ _ _ | exact Kd.N_nil _ _ _ _ _ | exact Kd.V_nil _ _ _ _ _ | exact Kd.Q_nil _ _ _ _ _ | exact Kd.R_nil _ _ _ _ _, by repeat (first | (with_reducible first | exact HB.out | apply below_alloc | apply pw_below_drewN | apply below_drew1) | exact HB.out)⟩

/-! ### spec_SoftnetPrint: function 28 -/
mutual
def spec_SoftnetPrint.l0 : Nat → ByteArray → List (S48) → Int → Int → Option (ByteArray × Int)
 | 0, _, _, _, _ => none
 | k + 1, x4, x12, x13, x14 => if x14 < x13 then (if 0 ≤ x14 then (if x14 < (x12.length : Int) then (spec_SoftnetPrint.l1 k x4 x12 x13 x14 ((rd_T48 x12 x14).f1) (((rd_T48 x12 x14).f1).length : Int) 0) else (none)) else (none)) else (some (x4, 1))
def spec_SoftnetPrint.l1 : Nat → ByteArray → List (S48) → Int → Int → List Int → Int → Int → Option (ByteArray × Int)
 | 0, _, _, _, _, _, _, _ => none
 | k + 1, x4, x12, x13, x14, x19, x20, x21 => if x21 < x20 then (if 0 ≤ x21 then (if x21 < (x19.length : Int) then (if x21 > 0 then (if x4.size + 1 ≤ 9223372036854775807 then ((spec_Padded.f k (rd x19 x21) 16 8).bind fun t131 => (if (x4 ++ (⟨#[32]⟩ : ByteArray)).size + t131.size ≤ 9223372036854775807 then (spec_SoftnetPrint.l1 k ((x4 ++ (⟨#[32]⟩ : ByteArray)) ++ t131) x12 x13 x14 x19 x20 (wrap64 (x21 + 1))) else (none))) else (none)) else ((spec_Padded.f k (rd x19 x21) 16 8).bind fun t132 => (if x4.size + t132.size ≤ 9223372036854775807 then (spec_SoftnetPrint.l1 k (x4 ++ t132) x12 x13 x14 x19 x20 (wrap64 (x21 + 1))) else (none)))) else (none)) else (none)) else (if x4.size + 1 ≤ 9223372036854775807 then (spec_SoftnetPrint.l0 k (x4 ++ (⟨#[10]⟩ : ByteArray)) x12 x13 (wrap64 (x14 + 1))) else (none))
end
def spec_SoftnetPrint.f (k : Nat) (l0 : List (S48)) : Option (ByteArray × Int) := (spec_softnetFine.f k l0).bind fun t127 => (if t127 = true then (spec_SoftnetPrint.l0 k (⟨#[]⟩ : ByteArray) l0 (l0.length : Int) 0) else (some ((⟨#[]⟩ : ByteArray), 2)))
theorem spec_SoftnetPrint.mono_l : ∀ k, (∀ y0 y1 y2 y3, LeO (spec_SoftnetPrint.l0 k y0 y1 y2 y3) (spec_SoftnetPrint.l0 (k + 1) y0 y1 y2 y3)) ∧ (∀ y0 y1 y2 y3 y4 y5 y6, LeO (spec_SoftnetPrint.l1 k y0 y1 y2 y3 y4 y5 y6) (spec_SoftnetPrint.l1 (k + 1) y0 y1 y2 y3 y4 y5 y6))
 | 0 => ⟨fun _ _ _ _ r h => by simp [spec_SoftnetPrint.l0] at h, fun _ _ _ _ _ _ _ r h => by simp [spec_SoftnetPrint.l1] at h⟩
 | k + 1 => by
  obtain ⟨ih0, ih1⟩ := spec_SoftnetPrint.mono_l k
  refine ⟨?_, ?_⟩
  ·intro y0 y1 y2 y3
   unfold spec_SoftnetPrint.l0
   repeat' first
   | (with_reducible exact ih0 _ _ _ _)
   | (with_reducible exact ih1 _ _ _ _ _ _ _)
   | (with_reducible exact spec_Padded.mono _ _ _ _)
   | (with_reducible exact spec_softnetFine.mono _ _)
   | (with_reducible exact LeO.refl _)
   | (with_reducible exact LeO.none _)
   | (with_reducible refine LeO.ite ?_ ?_)
   | (with_reducible refine LeO.bind ?_ (fun _ => ?_))
   | exact ih0 _ _ _ _
   | exact ih1 _ _ _ _ _ _ _
   | exact spec_Padded.mono _ _ _ _
   | exact spec_softnetFine.mono _ _
   | exact LeO.none _
   | refine LeO.ite ?_ ?_
   | refine LeO.bind ?_ (fun _ => ?_)
  ·intro y0 y1 y2 y3 y4 y5 y6
   unfold spec_SoftnetPrint.l1
   repeat' first
   | (with_reducible exact ih0 _ _ _ _)
   | (with_reducible exact ih1 _ _ _ _ _ _ _)
   | (with_reducible exact spec_Padded.mono _ _ _ _)
   | (with_reducible exact spec_softnetFine.mono _ _)
   | (with_reducible exact LeO.refl _)
   | (with_reducible exact LeO.none _)
   | (with_reducible refine LeO.ite ?_ ?_)
   | (with_reducible refine LeO.bind ?_ (fun _ => ?_))
   | exact ih0 _ _ _ _
   | exact ih1 _ _ _ _ _ _ _
   | exact spec_Padded.mono _ _ _ _
   | exact spec_softnetFine.mono _ _
   | exact LeO.none _
   | refine LeO.ite ?_ ?_
   | refine LeO.bind ?_ (fun _ => ?_)
theorem spec_SoftnetPrint.mono : ∀ a0 k, LeO (spec_SoftnetPrint.f k a0) (spec_SoftnetPrint.f (k + 1) a0) := by
 intro a0 k
 obtain ⟨ih0, ih1⟩ := spec_SoftnetPrint.mono_l k
 unfold spec_SoftnetPrint.f
 repeat' first
   | (with_reducible exact ih0 _ _ _ _)
   | (with_reducible exact ih1 _ _ _ _ _ _ _)
   | (with_reducible exact spec_Padded.mono _ _ _ _)
   | (with_reducible exact spec_softnetFine.mono _ _)
   | (with_reducible exact LeO.refl _)
   | (with_reducible exact LeO.none _)
   | (with_reducible refine LeO.ite ?_ ?_)
   | (with_reducible refine LeO.bind ?_ (fun _ => ?_))
   | exact ih0 _ _ _ _
   | exact ih1 _ _ _ _ _ _ _
   | exact spec_Padded.mono _ _ _ _
   | exact spec_softnetFine.mono _ _
   | exact LeO.none _
   | refine LeO.ite ?_ ?_
   | refine LeO.bind ?_ (fun _ => ?_)
set_option maxHeartbeats 8000000 in
set_option maxRecDepth 100000 in
theorem spec_SoftnetPrint.calls (k : Nat) (A0 : Option Addr) (c0 : Nat) (l0 : List (S48)) (r1 : ByteArray) (r2 : Int) (w : World) (hr0 : Kd.C k48 w A0 l0.length l0) (hc0 : l0.length ≤ c0) (h : spec_SoftnetPrint.f k l0 = some (r1, r2)) :
  Calls Tryz.prog 28 #[.slice A0 l0.length c0] w fun e w' => e = .returned (.tuple #[.string r1, .int .i64 r2]) ∧ Below w.heap.size w w' := by
 have hu48 := Tryz.underlying48
 have HR0 := Aside0.mk hr0
 have HC0 := Aside0.mk hc0
 clear hr0 hc0
 have HB := Aside0.mk (Below.refl w.heap.size w)
 have H : ((spec_softnetFine.f k l0).bind fun t127 => (if t127 = true then (spec_SoftnetPrint.l0 k (⟨#[]⟩ : ByteArray) l0 (l0.length : Int) 0) else (some ((⟨#[]⟩ : ByteArray), 2)))) = some (r1, r2) := h
 clear h
 replace H := Option.bind_eq_some_iff.mp H
 obtain ⟨t127, A20, H⟩ := H
 replace H : (if t127 = true then (spec_SoftnetPrint.l0 k (⟨#[]⟩ : ByteArray) l0 (l0.length : Int) 0) else (some ((⟨#[]⟩ : ByteArray), 2))) = some (r1, r2) := H
 have A2 := Aside0.mk A20
 clear A20
 by_cases c3 : t127 = true
 ·subst c3
  have H1 : (spec_SoftnetPrint.l0 k (⟨#[]⟩ : ByteArray) l0 (l0.length : Int) 0) = some (r1, r2) := by rw [if_pos rfl] at H; exact H
  clear H
  have H := H1
  clear H1
  have H' := Aside0.mk H
  clear H
  go_enter Tryz.func28, Tryz.ntmps28
  go_wp2_with (first | ((with_reducible refine gate_callee (f := 91) rfl ?_); refine goesL_ (some 10) rfl rfl Tryz.func91 (by kernel_rfl) rfl #[.slice A0 l0.length c0] rfl (by (try simp only [List.map_toArray, List.map_cons, List.map_nil]); first | done | rfl | (simp only [List.length_drop, List.length_take]; rfl)) ?_; (with_reducible refine (spec_softnetFine.calls k _ _ l0 true _ ?side1 ?side2 A2.out).mono ?_); (case side1 => repeat (first | exact HR0.out | (with_reducible refine Kd.C_alloc ?_ _) | (with_reducible refine Kd.C_drewN ?_ _) | (with_reducible refine Kd.C_drew ?_))); (case side2 => exact HC0.out); rintro e w4 ⟨rfl, hb⟩; refine ⟨_, rfl, ?_⟩; have n0_ := Aside0.mk (below_step belH hb); clear HB; have HB := n0_; clear n0_; (try clear hb); (try clear hb2); (try clear hk); (try clear hi)))
  go_loopg [4, 14] k (fun kq v4 v14 w' => ∃ (x4_1 : ByteArray) (x14_1 : Int), v4 = .string x4_1 ∧ v14 = .int .i64 x14_1 ∧ Aside0 (spec_SoftnetPrint.l0 kq x4_1 l0 (l0.length : Int) x14_1 = some (r1, r2)) ∧ Aside0 (kq ≤ k) ∧ Aside0 (Below w.heap.size w w'))
  case atStart => exact ⟨((⟨#[]⟩ : ByteArray)), (0), (by first | rfl | (simp; done) | (simp [*]; done) | (simp [bne_nil]; done) | (simp [bne_nil, *]; done)), (by first | rfl | (simp; done) | (simp [*]; done) | (simp [bne_nil]; done) | (simp [bne_nil, *]; done)), H', ⟨Nat.le_refl _⟩, ⟨by repeat (first | (with_reducible first | exact HB.out | apply below_alloc | apply pw_below_drewN | apply below_drew1) | exact HB.out)⟩⟩
  case round =>
   clear H'
   try clear c2
   try clear p2
   try clear c3
   obtain ⟨x4_1, x14_1, rfl, rfl, HA, HK1, HB⟩ := hrel
   cases gk with
   | zero => exact absurd HA.out (by simp [spec_SoftnetPrint.l0])
   | succ k1 =>
    have H := HA.out
    clear HA
    simp only [spec_SoftnetPrint.l0] at H
    by_cases c5 : x14_1 < (l0.length : Int)
    ·rw [if_pos c5] at H
     have c5b0 : decide (x14_1 < (l0.length : Int)) = true := decide_eq_true c5
     clear c5
     by_cases c6 : 0 ≤ x14_1
     ·rw [if_pos c6] at H
      have c6b0 : decide (0 ≤ x14_1) = true := decide_eq_true c6
      clear c6
      by_cases c7 : x14_1 < (l0.length : Int)
      ·rw [if_pos c7] at H
       have c7b0 : decide (x14_1 < (l0.length : Int)) = true := decide_eq_true c7
       clear c7
       have H' := Aside0.mk H
       clear H
       have p128 : 0 ≤ (x14_1 : Int) := of_decide_eq_true (by first | (with_reducible assumption) | assumption)
       have q128 : x14_1 < (l0.length : Int) := of_decide_eq_true (by first | (with_reducible assumption) | assumption)
       obtain ⟨ad128, A128_1, c128_1, A128_2, c128_2, e128, hx128_0, hx128_1, hx128_2, hl128_1, hi128_1, hl128_2, hi128_2⟩ := at_T48 HR0.out x14_1 p128 q128
       cases e128
       replace hx128_0 := (HB.out.cell (World.block_lt_of_cell? w _ hx128_0)).trans hx128_0
       replace hx128_1 := (HB.out.cell (World.block_lt_of_cell? w _ hx128_1)).trans hx128_1
       replace hx128_2 := (HB.out.cell (World.block_lt_of_cell? w _ hx128_2)).trans hx128_2
       have HR128_1 := Aside0.mk hi128_1
       have HC128_1 := Aside0.mk hl128_1
       clear hi128_1 hl128_1
       have HR128_2 := Aside0.mk hi128_2
       have HC128_2 := Aside0.mk hl128_2
       clear hi128_2 hl128_2
       replace p128 := eq_true p128
       replace q128 := eq_true q128
       go_wp2_with (first | ((with_reducible refine gate_dst (N := 6) rfl ?_); refine box_event ?hg (N := 6) ?hd (cs := #[.string (⟨#[]⟩ : ByteArray), .slice none 0 0, .slice none 0 0]) (t := 48) ?hr ?_; (case hd => rfl); (case hg => rfl); (case hr => first | (go_simp; done) | (go_simp; rfl)); intro gb129 hg w8 hbox hb; have n0_ := Aside0.mk (below_step belH hb); have n1_ := Aside0.mk (hbox); have n2_ := Aside0.mk ((by rw [hg]; exact (below_size belH) : w.heap.size ≤ gb129)); have n3_ := Aside0.mk ((by rw [hg]; exact (below_size belH) : w.heap.size ≤ gb129)); clear HB; have HB := n0_; have BK129 := n1_; have GW129 := n2_; have GE129 := n3_; clear n0_ n1_ n2_ n3_; clear hb hbox hg; have hcz9_0 : w8.cell? ⟨gb129, 0, none⟩ = some (.string (⟨#[]⟩ : ByteArray)) := (blk_cell BK129.out 0).trans rfl; have hcz9_1 : w8.cell? ⟨gb129, 1, none⟩ = some (.slice none 0 0) := (blk_cell BK129.out 1).trans rfl; have hcz9_2 : w8.cell? ⟨gb129, 2, none⟩ = some (.slice none 0 0) := (blk_cell BK129.out 2).trans rfl; have hfz9_0 := blk_frozen BK129.out 0; have hfz9_1 := blk_frozen BK129.out 1; have hfz9_2 := blk_frozen BK129.out 2))
       go_loopg [4, 21] k1 (fun kq v4 v21 w' => ∃ (x4_2 : ByteArray) (x21_2 : Int), v4 = .string x4_2 ∧ v21 = .int .i64 x21_2 ∧ Aside0 (spec_SoftnetPrint.l1 kq x4_2 l0 (l0.length : Int) x14_1 ((rd_T48 l0 x14_1).f1) (((rd_T48 l0 x14_1).f1).length : Int) x21_2 = some (r1, r2)) ∧ Aside0 (kq ≤ k1) ∧ Aside0 (w'.heap[gb129]? = some (.cells #[.string ((rd_T48 l0 x14_1).f0), (.slice A128_1 ((rd_T48 l0 x14_1).f1).length c128_1), (.slice A128_2 ((rd_T48 l0 x14_1).f2).length c128_2)] 48 (0, 0))) ∧ Aside0 (Below w.heap.size w w'))
       case atStart => exact ⟨(x4_1), (0), (by first | rfl | (simp; done) | (simp [*]; done) | (simp [bne_nil]; done) | (simp [bne_nil, *]; done)), (by first | rfl | (simp; done) | (simp [*]; done) | (simp [bne_nil]; done) | (simp [bne_nil, *]; done)), H', ⟨Nat.le_refl _⟩, ⟨by (with_reducible repeat (first | refine bN ?_ _ | refine bW ?_ | refine bA ?_ _)); refine blk_put (cs := #[.string ((rd_T48 l0 x14_1).f0), .slice A128_1 ((rd_T48 l0 x14_1).f1).length c128_1, .slice none 0 0]) ?_ 2 _ rfl; (with_reducible repeat (first | refine bN ?_ _ | refine bW ?_ | refine bA ?_ _)); refine blk_put (cs := #[.string ((rd_T48 l0 x14_1).f0), .slice none 0 0, .slice none 0 0]) ?_ 1 _ rfl; (with_reducible repeat (first | refine bN ?_ _ | refine bW ?_ | refine bA ?_ _)); refine blk_put (cs := #[.string (⟨#[]⟩ : ByteArray), .slice none 0 0, .slice none 0 0]) ?_ 0 _ rfl; (with_reducible repeat (first | refine bN ?_ _ | refine bW ?_ | refine bA ?_ _)); exact BK129.out⟩, ⟨by repeat (first | (with_reducible first | exact HB.out | apply below_alloc | apply pw_below_drewN | apply below_drew1 | refine below_set ?_ GE129.out) | exact HB.out)⟩⟩
       case round =>
        clear H'
        try clear c1
        try clear p1
        try clear q1
        try clear hx1
        try clear c2
        try clear p2
        try clear c3
        try clear c5
        try clear c5b0
        try clear c6
        try clear c6b0
        try clear c7
        try clear c7b0
        try clear c9
        try clear hcz9_0
        try clear hcz9_1
        try clear hcz9_2
        try clear hfz9_0
        try clear hfz9_1
        try clear hfz9_2
        try clear hx128_0
        try clear hx128_1
        try clear hx128_2
        try clear p128
        try clear p2
        try clear q128
        obtain ⟨x4_2, x21_2, rfl, rfl, HA, HK2, BK129, HB⟩ := hrel
        cases gk with
        | zero => exact absurd HA.out (by simp [spec_SoftnetPrint.l1])
        | succ k2 =>
         have H := HA.out
         clear HA
         simp only [spec_SoftnetPrint.l1] at H
         by_cases c10 : x21_2 < (((rd_T48 l0 x14_1).f1).length : Int)
         ·rw [if_pos c10] at H
          have c10b0 : decide (x21_2 < (((rd_T48 l0 x14_1).f1).length : Int)) = true := decide_eq_true c10
          clear c10
          by_cases c11 : 0 ≤ x21_2
          ·rw [if_pos c11] at H
           have c11b0 : decide (0 ≤ x21_2) = true := decide_eq_true c11
           clear c11
           by_cases c12 : x21_2 < (((rd_T48 l0 x14_1).f1).length : Int)
           ·rw [if_pos c12] at H
            have c12b0 : decide (x21_2 < (((rd_T48 l0 x14_1).f1).length : Int)) = true := decide_eq_true c12
            clear c12
            by_cases c13 : x21_2 > 0
            ·rw [if_pos c13] at H
             have c13b0 : decide (0 < x21_2) = true := decide_eq_true c13
             clear c13
             by_cases c14 : x4_2.size + 1 ≤ 9223372036854775807
             ·rw [if_pos c14] at H
              have c14b0 := eq_true c14
              have c14b1 : decide (x4_2.size + 1 ≤ 9223372036854775807) = true := decide_eq_true c14
              try have c14b2 : (9223372036854775807 < x4_2.size + 1) = False := eq_false (Nat.not_lt.2 c14)
              replace H := Option.bind_eq_some_iff.mp H
              obtain ⟨t131, A150, H⟩ := H
              replace H : (if (x4_2 ++ (⟨#[32]⟩ : ByteArray)).size + t131.size ≤ 9223372036854775807 then (spec_SoftnetPrint.l1 k2 ((x4_2 ++ (⟨#[32]⟩ : ByteArray)) ++ t131) l0 (l0.length : Int) x14_1 ((rd_T48 l0 x14_1).f1) (((rd_T48 l0 x14_1).f1).length : Int) (wrap64 (x21_2 + 1))) else (none)) = some (r1, r2) := H
              have A15 := Aside0.mk A150
              clear A150
              by_cases c16 : (x4_2 ++ (⟨#[32]⟩ : ByteArray)).size + t131.size ≤ 9223372036854775807
              ·rw [if_pos c16] at H
               have c16b0 := eq_true c16
               have c16b1 : decide ((x4_2 ++ (⟨#[32]⟩ : ByteArray)).size + t131.size ≤ 9223372036854775807) = true := decide_eq_true c16
               try have c16b2 : (9223372036854775807 < x4_2.size + 1 + t131.size) = False := eq_false (by have hz := c16; rw [ByteArray.size_append] at hz; exact Nat.not_lt.2 hz)
               have H' := Aside0.mk H
               clear H
               have p130 : 0 ≤ (x21_2 : Int) := of_decide_eq_true (by first | (with_reducible assumption) | assumption)
               have q130 : x21_2 < (((rd_T48 l0 x14_1).f1).length : Int) := of_decide_eq_true (by first | (with_reducible assumption) | assumption)
               obtain ⟨ad130, e130, hx130_0⟩ := Kd.at_int HR128_1.out x21_2 p130 q130
               cases e130
               replace hx130_0 := (HB.out.cell (World.block_lt_of_cell? w _ hx130_0)).trans hx130_0
               replace p130 := eq_true p130
               replace q130 := eq_true q130
               go_wp2_with (first | ((with_reducible refine gate_callee (f := 84) rfl ?_); refine goesL_ (some 32) rfl rfl Tryz.func84 (by kernel_rfl) rfl #[.int .u64 (rd ((rd_T48 l0 x14_1).f1) x21_2), .int .u64 16, .int .i64 8] rfl (by (try simp only [List.map_toArray, List.map_cons, List.map_nil]); first | done | rfl | (simp only [List.length_drop, List.length_take]; rfl)) ?_; (with_reducible refine (spec_Padded.calls k2 (rd ((rd_T48 l0 x14_1).f1) x21_2) 16 8 t131 _ A15.out).mono ?_); rintro e w17 ⟨rfl, hb⟩; refine ⟨_, rfl, ?_⟩; have n0_ := Aside0.mk (blk_below (g := gb129) (o := .cells #[.string ((rd_T48 l0 x14_1).f0), .slice (some ad130) ((rd_T48 l0 x14_1).f1).length c128_1, .slice A128_2 ((rd_T48 l0 x14_1).f2).length c128_2] 48 (0, 0)) (by (with_reducible repeat (first | refine bN ?_ _ | refine bW ?_ | refine bA ?_ _)); exact BK129.out) hb); have n1_ := Aside0.mk (below_step belS hb); clear BK129; clear HB; have BK129 := n0_; have HB := n1_; clear n0_ n1_; (try clear hb); (try clear hb2); (try clear hk); (try clear hi)))
               go_roundg k2
               case measure => have := HK1.out; have := HK2.out; omega
               case rel => exact ⟨((x4_2 ++ (⟨#[32]⟩ : ByteArray)) ++ t131), (wrap64 (x21_2 + 1)), (by first | rfl | (simp; done) | (simp [*]; done) | (simp [bne_nil]; done) | (simp [bne_nil, *]; done)), (by first | rfl | (simp; done) | (simp [*]; done) | (simp [bne_nil]; done) | (simp [bne_nil, *]; done)), H', ⟨by have := HK1.out; have := HK2.out; omega⟩, ⟨by (with_reducible repeat (first | refine bN ?_ _ | refine bW ?_ | refine bA ?_ _)); exact BK129.out⟩, ⟨by repeat (first | (with_reducible first | exact HB.out | apply below_alloc | apply pw_below_drewN | apply below_drew1 | refine below_set ?_ GE129.out) | exact HB.out)⟩⟩
              ·rw [if_neg c16] at H
               exact absurd H (by simp)
             ·rw [if_neg c14] at H
              exact absurd H (by simp)
            ·rw [if_neg c13] at H
             have c13b0 : decide (0 < x21_2) = false := decide_eq_false c13
             clear c13
             replace H := Option.bind_eq_some_iff.mp H
             obtain ⟨t132, A180, H⟩ := H
             replace H : (if x4_2.size + t132.size ≤ 9223372036854775807 then (spec_SoftnetPrint.l1 k2 (x4_2 ++ t132) l0 (l0.length : Int) x14_1 ((rd_T48 l0 x14_1).f1) (((rd_T48 l0 x14_1).f1).length : Int) (wrap64 (x21_2 + 1))) else (none)) = some (r1, r2) := H
             have A18 := Aside0.mk A180
             clear A180
             by_cases c19 : x4_2.size + t132.size ≤ 9223372036854775807
             ·rw [if_pos c19] at H
              have c19b0 := eq_true c19
              have c19b1 : decide (x4_2.size + t132.size ≤ 9223372036854775807) = true := decide_eq_true c19
              try have c19b2 : (9223372036854775807 < x4_2.size + t132.size) = False := eq_false (Nat.not_lt.2 c19)
              have H' := Aside0.mk H
              clear H
              have p130 : 0 ≤ (x21_2 : Int) := of_decide_eq_true (by first | (with_reducible assumption) | assumption)
              have q130 : x21_2 < (((rd_T48 l0 x14_1).f1).length : Int) := of_decide_eq_true (by first | (with_reducible assumption) | assumption)
              obtain ⟨ad130, e130, hx130_0⟩ := Kd.at_int HR128_1.out x21_2 p130 q130
              cases e130
              replace hx130_0 := (HB.out.cell (World.block_lt_of_cell? w _ hx130_0)).trans hx130_0
              replace p130 := eq_true p130
              replace q130 := eq_true q130
              go_wp2_with (first | ((with_reducible refine gate_callee (f := 84) rfl ?_); refine goesL_ (some 32) rfl rfl Tryz.func84 (by kernel_rfl) rfl #[.int .u64 (rd ((rd_T48 l0 x14_1).f1) x21_2), .int .u64 16, .int .i64 8] rfl (by (try simp only [List.map_toArray, List.map_cons, List.map_nil]); first | done | rfl | (simp only [List.length_drop, List.length_take]; rfl)) ?_; (with_reducible refine (spec_Padded.calls k2 (rd ((rd_T48 l0 x14_1).f1) x21_2) 16 8 t132 _ A18.out).mono ?_); rintro e w20 ⟨rfl, hb⟩; refine ⟨_, rfl, ?_⟩; have n0_ := Aside0.mk (blk_below (g := gb129) (o := .cells #[.string ((rd_T48 l0 x14_1).f0), .slice (some ad130) ((rd_T48 l0 x14_1).f1).length c128_1, .slice A128_2 ((rd_T48 l0 x14_1).f2).length c128_2] 48 (0, 0)) (by (with_reducible repeat (first | refine bN ?_ _ | refine bW ?_ | refine bA ?_ _)); exact BK129.out) hb); have n1_ := Aside0.mk (below_step belS hb); clear BK129; clear HB; have BK129 := n0_; have HB := n1_; clear n0_ n1_; (try clear hb); (try clear hb2); (try clear hk); (try clear hi)))
              go_roundg k2
              case measure => have := HK1.out; have := HK2.out; omega
              case rel => exact ⟨(x4_2 ++ t132), (wrap64 (x21_2 + 1)), (by first | rfl | (simp; done) | (simp [*]; done) | (simp [bne_nil]; done) | (simp [bne_nil, *]; done)), (by first | rfl | (simp; done) | (simp [*]; done) | (simp [bne_nil]; done) | (simp [bne_nil, *]; done)), H', ⟨by have := HK1.out; have := HK2.out; omega⟩, ⟨by (with_reducible repeat (first | refine bN ?_ _ | refine bW ?_ | refine bA ?_ _)); exact BK129.out⟩, ⟨by repeat (first | (with_reducible first | exact HB.out | apply below_alloc | apply pw_below_drewN | apply below_drew1 | refine below_set ?_ GE129.out) | exact HB.out)⟩⟩
             ·rw [if_neg c19] at H
              exact absurd H (by simp)
           ·rw [if_neg c12] at H
            exact absurd H (by simp)
          ·rw [if_neg c11] at H
           exact absurd H (by simp)
         ·rw [if_neg c10] at H
          have c10b0 : decide (x21_2 < (((rd_T48 l0 x14_1).f1).length : Int)) = false := decide_eq_false c10
          clear c10
          by_cases c21 : x4_2.size + 1 ≤ 9223372036854775807
          ·rw [if_pos c21] at H
           have c21b0 := eq_true c21
           have c21b1 : decide (x4_2.size + 1 ≤ 9223372036854775807) = true := decide_eq_true c21
           try have c21b2 : (9223372036854775807 < x4_2.size + 1) = False := eq_false (Nat.not_lt.2 c21)
           have H' := Aside0.mk H
           clear H
           go_wp2
           go_roundg k2
           case measure => have := HK1.out; have := HK2.out; omega
           case rel => exact ⟨(x4_2 ++ (⟨#[10]⟩ : ByteArray)), (wrap64 (x14_1 + 1)), (by first | rfl | (simp; done) | (simp [*]; done) | (simp [bne_nil]; done) | (simp [bne_nil, *]; done)), (by first | rfl | (simp; done) | (simp [*]; done) | (simp [bne_nil]; done) | (simp [bne_nil, *]; done)), H', ⟨by have := HK1.out; have := HK2.out; omega⟩, ⟨by repeat (first | (with_reducible first | exact HB.out | apply below_alloc | apply pw_below_drewN | apply below_drew1 | refine below_set ?_ GE129.out) | exact HB.out)⟩⟩
          ·rw [if_neg c21] at H
           exact absurd H (by simp)
      ·rw [if_neg c7] at H
       exact absurd H (by simp)
     ·rw [if_neg c6] at H
      exact absurd H (by simp)
    ·rw [if_neg c5] at H
     have c5b0 : decide (x14_1 < (l0.length : Int)) = false := decide_eq_false c5
     clear c5
     simp only [Option.some.injEq, Prod.mk.injEq] at H
     obtain ⟨rfl, rfl⟩ := H
     go_wp2
     go_ret2
     exact ⟨by first | rfl | (simp [errW_none, errW_some] <;> rfl) | (simp [*, errW_none, errW_some] <;> rfl), by repeat (first | (with_reducible first | exact HB.out | apply below_alloc | apply pw_below_drewN | apply below_drew1) | exact HB.out)⟩
 ·replace c3 := Bool.eq_false_iff.mpr c3
  subst c3
  have H1 : (some ((⟨#[]⟩ : ByteArray), 2)) = some (r1, r2) := by rw [if_neg (show ¬ (false = true) by decide)] at H; exact H
  clear H
  have H := H1
  clear H1
  simp only [Option.some.injEq, Prod.mk.injEq] at H
  obtain ⟨rfl, rfl⟩ := H
  go_enter Tryz.func28, Tryz.ntmps28
  go_wp2_with (first | ((with_reducible refine gate_callee (f := 91) rfl ?_); refine goesL_ (some 10) rfl rfl Tryz.func91 (by kernel_rfl) rfl #[.slice A0 l0.length c0] rfl (by (try simp only [List.map_toArray, List.map_cons, List.map_nil]); first | done | rfl | (simp only [List.length_drop, List.length_take]; rfl)) ?_; (with_reducible refine (spec_softnetFine.calls k _ _ l0 false _ ?side1 ?side2 A2.out).mono ?_); (case side1 => repeat (first | exact HR0.out | (with_reducible refine Kd.C_alloc ?_ _) | (with_reducible refine Kd.C_drewN ?_ _) | (with_reducible refine Kd.C_drew ?_))); (case side2 => exact HC0.out); rintro e w22 ⟨rfl, hb⟩; refine ⟨_, rfl, ?_⟩; have n0_ := Aside0.mk (below_step belH hb); clear HB; have HB := n0_; clear n0_; (try clear hb); (try clear hb2); (try clear hk); (try clear hi)))
  go_ret2
  exact ⟨by first | rfl | (simp [errW_none, errW_some] <;> rfl) | (simp [*, errW_none, errW_some] <;> rfl), by repeat (first | (with_reducible first | exact HB.out | apply below_alloc | apply pw_below_drewN | apply below_drew1) | exact HB.out)⟩

end Go.Proofs.YtdmpbaanonafbaaGreatDoor.N
