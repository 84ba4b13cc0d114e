-- written by a program of this session (wip/tools/pp.py)
import Derived.Test.YtdmpbaanonafbaaGreatDoorD1
import Derived.Test.YtdmpbaanonafbaaGreatDoorD2
namespace Go.Proofs.YtdmpbaanonafbaaGreatDoor.D
open Go.RowKit Go.Proofs.YtdmpbaanonafbaaGreatDoorW.PrintWords Go.Proofs.YtdmpbaanonafbaaGreatDoorW.PrintLast Go.Proofs.YtdmpbaanonafbaaGreatDoor.Flt Go.Proofs.YtdmpbaanonafbaaGreatDoor.GivZ Go.Proofs.YtdmpbaanonafbaaGreatDoor.E Go.Proofs.YtdmpbaanonafbaaGreatDoor.L Go.Proofs.YtdmpbaanonafbaaGreatDoor.V Go.Proofs.YtdmpbaanonafbaaGreatDoor.DoorSs Go.Proofs.YtdmpbaanonafbaaGreatDoor.Lives Go.Proofs.YtdmpbaanonafbaaGreatDoor.R Go.Proofs.YtdmpbaanonafbaaGreatDoorW.PrintMore
attribute [local go_sem] max2_int min2_int max_two min_two max_three min_three max_four min_four   -- for this text's walks alone
set_option linter.unusedVariables false
set_option linter.unusedSimpArgs false
theorem cdw_ (w : World) (n : Nat) (a : Addr) : (World.drewN w n).cell? a = w.cell? a := rfl

/-! ### spec_SchedstatRead: function 21 -/
def spec_SchedstatRead.l0 : Nat → ByteArray → List (S48) → Bool → Int → Int → Option ((List (S48)) × Bool × Int)
 | 0, _, _, _, _, _ => none
 | k + 1, x0, x6, x7, x21, x22 => if x22 < x21 then (if 0 ≤ x22 then (if x22 < (x6.length : Int) then ((spec_Begins.f ((rd_T48 x6 x22).f0) (⟨#[99, 112, 117]⟩ : ByteArray)).bind fun t142 => (if t142 = true then (if 3 ≤ (((rd_T48 x6 x22).f0).size : Int) then (spec_SchedstatRead.l0 k x0 (x6.set (x22 : Int).toNat (⟨((rd_T48 x6 x22).f0).extract 3 ((rd_T48 x6 x22).f0).size, (rd_T48 x6 x22).f1, (rd_T48 x6 x22).f2⟩ : S48)) x7 x21 (wrap64 (x22 + 1))) else (none)) else (some (([] : List (S48)), false, 2)))) else (none)) else (none)) else ((spec_meant__SchedstatPrint.f k x0 x6 x7 false).bind fun bt145 => (some (bt145.1, bt145.2.1, bt145.2.2)))
def spec_SchedstatRead.f (k : Nat) (a0 : ByteArray) : Option ((List (S48)) × Bool × Int) := (spec_Lines.f k a0).bind fun t130 => (if (t130.length : Int) < 2 then (some (([] : List (S48)), false, 2)) else (if 2 ≤ (t130.length : Int) then ((spec_table.f k (t130.drop 2) (⟨#[]⟩ : ByteArray)).bind fun bt137 => (spec_SchedstatRead.l0 k a0 bt137.1 bt137.2 (bt137.1.length : Int) 0)) else (none)))
theorem spec_SchedstatRead.mono_l : ∀ k, (∀ y0 y1 y2 y3 y4, LeO (spec_SchedstatRead.l0 k y0 y1 y2 y3 y4) (spec_SchedstatRead.l0 (k + 1) y0 y1 y2 y3 y4))
 | 0 => fun _ _ _ _ _ r h => by simp [spec_SchedstatRead.l0] at h
 | k + 1 => by
  have ih0 := spec_SchedstatRead.mono_l k
  ·intro y0 y1 y2 y3 y4
   unfold spec_SchedstatRead.l0
   repeat' first
   | (with_reducible exact ih0 _ _ _ _ _)
   | (with_reducible exact spec_Lines.mono _ _)
   | (with_reducible exact spec_meant__SchedstatPrint.mono _ _ _ _ _)
   | (with_reducible exact spec_table.mono _ _ _)
   | (with_reducible exact LeO.refl _)
   | (with_reducible exact LeO.none _)
   | (with_reducible refine LeO.ite ?_ ?_)
   | (with_reducible refine LeO.bind ?_ (fun _ => ?_))
   | exact ih0 _ _ _ _ _
   | exact spec_Lines.mono _ _
   | exact spec_meant__SchedstatPrint.mono _ _ _ _ _
   | exact spec_table.mono _ _ _
   | exact LeO.none _
   | refine LeO.ite ?_ ?_
   | refine LeO.bind ?_ (fun _ => ?_)
theorem spec_SchedstatRead.mono : ∀ a0 k, LeO (spec_SchedstatRead.f k a0) (spec_SchedstatRead.f (k + 1) a0) := by
 intro a0 k
 have ih0 := spec_SchedstatRead.mono_l k
 unfold spec_SchedstatRead.f
 repeat' first
   | (with_reducible exact ih0 _ _ _ _ _)
   | (with_reducible exact spec_Lines.mono _ _)
   | (with_reducible exact spec_meant__SchedstatPrint.mono _ _ _ _ _)
   | (with_reducible exact spec_table.mono _ _ _)
   | (with_reducible exact LeO.refl _)
   | (with_reducible exact LeO.none _)
   | (with_reducible refine LeO.ite ?_ ?_)
   | (with_reducible refine LeO.bind ?_ (fun _ => ?_))
   | exact ih0 _ _ _ _ _
   | exact spec_Lines.mono _ _
   | exact spec_meant__SchedstatPrint.mono _ _ _ _ _
   | exact spec_table.mono _ _ _
   | exact LeO.none _
   | refine LeO.ite ?_ ?_
   | refine LeO.bind ?_ (fun _ => ?_)
set_option maxHeartbeats 8000000 in
set_option maxRecDepth 100000 in
theorem spec_SchedstatRead.calls (k : Nat) (a0 : ByteArray) (r1 : List (S48)) (r2 : Bool) (r3 : Int) (w : World) (h : spec_SchedstatRead.f k a0 = some (r1, r2, r3)) :
  Calls Tryz.prog 21 #[.string a0] w fun e w' => ∃ v0_ : Value, e = .returned (.tuple #[v0_, .bool r2, .int .i64 r3]) ∧ Kd.V k48 48 w' w.heap.size (fun k_ => (w.heap.size ≤ k_)) v0_ r1 ∧ Below w.heap.size w w' := by
 have HB := Aside0.mk (Below.refl w.heap.size w)
 have H : ((spec_Lines.f k a0).bind fun t130 => (if (t130.length : Int) < 2 then (some (([] : List (S48)), false, 2)) else (if 2 ≤ (t130.length : Int) then ((spec_table.f k (t130.drop 2) (⟨#[]⟩ : ByteArray)).bind fun bt137 => (spec_SchedstatRead.l0 k a0 bt137.1 bt137.2 (bt137.1.length : Int) 0)) else (none)))) = some (r1, r2, r3) := h
 clear h
 replace H := Option.bind_eq_some_iff.mp H
 obtain ⟨t130, A20, H⟩ := H
 have A2 := Aside0.mk A20
 clear A20
 by_cases c3 : (t130.length : Int) < 2
 ·rw [if_pos c3] at H
  have c3b0 : decide ((t130.length : Int) < 2) = true := decide_eq_true c3
  have c3b1 : decide (t130.length < 2) = true := decide_eq_true (by omega)
  clear c3
  simp only [Option.some.injEq, Prod.mk.injEq] at H
  obtain ⟨rfl, rfl, rfl⟩ := H
  go_enter Tryz.func21, Tryz.ntmps21
  go_wp2_with (first | ((with_reducible refine gate_callee (f := 55) rfl ?_); refine goesL_ (some 10) rfl rfl Tryz.func55 (by kernel_rfl) rfl #[.string a0] rfl (by (try simp only [List.map_toArray, List.map_cons, List.map_nil]); first | done | rfl | (simp only [List.length_drop, List.length_take]; rfl)) ?_; (with_reducible refine (spec_Lines.calls k a0 t130 _ A2.out).mono ?_); rintro e w4 ⟨v131, rfl, ho0, hb⟩; refine ⟨_, rfl, ?_⟩; have n0_ := Aside0.mk (Kd.R_lower (Kd.R_newM (M := fun k_ => (w.heap.size ≤ k_)) ho0 (below_size belH) (fun k_ h_ => h_)) (below_size belH)); have n1_ := Aside0.mk (below_step belH hb); clear HB; have HO132 := n0_; have HB := n1_; clear n0_ n1_; (try clear hb); (try clear hb2); (try clear hk); (try clear hi); (try clear ho0); obtain ⟨Ao5, co5, eo5⟩ := Kd.R_slice HO132.out; subst eo5))
  go_ret3
  exact ⟨_, by first | rfl | (simp [errW_none, errW_some] <;> rfl) | (simp [*, errW_none, errW_some] <;> rfl), Kd.V_nil _ _ _ _ _, by repeat (first | (with_reducible first | exact HB.out | apply below_alloc | apply pw_below_drewN | apply below_drew1) | exact HB.out)⟩
 ·rw [if_neg c3] at H
  have c3b0 : decide ((t130.length : Int) < 2) = false := decide_eq_false c3
  have c3b1 : decide (t130.length < 2) = false := decide_eq_false (by omega)
  clear c3
  by_cases c6 : 2 ≤ (t130.length : Int)
  ·rw [if_pos c6] at H
   have c6b0 := eq_true c6
   have c6b1 : decide (2 ≤ (t130.length : Int)) = true := decide_eq_true c6
   clear c6
   obtain ⟨y133, hy133⟩ : ∃ y_ : List ByteArray, y_ = (t130.drop 2) := ⟨_, rfl⟩
   replace H : ((spec_table.f k y133 (⟨#[]⟩ : ByteArray)).bind fun bt137 => (spec_SchedstatRead.l0 k a0 bt137.1 bt137.2 (bt137.1.length : Int) 0)) = some (r1, r2, r3) := by first | (rw [hy133]; with_reducible exact H) | (have H2_ := (Option.bind_some _ _).symm.trans H; rw [hy133]; with_reducible exact H2_) | (have H2_ := (Option.bind_some _ _).symm.trans H; with_reducible exact H2_) | with_reducible exact H | (rw [hy133]; exact H) | exact H
   have Ny133 := Aside0.mk hy133
   clear hy133
   replace H := Option.bind_eq_some_iff.mp H
   obtain ⟨⟨t137, t138⟩, A70, H⟩ := H
   have A7 := Aside0.mk A70
   clear A70
   have H' := Aside0.mk H
   clear H
   go_enter Tryz.func21, Tryz.ntmps21
   go_wp2_with (first | ((with_reducible refine gate_callee (f := 55) rfl ?_); refine goesL_ (some 10) rfl rfl Tryz.func55 (by kernel_rfl) rfl #[.string a0] rfl (by (try simp only [List.map_toArray, List.map_cons, List.map_nil]); first | done | rfl | (simp only [List.length_drop, List.length_take]; rfl)) ?_; (with_reducible refine (spec_Lines.calls k a0 t130 _ A2.out).mono ?_); rintro e w8 ⟨v131, rfl, ho0, hb⟩; refine ⟨_, rfl, ?_⟩; have n0_ := Aside0.mk (Kd.R_lower (Kd.R_newM (M := fun k_ => (w.heap.size ≤ k_)) ho0 (below_size belH) (fun k_ h_ => h_)) (below_size belH)); have n1_ := Aside0.mk (below_step belH hb); clear HB; have HO132 := n0_; have HB := n1_; clear n0_ n1_; (try clear hb); (try clear hb2); (try clear hk); (try clear hi); (try clear ho0); obtain ⟨Ao9, co9, eo9⟩ := Kd.R_slice HO132.out; subst eo9; have q10 : (2 : Int) ≤ ((t130.length : Int) : Int) := of_decide_eq_true (by first | (with_reducible assumption) | assumption); obtain ⟨i010, hi010, _, hsz10, _⟩ := info_parts info9; have hroom10 : t130.length ≤ co9 := (Kd.R_reads' HO132.out).2.1; have hC10 : Kd.C Kd.string _ Ao9 t130.length t130 := (Kd.R_reads' HO132.out).2.2; have hcut10 := cut_from (P := Tryz.prog) 42 9 .i64 Tryz.underlying42 hi010 1 hsz10 Ao9 t130.length co9 2 (by omega) q10; have hr10 := Kd.C_drop (m := (2 : Int).toNat) (c := co9) hC10 (by omega) hroom10; obtain ⟨A10, hA10⟩ : ∃ A1, A1 = (if co9 = (2 : Int).toNat then Ao9 else (Ao9 : Option Addr).map (·.add ((2 : Int).toNat * 1))) := ⟨_, rfl⟩; obtain ⟨c10, hc10⟩ : ∃ c1, c1 = co9 - (2 : Int).toNat := ⟨_, rfl⟩; have hy10 : y133.length = t130.length - (2 : Int).toNat := (by rw [Ny133.out, List.length_drop] <;> omega); rw [show (t130).drop (2 : Int).toNat = y133 from Ny133.out.symm] at hr10; replace hr10 : Kd.C Kd.string _ A10 y133.length y133 := (by rw [hA10]; exact hr10); rw [← hy10, ← hA10, ← hc10] at hcut10; have HR136 := Aside0.mk hr10; have HC136 := Aside0.mk (show y133.length ≤ c10 from by rw [hy10, hc10]; exact Nat.sub_le_sub_right hroom10 _); clear hr10 hC10 hroom10 hi010 hsz10 hc10; have KY10 := Aside0.mk hy10; have KA10 := Aside0.mk hA10; clear hy10 hA10; have KL10 := Aside0.mk (show 2 ≤ t130.length from by omega); replace q10 := eq_true q10) | ((with_reducible refine gate_callee (f := 72) rfl ?_); refine goesL_ (some 17) rfl rfl Tryz.func72 (by kernel_rfl) rfl #[.slice A10 y133.length c10, .string (⟨#[]⟩ : ByteArray)] rfl (by (try simp only [List.map_toArray, List.map_cons, List.map_nil]); first | done | rfl | (simp only [List.length_drop, List.length_take]; rfl)) ?_; (with_reducible refine (spec_table.calls k _ _ y133 (⟨#[]⟩ : ByteArray) t137 t138 _ ?side1 ?side2 A7.out).mono ?_); (case side1 => repeat (first | exact (by repeat (first | (with_reducible exact HR136.out) | (with_reducible refine Kd.C_alloc ?_ _) | (with_reducible refine Kd.C_drewN ?_ _) | (with_reducible refine Kd.C_drew ?_) | exact HR136.out)) | (with_reducible refine Kd.C_alloc ?_ _) | (with_reducible refine Kd.C_drewN ?_ _) | (with_reducible refine Kd.C_drew ?_))); (case side2 => exact HC136.out); rintro e w11 ⟨v139, rfl, ho0, hb⟩; refine ⟨_, rfl, ?_⟩; have n0_ := Aside0.mk (Kd.R_below (by (with_reducible repeat (first | apply Kd.R_alloc | apply Kd.R_drewN | apply Kd.R_drew)); exact HO132.out) hb); have n1_ := Aside0.mk (Kd.S_lower (Kd.S_new' (Kd.S_newM (M := fun k_ => (w.heap.size ≤ k_)) ho0 (below_size belH) (fun k_ h_ => h_)) (Kd.R_lt (by (with_reducible repeat (first | apply Kd.R_alloc | apply Kd.R_drewN | apply Kd.R_drew)); exact HO132.out))) (below_size belH)); have n2_ := Aside0.mk (Kd.C_below (by repeat (first | (with_reducible exact HR136.out) | (with_reducible refine Kd.C_alloc ?_ _) | (with_reducible refine Kd.C_drewN ?_ _) | (with_reducible refine Kd.C_drew ?_) | exact HR136.out)) hb); have n3_ := Aside0.mk (below_step belH hb); clear HO132; clear HR136; clear HB; have HO132 := n0_; have HO140 := n1_; have HR136 := n2_; have HB := n3_; clear n0_ n1_ n2_ n3_; (try clear hb); (try clear hb2); (try clear hk); (try clear hi); (try clear ho0); obtain ⟨Ao12, co12, eo12⟩ := Kd.S_slice HO140.out; subst eo12))
   go_loopg [22] k (fun kq v22 w' => ∃ (x6_1 : List (S48)) (x22_1 : Int), v22 = .int .i64 x22_1 ∧ Aside0 (spec_SchedstatRead.l0 kq a0 x6_1 t138 (t137.length : Int) x22_1 = some (r1, r2, r3)) ∧ Aside0 (kq ≤ k) ∧ Aside0 (Kd.S k48 48 w' w.heap.size (fun k_ => (w.heap.size ≤ k_)) (.slice Ao12 t137.length co12) x6_1) ∧ Aside0 (Below w.heap.size w w'))
   case atStart => exact ⟨(t137), (0), (by first | rfl | (simp; done) | (simp [*]; done) | (simp [bne_nil]; done) | (simp [bne_nil, *]; done)), H', ⟨Nat.le_refl _⟩, ⟨by (with_reducible repeat (first | apply Kd.S_alloc | apply Kd.S_drewN | apply Kd.S_drew)); exact Kd.S_mono HO140.out (fun _ hk => hk.1.1)⟩, ⟨by repeat (first | (with_reducible first | exact HB.out | apply below_alloc | apply pw_below_drewN | apply below_drew1) | exact HB.out)⟩⟩
   case round =>
    clear H'
    try clear c1
    try clear q1
    try clear c2
    try clear p2
    try clear c3
    try clear c3b0
    try clear c3b1
    try clear c5
    try clear c6
    try clear c6b0
    try clear c6b1
    try clear c7
    try clear c10
    try clear q10
    try clear q10
    obtain ⟨x6_1, x22_1, rfl, HA, HK1, HO_6, HB⟩ := hrel
    have hl6_1 := (Kd.S_reads' HO_6.out).1
    rw [hl6_1] at HO_6
    (try simp only [hl6_1])
    cases gk with
    | zero => exact absurd HA.out (by simp [spec_SchedstatRead.l0])
    | succ k1 =>
     have H := HA.out
     clear HA
     simp only [spec_SchedstatRead.l0] at H
     by_cases c13 : x22_1 < (t137.length : Int)
     ·rw [if_pos c13] at H
      have c13b0 : decide (x22_1 < (t137.length : Int)) = true := decide_eq_true c13
      clear c13
      by_cases c14 : 0 ≤ x22_1
      ·rw [if_pos c14] at H
       have c14b0 : decide (0 ≤ x22_1) = true := decide_eq_true c14
       clear c14
       by_cases c15 : x22_1 < (x6_1.length : Int)
       ·rw [if_pos c15] at H
        have c15b0 : decide (x22_1 < (x6_1.length : Int)) = true := decide_eq_true c15
        clear c15
        replace H := Option.bind_eq_some_iff.mp H
        obtain ⟨t142, A160, H⟩ := H
        have A16 := Aside0.mk A160
        clear A160
        by_cases c17 : t142 = true
        ·subst c17
         have H1 : (if 3 ≤ (((rd_T48 x6_1 x22_1).f0).size : Int) then (spec_SchedstatRead.l0 k1 a0 (x6_1.set (x22_1 : Int).toNat (⟨((rd_T48 x6_1 x22_1).f0).extract 3 ((rd_T48 x6_1 x22_1).f0).size, (rd_T48 x6_1 x22_1).f1, (rd_T48 x6_1 x22_1).f2⟩ : S48)) t138 (t137.length : Int) (wrap64 (x22_1 + 1))) else (none)) = some (r1, r2, r3) := by rw [if_pos rfl] at H; exact H
         clear H
         have H := H1
         clear H1
         by_cases c18 : 3 ≤ (((rd_T48 x6_1 x22_1).f0).size : Int)
         ·rw [if_pos c18] at H
          have c18b0 := eq_true c18
          have c18b1 : decide (3 ≤ (((rd_T48 x6_1 x22_1).f0).size : Int)) = true := decide_eq_true c18
          clear c18
          obtain ⟨y144, hy144⟩ : ∃ y_ : List (S48), y_ = (x6_1.set (x22_1 : Int).toNat (⟨((rd_T48 x6_1 x22_1).f0).extract 3 ((rd_T48 x6_1 x22_1).f0).size, (rd_T48 x6_1 x22_1).f1, (rd_T48 x6_1 x22_1).f2⟩ : S48)) := ⟨_, rfl⟩
          replace H : (spec_SchedstatRead.l0 k1 a0 y144 t138 (t137.length : Int) (wrap64 (x22_1 + 1))) = some (r1, r2, r3) := by first | (rw [hy144]; with_reducible exact H) | (have H2_ := (Option.bind_some _ _).symm.trans H; rw [hy144]; with_reducible exact H2_) | (have H2_ := (Option.bind_some _ _).symm.trans H; with_reducible exact H2_) | with_reducible exact H | (rw [hy144]; exact H) | exact H
          have Ny144 := Aside0.mk hy144
          clear hy144
          have H' := Aside0.mk H
          clear H
          have p141 : 0 ≤ (x22_1 : Int) := of_decide_eq_true (by first | (with_reducible assumption) | assumption)
          have q141 : x22_1 < (x6_1.length : Int) := of_decide_eq_true (by first | (with_reducible assumption) | assumption)
          obtain ⟨ad141, A141_1, c141_1, A141_2, c141_2, e141, hx141_0, hx141_1, hx141_2, hl141_1, hi141_1, hl141_2, hi141_2⟩ := at_T48 (Kd.S_reads' HO_6.out).2.2 x22_1 p141 q141
          cases e141
          obtain ⟨ce141, hce141, hMe141, hcc141⟩ := Kd.S_get HO_6.out z48 x22_1 p141 (by first | exact q141 | exact of_decide_eq_true (by first | (with_reducible assumption) | assumption) | (have e_ := (Kd.S_reads' HO_6.out).1; omega))
          obtain ⟨ve141_1, ve141_2, rfl, ge141_1, ge141_2⟩ := k48_openM hMe141
          have hv141_1 := hcc141 1 _ rfl
          rw [add_field _ _ 1 (by omega)] at hv141_1
          replace hv141_1 := Option.some.inj (hv141_1.symm.trans hx141_1)
          rw [hv141_1] at ge141_1
          have HL141_1 := Aside0.mk (show Kd.R (Kd.int .u64) 31 _ _ _ _ ((rd_T48 x6_1 x22_1).f1) from ge141_1)
          clear hv141_1 ge141_1
          have hv141_2 := hcc141 2 _ rfl
          rw [add_field _ _ 2 (by omega)] at hv141_2
          replace hv141_2 := Option.some.inj (hv141_2.symm.trans hx141_2)
          rw [hv141_2] at ge141_2
          have HL141_2 := Aside0.mk (show Kd.R Kd.string 9 _ _ _ _ ((rd_T48 x6_1 x22_1).f2) from ge141_2)
          clear hv141_2 ge141_2
          clear hcc141 hce141
          have HR141_1 := Aside0.mk hi141_1
          have HC141_1 := Aside0.mk hl141_1
          clear hi141_1 hl141_1
          have HR141_2 := Aside0.mk hi141_2
          have HC141_2 := Aside0.mk hl141_2
          clear hi141_2 hl141_2
          replace p141 := eq_true p141
          replace q141 := eq_true q141
          go_wp2_with (first | ((with_reducible refine gate_callee (f := 73) rfl ?_); refine goesL_ (some 30) rfl rfl Tryz.func73 (by kernel_rfl) rfl #[.string ((rd_T48 x6_1 x22_1).f0), .string (⟨#[99, 112, 117]⟩ : ByteArray)] rfl (by (try simp only [List.map_toArray, List.map_cons, List.map_nil]); first | done | rfl | (simp only [List.length_drop, List.length_take]; rfl)) ?_; (with_reducible refine (spec_Begins.calls ((rd_T48 x6_1 x22_1).f0) (⟨#[99, 112, 117]⟩ : ByteArray) true _ A16.out).mono ?_); rintro e w' ⟨rfl, ⟨nd, rfl⟩⟩; refine ⟨_, rfl, ?_⟩; (try (rw [drewN_self wr]; generalize hq_ : World.drewN wr _ = wr; have n0_ : Aside0 (Kd.R (Kd.int .u64) 31 wr w.heap.size (fun k_ => (w.heap.size ≤ k_) ∧ some k_ ≠ (.slice (some ad141) x6_1.length co12 : Value).ownBlock) (.slice A141_1 ((rd_T48 x6_1 x22_1).f1).length c141_1) ((rd_T48 x6_1 x22_1).f1)) := ⟨by rw [← hq_]; exact (by (with_reducible repeat (first | apply Kd.R_alloc | apply Kd.R_drewN | apply Kd.R_drew)); exact HL141_1.out)⟩; have n1_ : Aside0 (Kd.R Kd.string 9 wr w.heap.size (fun k_ => (w.heap.size ≤ k_) ∧ some k_ ≠ (.slice (some ad141) x6_1.length co12 : Value).ownBlock) (.slice A141_2 ((rd_T48 x6_1 x22_1).f2).length c141_2) ((rd_T48 x6_1 x22_1).f2)) := ⟨by rw [← hq_]; exact (by (with_reducible repeat (first | apply Kd.R_alloc | apply Kd.R_drewN | apply Kd.R_drew)); exact HL141_2.out)⟩; have n2_ : Aside0 (Kd.S k48 48 wr w.heap.size (fun k_ => (w.heap.size ≤ k_)) (.slice (some ad141) x6_1.length co12) x6_1) := ⟨by rw [← hq_]; exact (by (with_reducible repeat (first | apply Kd.S_alloc | apply Kd.S_drewN | apply Kd.S_drew)); exact HO_6.out)⟩; have n3_ : Aside0 (Below w.heap.size w wr) := ⟨by rw [← hq_]; exact belH⟩; have n4_ : Aside0 (Kd.C (Kd.int .u64) wr A141_1 ((rd_T48 x6_1 x22_1).f1).length ((rd_T48 x6_1 x22_1).f1)) := ⟨by rw [← hq_]; exact (by repeat (first | (with_reducible exact HR141_1.out) | (with_reducible refine Kd.C_alloc ?_ _) | (with_reducible refine Kd.C_drewN ?_ _) | (with_reducible refine Kd.C_drew ?_) | exact HR141_1.out))⟩; have n5_ : Aside0 (Kd.C Kd.string wr A141_2 ((rd_T48 x6_1 x22_1).f2).length ((rd_T48 x6_1 x22_1).f2)) := ⟨by rw [← hq_]; exact (by repeat (first | (with_reducible exact HR141_2.out) | (with_reducible refine Kd.C_alloc ?_ _) | (with_reducible refine Kd.C_drewN ?_ _) | (with_reducible refine Kd.C_drew ?_) | exact HR141_2.out))⟩; (try replace hx141_0 := ((congrArg (fun W_ : World => W_.cell? _) hq_).symm.trans (cdw_ _ _ _)).trans hx141_0); (try replace hx141_1 := ((congrArg (fun W_ : World => W_.cell? _) hq_).symm.trans (cdw_ _ _ _)).trans hx141_1); (try replace hx141_2 := ((congrArg (fun W_ : World => W_.cell? _) hq_).symm.trans (cdw_ _ _ _)).trans hx141_2); clear HL141_1 HL141_2 HO_6 HB HR141_1 HR141_2 hq_; have HL141_1 := n0_; have HL141_2 := n1_; have HO_6 := n2_; have HB := n3_; have HR141_1 := n4_; have HR141_2 := n5_; clear n0_ n1_ n2_ n3_ n4_ n5_)); have p143 : 0 ≤ (x22_1 : Int) := of_decide_eq_true (by first | (with_reducible assumption) | assumption); have q143 : x22_1 < (x6_1.length : Int) := of_decide_eq_true (by first | (with_reducible assumption) | assumption); obtain ⟨ad143, A143_1, c143_1, A143_2, c143_2, e143, hx143_0, hx143_1, hx143_2, hl143_1, hi143_1, hl143_2, hi143_2⟩ := at_T48 (Kd.S_reads' HO_6.out).2.2 x22_1 p143 q143; obtain rfl : ad141 = ad143 := (by injection e143); obtain ⟨ce143, hce143, hMe143, hcc143⟩ := Kd.S_get HO_6.out z48 x22_1 p143 (by first | exact q143 | exact of_decide_eq_true (by first | (with_reducible assumption) | assumption) | (have e_ := (Kd.S_reads' HO_6.out).1; omega)); obtain ⟨ve143_1, ve143_2, rfl, ge143_1, ge143_2⟩ := k48_openM hMe143; have hv143_1 := hcc143 1 _ rfl; rw [add_field _ _ 1 (by omega)] at hv143_1; replace hv143_1 := Option.some.inj (hv143_1.symm.trans hx143_1); rw [hv143_1] at ge143_1; have HL143_1 := Aside0.mk (show Kd.R (Kd.int .u64) 31 _ _ _ _ ((rd_T48 x6_1 x22_1).f1) from ge143_1); clear hv143_1 ge143_1; have hv143_2 := hcc143 2 _ rfl; rw [add_field _ _ 2 (by omega)] at hv143_2; replace hv143_2 := Option.some.inj (hv143_2.symm.trans hx143_2); rw [hv143_2] at ge143_2; have HL143_2 := Aside0.mk (show Kd.R Kd.string 9 _ _ _ _ ((rd_T48 x6_1 x22_1).f2) from ge143_2); clear hv143_2 ge143_2; clear hcc143 hce143; have HR143_1 := Aside0.mk hi143_1; have HC143_1 := Aside0.mk hl143_1; clear hi143_1 hl143_1; have HR143_2 := Aside0.mk hi143_2; have HC143_2 := Aside0.mk hl143_2; clear hi143_2 hl143_2; replace p143 := eq_true p143; replace q143 := eq_true q143; have ea_ := Option.some.inj (hx141_1.symm.trans hx143_1); injection ea_ with ea_ en_ ec_; subst ea_; subst ec_; clear en_; have ea_ := Option.some.inj (hx141_2.symm.trans hx143_2); injection ea_ with ea_ en_ ec_; subst ea_; subst ec_; clear en_; have p19 : 0 ≤ (x22_1 : Int) := of_decide_eq_true (by first | (with_reducible assumption) | assumption); have q19 : (x22_1 : Int) < ((x6_1.length : Int) : Int) := of_decide_eq_true (by first | (with_reducible assumption) | assumption); obtain ⟨go19, co19, eo19, gb19, gl19, cl19, HG19⟩ := Kd.S_form HO_6.out (by omega); (first | cases eo19 | (injection eo19 with ea_ en_ ec_; (first | subst ea_ | (injection ea_ with ea_; subst ea_)); subst ec_; clear en_)); have GB19 := Aside0.mk gb19; have GG19 := Aside0.mk HG19; clear gb19 gl19 HG19; (first | simp only [add_plain] at hx141_0 | skip); (first | simp only [add_plain] at hx141_1 | skip); (first | simp only [add_plain] at hx141_2 | skip); (first | simp only [add_plain] at hx143_0 | skip); (first | simp only [add_plain] at hx143_1 | skip); (first | simp only [add_plain] at hx143_2 | skip); obtain ⟨_, ce19, hcl19, hM19, hcc19, hfr19, _, _⟩ := Kd.S_elem HO_6.out z48 (x22_1 : Int) p19 q19; obtain ⟨ve19_1, ve19_2, rfl, ge19_1, ge19_2⟩ := k48_openM hM19; have hx19_0 : wr.cell? ⟨go19, (x22_1 : Int).toNat * 3, none⟩ = some (.string ((rd_T48 x6_1 x22_1).f0)) := hcc19 0 _ rfl; have hx19_1 : wr.cell? ⟨go19, (x22_1 : Int).toNat * 3 + 1, none⟩ = some (ve19_1) := hcc19 1 _ rfl; have hx19_2 : wr.cell? ⟨go19, (x22_1 : Int).toNat * 3 + 2, none⟩ = some (ve19_2) := hcc19 2 _ rfl; have hf19_0 : wr.frozen? ⟨go19, (x22_1 : Int).toNat * 3, none⟩ = false := hfr19 0; have hf19_1 : wr.frozen? ⟨go19, (x22_1 : Int).toNat * 3 + 1, none⟩ = false := hfr19 1; have hf19_2 : wr.frozen? ⟨go19, (x22_1 : Int).toNat * 3 + 2, none⟩ = false := hfr19 2; clear hcl19 hcc19 hfr19 hM19; replace p19 := eq_true p19; replace q19 := eq_true q19; have HX20 := Aside0.mk (show Kd.S k48 48 wr w.heap.size (fun k_ => ((fun k_ => (w.heap.size ≤ k_))) k_ ∧ ¬ ((fun _ => False)) k_) (.slice (some ⟨go19, 0, none⟩) x6_1.length co12) x6_1 from (by (with_reducible repeat (first | apply Kd.S_alloc | apply Kd.S_drewN | apply Kd.S_drew)); exact Kd.S_mono HO_6.out (fun k_ hk => ⟨hk, fun e_ => e_⟩))); obtain ⟨oki20, ce20, hcl20, hM20, hcc20, hfr20, hoki20, hH20⟩ := Kd.S_elem HX20.out z48 (x22_1 : Int) (of_decide_eq_true (by first | (with_reducible assumption) | assumption)) (by have h_ : (x22_1 : Int) < ((x6_1.length : Int) : Int) := of_decide_eq_true (by first | (with_reducible assumption) | assumption); first | exact h_ | (have e_ := (Kd.S_reads' HO_6.out).1; omega) | simpa using h_); obtain ⟨ve20_1, ve20_2, rfl, ge20_1, ge20_2⟩ := k48_openM hM20; have HP20 := Kd.S_seg hH20 (of_decide_eq_true (by first | (with_reducible assumption) | assumption)) (by have h_ : (x22_1 : Int) < ((x6_1.length : Int) : Int) := of_decide_eq_true (by first | (with_reducible assumption) | assumption); first | exact h_ | (have e_ := (Kd.S_reads' HO_6.out).1; omega) | simpa using h_) (seg := [.string (((rd_T48 x6_1 x22_1).f0).extract 3 ((rd_T48 x6_1 x22_1).f0).size)]) (j := 0) (show 1 ≤ 3 from by decide) (x' := (⟨((rd_T48 x6_1 x22_1).f0).extract 3 ((rd_T48 x6_1 x22_1).f0).size, (rd_T48 x6_1 x22_1).f1, (rd_T48 x6_1 x22_1).f2⟩ : S48)) (k48_mkM _ _ _ (⟨((rd_T48 x6_1 x22_1).f0).extract 3 ((rd_T48 x6_1 x22_1).f0).size, (rd_T48 x6_1 x22_1).f1, (rd_T48 x6_1 x22_1).f2⟩ : S48) (Kd.R_mono ge20_1 (fun _ h_ => Or.inl h_)) (Kd.R_mono ge20_2 (fun _ h_ => Or.inl h_))) (fun _ hk => hk) (fun k_ hk_ => hk_.elim); have hx20_0 := hcc20 0 _ rfl; (try simp only [show (k48).sz = 3 from rfl, Nat.mul_one, Nat.add_zero] at hx20_0); have hf20_0 := hfr20 0; (try simp only [show (k48).sz = 3 from rfl, Nat.mul_one, Nat.add_zero] at hf20_0); clear hcl20 hcc20 hfr20 hM20 hoki20 hH20) | ((with_reducible refine gate_store (t := 9) (p := 41) rfl ?_); refine store_event (t := 9) (p := 41) (v := ?vo_w21) (w1 := (wr.setCell ⟨go19, (x22_1 : Int).toNat * 3, none⟩ (.string (((rd_T48 x6_1 x22_1).f0).extract 3 ((rd_T48 x6_1 x22_1).f0).size)))) ?hg ?ho ?hn ?hr ?_; (case ho => rfl); (case hg => rfl); (case hn => rfl); (case hr => first | (go_simp; done) | (go_simp; rfl)); intro w21 hw; have hg : wr.grownBy w21 (some go19) := (by rw [hw]; exact HP20.2); have hp_ : Kd.S k48 48 w21 w.heap.size (fun k_ => (w.heap.size ≤ k_)) (.slice (some ⟨go19, 0, none⟩) x6_1.length co12) y144 := (by rw [hw, Ny144.out]; exact HP20.1); clear HP20; have n0_ := Aside0.mk (hp_); have n1_ := Aside0.mk (Kd.R_after (v := (.slice (some ⟨go19, 0, none⟩) x6_1.length co12)) (v1 := (.slice (some ⟨go19, 0, none⟩) x6_1.length co12)) (ok := (fun k_ => (w.heap.size ≤ k_))) (by (with_reducible repeat (first | apply Kd.R_alloc | apply Kd.R_drewN | apply Kd.R_drew)); exact HL141_1.out) hg (.inl rfl)); have n2_ := Aside0.mk (Kd.R_after (v := (.slice (some ⟨go19, 0, none⟩) x6_1.length co12)) (v1 := (.slice (some ⟨go19, 0, none⟩) x6_1.length co12)) (ok := (fun k_ => (w.heap.size ≤ k_))) (by (with_reducible repeat (first | apply Kd.R_alloc | apply Kd.R_drewN | apply Kd.R_drew)); exact HL141_2.out) hg (.inl rfl)); have n3_ := Aside0.mk (Kd.R_after (v := (.slice (some ⟨go19, 0, none⟩) x6_1.length co12)) (v1 := (.slice (some ⟨go19, 0, none⟩) x6_1.length co12)) (ok := (fun k_ => (w.heap.size ≤ k_))) (by (with_reducible repeat (first | apply Kd.R_alloc | apply Kd.R_drewN | apply Kd.R_drew)); exact HL143_1.out) hg (.inl rfl)); have n4_ := Aside0.mk (Kd.R_after (v := (.slice (some ⟨go19, 0, none⟩) x6_1.length co12)) (v1 := (.slice (some ⟨go19, 0, none⟩) x6_1.length co12)) (ok := (fun k_ => (w.heap.size ≤ k_))) (by (with_reducible repeat (first | apply Kd.R_alloc | apply Kd.R_drewN | apply Kd.R_drew)); exact HL143_2.out) hg (.inl rfl)); have n5_ := Aside0.mk ((by rw [hw]; exact below_set (HB.out) GB19.out : Below w.heap.size w w21)); clear HO_6; clear HL141_1; clear HL141_2; clear HL143_1; clear HL143_2; clear HB; have HO_6 := n0_; have HL141_1 := n1_; have HL141_2 := n2_; have HL143_1 := n3_; have HL143_2 := n4_; have HB := n5_; clear n0_ n1_ n2_ n3_ n4_ n5_; clear hg hw hp_))
          (try simp only [← hl6_1])
          go_roundg k1
          case measure => have := HK1.out; omega
          case rel => exact ⟨(y144), (wrap64 (x22_1 + 1)), (by first | rfl | (simp; done) | (simp [*]; done) | (simp [bne_nil]; done) | (simp [bne_nil, *]; done)), H', ⟨by have := HK1.out; omega⟩, ⟨by (try simp only [hl6_1]); (with_reducible repeat (first | apply Kd.S_alloc | apply Kd.S_drewN | apply Kd.S_drew)); exact HO_6.out⟩, ⟨by repeat (first | (with_reducible first | exact HB.out | apply below_alloc | apply pw_below_drewN | apply below_drew1) | exact HB.out)⟩⟩
         ·rw [if_neg c18] at H
          exact absurd H (by simp)
        ·replace c17 := Bool.eq_false_iff.mpr c17
         subst c17
         have H1 : (some (([] : List (S48)), false, 2)) = some (r1, r2, r3) := by rw [if_neg (show ¬ (false = true) by decide)] at H; exact H
         clear H
         have H := H1
         clear H1
         simp only [Option.some.injEq, Prod.mk.injEq] at H
         obtain ⟨rfl, rfl, rfl⟩ := H
         have p141 : 0 ≤ (x22_1 : Int) := of_decide_eq_true (by first | (with_reducible assumption) | assumption)
         have q141 : x22_1 < (x6_1.length : Int) := of_decide_eq_true (by first | (with_reducible assumption) | assumption)
         obtain ⟨ad141, A141_1, c141_1, A141_2, c141_2, e141, hx141_0, hx141_1, hx141_2, hl141_1, hi141_1, hl141_2, hi141_2⟩ := at_T48 (Kd.S_reads' HO_6.out).2.2 x22_1 p141 q141
         cases e141
         obtain ⟨ce141, hce141, hMe141, hcc141⟩ := Kd.S_get HO_6.out z48 x22_1 p141 (by first | exact q141 | exact of_decide_eq_true (by first | (with_reducible assumption) | assumption) | (have e_ := (Kd.S_reads' HO_6.out).1; omega))
         obtain ⟨ve141_1, ve141_2, rfl, ge141_1, ge141_2⟩ := k48_openM hMe141
         have hv141_1 := hcc141 1 _ rfl
         rw [add_field _ _ 1 (by omega)] at hv141_1
         replace hv141_1 := Option.some.inj (hv141_1.symm.trans hx141_1)
         rw [hv141_1] at ge141_1
         have HL141_1 := Aside0.mk (show Kd.R (Kd.int .u64) 31 _ _ _ _ ((rd_T48 x6_1 x22_1).f1) from ge141_1)
         clear hv141_1 ge141_1
         have hv141_2 := hcc141 2 _ rfl
         rw [add_field _ _ 2 (by omega)] at hv141_2
         replace hv141_2 := Option.some.inj (hv141_2.symm.trans hx141_2)
         rw [hv141_2] at ge141_2
         have HL141_2 := Aside0.mk (show Kd.R Kd.string 9 _ _ _ _ ((rd_T48 x6_1 x22_1).f2) from ge141_2)
         clear hv141_2 ge141_2
         clear hcc141 hce141
         have HR141_1 := Aside0.mk hi141_1
         have HC141_1 := Aside0.mk hl141_1
         clear hi141_1 hl141_1
         have HR141_2 := Aside0.mk hi141_2
         have HC141_2 := Aside0.mk hl141_2
         clear hi141_2 hl141_2
         replace p141 := eq_true p141
         replace q141 := eq_true q141
         go_wp2_with (first | ((with_reducible refine gate_callee (f := 73) rfl ?_); refine goesL_ (some 30) rfl rfl Tryz.func73 (by kernel_rfl) rfl #[.string ((rd_T48 x6_1 x22_1).f0), .string (⟨#[99, 112, 117]⟩ : ByteArray)] rfl (by (try simp only [List.map_toArray, List.map_cons, List.map_nil]); first | done | rfl | (simp only [List.length_drop, List.length_take]; rfl)) ?_; (with_reducible refine (spec_Begins.calls ((rd_T48 x6_1 x22_1).f0) (⟨#[99, 112, 117]⟩ : ByteArray) false _ A16.out).mono ?_); rintro e w' ⟨rfl, ⟨nd, rfl⟩⟩; refine ⟨_, rfl, ?_⟩))
         go_ret3
         exact ⟨_, by first | rfl | (simp [errW_none, errW_some] <;> rfl) | (simp [*, errW_none, errW_some] <;> rfl), Kd.V_nil _ _ _ _ _, by repeat (first | (with_reducible first | exact HB.out | apply below_alloc | apply pw_below_drewN | apply below_drew1) | exact HB.out)⟩
       ·rw [if_neg c15] at H
        exact absurd H (by simp)
      ·rw [if_neg c14] at H
       exact absurd H (by simp)
     ·rw [if_neg c13] at H
      have c13b0 : decide (x22_1 < (t137.length : Int)) = false := decide_eq_false c13
      try have c13b9 : decide (x22_1 < (x6_1.length : Int)) = false := by rw [← hl6_1]; exact c13b0
      clear c13
      replace H := Option.bind_eq_some_iff.mp H
      obtain ⟨⟨t145, t148, t149⟩, A220, H⟩ := H
      have A22 := Aside0.mk A220
      clear A220
      simp only [Option.some.injEq, Prod.mk.injEq] at H
      obtain ⟨rfl, rfl, rfl⟩ := H
      go_wp2_with (first | ((with_reducible refine gate_callee (f := 44) rfl ?_); refine goesL_ (some 46) rfl rfl Tryz.func44 (by kernel_rfl) rfl #[.string a0, .slice Ao12 x6_1.length co12, .bool t138, .func (.func 22) #[] #[], .bool false] rfl (by (try simp only [List.map_toArray, List.map_cons, List.map_nil]); first | done | rfl | (simp only [List.length_drop, List.length_take]; rfl)) ?_; (with_reducible refine (spec_meant__SchedstatPrint.calls k1 a0 (fun k_ => (w.heap.size ≤ k_)) _ _ x6_1 t138  false t145 t148 t149 _ ?side1 A22.out).mono ?_); (case side1 => exact Kd.S_V (HO_6.out)); rintro e w23 ⟨v146, rfl, ho0, hb⟩; refine ⟨_, rfl, ?_⟩; have n0_ := Aside0.mk (Kd.S_below (by (with_reducible repeat (first | apply Kd.S_alloc | apply Kd.S_drewN | apply Kd.S_drew)); exact HO_6.out) hb); have n1_ := Aside0.mk (Kd.V_lower (Kd.V_mono (ok' := fun k_ => (w.heap.size ≤ k_)) ho0 (fun k_ hk_ => Or.elim hk_ (fun hs_ => hs_) (fun hn_ => (Nat.le_trans (below_size belH) hn_)))) (below_size belH)); have n2_ := Aside0.mk (below_step belH hb); clear HO_6; clear HB; have HO_6 := n0_; have HO147 := n1_; have HB := n2_; clear n0_ n1_ n2_; (try clear hb); (try clear hb2); (try clear hk); (try clear hi); (try clear ho0)))
      go_ret3
      exact ⟨_, by first | rfl | (simp [errW_none, errW_some] <;> rfl) | (simp [*, errW_none, errW_some] <;> rfl), by (with_reducible repeat (first | apply Kd.V_alloc | apply Kd.V_drewN | apply Kd.V_drew)); exact HO147.out, by repeat (first | (with_reducible first | exact HB.out | apply below_alloc | apply pw_below_drewN | apply below_drew1) | exact HB.out)⟩
  ·rw [if_neg c6] at H
   exact absurd H (by simp)

/-! ### laws_normal__Schedstat: function 11 -/
mutual
def laws_normal__Schedstat.j0 : Nat → ByteArray → List (S48) → Bool → Option (Bool)
 | 0, _, _, _ => none
 | k + 1, x0, x9, x32 => if x32 = true then ((laws_lives.f).bind fun t155 => (some t155)) else ((spec_SchedstatPrint.f k x9).bind fun bt156 => (if bt156.2 = 1 then (laws_normal__Schedstat.j1 k x0 bt156.1 (decide ((bt156.1.size : Int) > 40000))) else (laws_normal__Schedstat.j1 k x0 bt156.1 true)))
def laws_normal__Schedstat.j1 : Nat → ByteArray → ByteArray → Bool → Option (Bool)
 | 0, _, _, _ => none
 | k + 1, x0, x12, x46 => if x46 = true then ((laws_lives.f).bind fun t158 => (some t158)) else ((impl_Schedstat.f k x0).bind fun bt159 => ((impl_Schedstat.f k x12).bind fun bt171 => (if bt159.2.2.2.2.2.2.2.2 = 0 then (if bt171.2.2.2.2.2.2.2.2 = 0 then ((laws_toNode.f k bt159.1 bt159.2.1 bt159.2.2.1 bt159.2.2.2.1 bt159.2.2.2.2.1 bt159.2.2.2.2.2.1 bt159.2.2.2.2.2.2.1 bt159.2.2.2.2.2.2.2.1).bind fun bt183 => ((laws_toNode.f k bt171.1 bt171.2.1 bt171.2.2.1 bt171.2.2.2.1 bt171.2.2.2.2.1 bt171.2.2.2.2.2.1 bt171.2.2.2.2.2.2.1 bt171.2.2.2.2.2.2.2.1).bind fun bt193 => ((spec_SameNode.f k bt183.1 bt183.2.1 bt183.2.2.1 bt183.2.2.2.1 bt183.2.2.2.2.1 bt183.2.2.2.2.2.1 bt183.2.2.2.2.2.2.1 bt183.2.2.2.2.2.2.2 bt193.1 bt193.2.1 bt193.2.2.1 bt193.2.2.2.1 bt193.2.2.2.2.1 bt193.2.2.2.2.2.1 bt193.2.2.2.2.2.2.1 bt193.2.2.2.2.2.2.2).bind fun t203 => (if t203 = true then ((laws_lives.f).bind fun t204 => (some t204)) else (none))))) else (none)) else (none))))
end
def laws_normal__Schedstat.f (k : Nat) (a0 : ByteArray)    : Option (Bool) := if (a0.size : Int) > 40000 then (some true) else ((spec_SchedstatRead.f k a0).bind fun bt150 => (if bt150.2.2 = 1 then (laws_normal__Schedstat.j0 k a0 bt150.1 (!bt150.2.1)) else (laws_normal__Schedstat.j0 k a0 bt150.1 true)))
theorem laws_normal__Schedstat.mono_l : ∀ k, (∀ y0 y1 y2, LeO (laws_normal__Schedstat.j0 k y0 y1 y2) (laws_normal__Schedstat.j0 (k + 1) y0 y1 y2)) ∧ (∀ y0 y1 y2, LeO (laws_normal__Schedstat.j1 k y0 y1 y2) (laws_normal__Schedstat.j1 (k + 1) y0 y1 y2))
 | 0 => ⟨fun _ _ _ r h => by simp [laws_normal__Schedstat.j0] at h, fun _ _ _ r h => by simp [laws_normal__Schedstat.j1] at h⟩
 | k + 1 => by
  obtain ⟨ih0, ih1⟩ := laws_normal__Schedstat.mono_l k
  refine ⟨?_, ?_⟩
  ·intro y0 y1 y2
   unfold laws_normal__Schedstat.j0
   repeat' first
   | (with_reducible exact ih0 _ _ _)
   | (with_reducible exact ih1 _ _ _)
   | (with_reducible exact impl_Schedstat.mono _ _)
   | (with_reducible exact laws_toNode.mono _ _ _ _ _ _ _ _ _)
   | (with_reducible exact spec_SameNode.mono _ _ _ _ _ _ _ _ _ _ _ _ _ _ _ _ _)
   | (with_reducible exact spec_SchedstatPrint.mono _ _)
   | (with_reducible exact spec_SchedstatRead.mono _ _)
   | (with_reducible exact LeO.refl _)
   | (with_reducible exact LeO.none _)
   | (with_reducible refine LeO.ite ?_ ?_)
   | (with_reducible refine LeO.bind ?_ (fun _ => ?_))
   | exact ih0 _ _ _
   | exact ih1 _ _ _
   | exact impl_Schedstat.mono _ _
   | exact laws_toNode.mono _ _ _ _ _ _ _ _ _
   | exact spec_SameNode.mono _ _ _ _ _ _ _ _ _ _ _ _ _ _ _ _ _
   | exact spec_SchedstatPrint.mono _ _
   | exact spec_SchedstatRead.mono _ _
   | exact LeO.none _
   | refine LeO.ite ?_ ?_
   | refine LeO.bind ?_ (fun _ => ?_)
  ·intro y0 y1 y2
   unfold laws_normal__Schedstat.j1
   repeat' first
   | (with_reducible exact ih0 _ _ _)
   | (with_reducible exact ih1 _ _ _)
   | (with_reducible exact impl_Schedstat.mono _ _)
   | (with_reducible exact laws_toNode.mono _ _ _ _ _ _ _ _ _)
   | (with_reducible exact spec_SameNode.mono _ _ _ _ _ _ _ _ _ _ _ _ _ _ _ _ _)
   | (with_reducible exact spec_SchedstatPrint.mono _ _)
   | (with_reducible exact spec_SchedstatRead.mono _ _)
   | (with_reducible exact LeO.refl _)
   | (with_reducible exact LeO.none _)
   | (with_reducible refine LeO.ite ?_ ?_)
   | (with_reducible refine LeO.bind ?_ (fun _ => ?_))
   | exact ih0 _ _ _
   | exact ih1 _ _ _
   | exact impl_Schedstat.mono _ _
   | exact laws_toNode.mono _ _ _ _ _ _ _ _ _
   | exact spec_SameNode.mono _ _ _ _ _ _ _ _ _ _ _ _ _ _ _ _ _
   | exact spec_SchedstatPrint.mono _ _
   | exact spec_SchedstatRead.mono _ _
   | exact LeO.none _
   | refine LeO.ite ?_ ?_
   | refine LeO.bind ?_ (fun _ => ?_)
theorem laws_normal__Schedstat.mono : ∀ a0 k, LeO (laws_normal__Schedstat.f k a0) (laws_normal__Schedstat.f (k + 1) a0) := by
 intro a0 k
 obtain ⟨ih0, ih1⟩ := laws_normal__Schedstat.mono_l k
 unfold laws_normal__Schedstat.f
 repeat' first
   | (with_reducible exact ih0 _ _ _)
   | (with_reducible exact ih1 _ _ _)
   | (with_reducible exact impl_Schedstat.mono _ _)
   | (with_reducible exact laws_toNode.mono _ _ _ _ _ _ _ _ _)
   | (with_reducible exact spec_SameNode.mono _ _ _ _ _ _ _ _ _ _ _ _ _ _ _ _ _)
   | (with_reducible exact spec_SchedstatPrint.mono _ _)
   | (with_reducible exact spec_SchedstatRead.mono _ _)
   | (with_reducible exact LeO.refl _)
   | (with_reducible exact LeO.none _)
   | (with_reducible refine LeO.ite ?_ ?_)
   | (with_reducible refine LeO.bind ?_ (fun _ => ?_))
   | exact ih0 _ _ _
   | exact ih1 _ _ _
   | exact impl_Schedstat.mono _ _
   | exact laws_toNode.mono _ _ _ _ _ _ _ _ _
   | exact spec_SameNode.mono _ _ _ _ _ _ _ _ _ _ _ _ _ _ _ _ _
   | exact spec_SchedstatPrint.mono _ _
   | exact spec_SchedstatRead.mono _ _
   | exact LeO.none _
   | refine LeO.ite ?_ ?_
   | refine LeO.bind ?_ (fun _ => ?_)
def laws_normal__Schedstat.T11 : Bool × List (List Nat × List Nat) := (true, [([], []), ([0], [0]), ([1], [1]), ([2], [2]), ([3, 2], [2, 3]), ([2, 4], [2, 4]), ([5, 2], [5]), ([6], [6]), ([7, 6, 6], [6, 7]), ([6], [6]), ([9, 8, 6], [6, 9]), ([8, 10, 10, 6], [6, 8, 10]), ([6, 11], [6, 11]), ([12, 11], [12]), ([13, 13], [13]), ([13, 14], [13, 14]), ([15, 14, 0, 1, 2, 3, 4, 5, 6, 7, 8, 9, 10, 11, 12, 13, 14, 15], [15])])
def laws_normal__Schedstat.B11 : List Nat := [0, 1, 3, 7, 15, 31, 63, 127, 255, 127, 1023, 2047, 4095, 8191, 16383, 32767, 65535]
theorem laws_normal__Schedstat.tab11 : rtab .any (opsOf Tryz.f11 11) = laws_normal__Schedstat.T11 := by kernel_rfl
theorem laws_normal__Schedstat.bits11 : waitsOk laws_normal__Schedstat.T11.2 laws_normal__Schedstat.B11 = true := by kernel_rfl
set_option maxHeartbeats 8000000 in
set_option maxRecDepth 100000 in
theorem laws_normal__Schedstat.calls (k : Nat) (a0 : ByteArray)    (r : Bool) (w : World) (h : laws_normal__Schedstat.f k a0 = some r) (hTabs : Tabs w := by first | exact hTabs | exact Tabs.below hTabs (by repeat (first | (with_reducible first | exact HB.out | apply below_alloc | apply pw_below_drewN | apply below_drew1 | refine below_set ?_ (Aside0.out (by assumption))) | exact HB.out))) :
  Calls Tryz.prog 11 #[.string a0, .func (.func 21) #[] #[], .func (.func 22) #[] #[], .func (.func 23) #[] #[]] w fun e w' => e = .returned (.bool r) ∧ Below w.heap.size w w' := by
 have hu35 := Tryz.underlying35
 have HB := Aside0.mk (Below.refl w.heap.size w)
 have H : (if (a0.size : Int) > 40000 then (some true) else ((spec_SchedstatRead.f k a0).bind fun bt150 => (if bt150.2.2 = 1 then (laws_normal__Schedstat.j0 k a0 bt150.1 (!bt150.2.1)) else (laws_normal__Schedstat.j0 k a0 bt150.1 true)))) = some r := h
 clear h
 by_cases c5 : (a0.size : Int) > 40000
 ·rw [if_pos c5] at H
  have c5b0 : decide (40000 < (a0.size : Int)) = true := decide_eq_true c5
  have c5b1 : decide (40000 < a0.size) = true := decide_eq_true (by omega)
  clear c5
  obtain rfl := Option.some.inj H
  go_enter Tryz.func11, Tryz.ntmps11
  go_wp2
  go_ret
  exact ⟨by first | rfl | (simp [errW_none, errW_some] <;> rfl) | (simp [*, errW_none, errW_some] <;> rfl), by repeat (first | (with_reducible first | exact HB.out | apply below_alloc | apply pw_below_drewN | apply below_drew1) | exact HB.out)⟩
 ·rw [if_neg c5] at H
  have c5b0 : decide (40000 < (a0.size : Int)) = false := decide_eq_false c5
  have c5b1 : decide (40000 < a0.size) = false := decide_eq_false (by omega)
  clear c5
  replace H := Option.bind_eq_some_iff.mp H
  obtain ⟨⟨t150, t153, t154⟩, A60, H⟩ := H
  have A6 := Aside0.mk A60
  clear A60
  have HC7 := Aside0.mk H
  clear H
  go_enter Tryz.func11, Tryz.ntmps11
  go_upto_region 4 with (first | (go_at_call 21; (with_reducible refine (spec_SchedstatRead.calls k a0 t150 t153 t154 _ A6.out).mono ?_); rintro e w8 ⟨v151, rfl, ho0, hb⟩; have n0_ := Aside0.mk (Kd.V_lower (Kd.V_mono (ok' := fun k_ => True) ho0 (fun k_ hk_ => trivial)) (below_size belH)); have n1_ := Aside0.mk (below_step belH hb); clear HB; have HO152 := n0_; have HB := n1_; clear n0_ n1_; (try clear hb); (try clear hb2); (try clear hk); (try clear hi); (try clear ho0)))
  (try simp only [Act.put, List.setIfInBounds_toArray, List.set_cons_zero, List.set_cons_succ])
  go_cut [32] (fun v32 wc => ∃ (kq : Nat) (x32_6 : Bool), v32 = .bool x32_6 ∧ Aside0 (laws_normal__Schedstat.j0 kq a0 t150 x32_6 = some r) ∧ Aside0 (kq ≤ k) ∧ Aside0 (Kd.V k48 48 wc w.heap.size (fun _ => True) v151 t150) ∧ Aside0 (Below w.heap.size w wc))
  case first =>
   have H := HC7.out
   clear HC7
   by_cases c9 : t154 = 1
   ·rw [if_pos c9] at H
    have c9b0 : (t154 == 1) = true := beq_iff_eq.mpr c9
    have c9b1 : (t154 != 1) = false := bne_eq_false_iff_eq.mpr c9
    clear c9
    (first | rw [c9b0] | (simp only [i64_w, i32_w]; rw [c9b0]) | skip)
    have H' := Aside0.mk H
    clear H
    go_wp2
    go_meet
    case rel => exact ⟨_, (!t153), (by first | rfl | (simp; done) | (simp [*]; done) | (simp [bne_nil]; done) | (simp [bne_nil, *]; done)), H', ⟨by first | omega | exact Nat.le_refl _⟩, ⟨by (with_reducible repeat (first | apply Kd.V_alloc | apply Kd.V_drewN | apply Kd.V_drew)); exact HO152.out⟩, ⟨by repeat (first | (with_reducible first | exact HB.out | apply below_alloc | apply pw_below_drewN | apply below_drew1) | exact HB.out)⟩⟩
   ·rw [if_neg c9] at H
    have c9b0 : (t154 == 1) = false := beq_eq_false_iff_ne.mpr c9
    have c9b1 : (t154 != 1) = true := bne_iff_ne.mpr c9
    (first | rw [c9b0] | (simp only [i64_w, i32_w]; rw [c9b0]) | skip)
    have H' := Aside0.mk H
    clear H
    go_wp2
    go_meet
    case rel => exact ⟨_, (true), (by first | rfl | (simp; done) | (simp [*]; done) | (simp [bne_nil]; done) | (simp [bne_nil, *]; done)), H', ⟨by first | omega | exact Nat.le_refl _⟩, ⟨by (with_reducible repeat (first | apply Kd.V_alloc | apply Kd.V_drewN | apply Kd.V_drew)); exact HO152.out⟩, ⟨by repeat (first | (with_reducible first | exact HB.out | apply below_alloc | apply pw_below_drewN | apply below_drew1) | exact HB.out)⟩⟩
  case rest =>
   clear HC7
   try clear p2
   try clear c5
   try clear c5b0
   try clear c5b1
   try clear c9
   try clear c9b0
   try clear c9b1
   obtain ⟨kq, x32_6, rfl, HA, HJ6, HO_9, HB⟩ := hcut
   cases kq with
   | zero => exact absurd HA.out (by simp [laws_normal__Schedstat.j0])
   | succ kj6 =>
    have H := HA.out
    clear HA
    simp only [laws_normal__Schedstat.j0] at H
    by_cases c10 : x32_6 = true
    ·subst c10
     have H1 : ((laws_lives.f).bind fun t155 => (some t155)) = some r := by rw [if_pos rfl] at H; exact H
     clear H
     have H := H1
     clear H1
     replace H := Option.bind_eq_some_iff.mp H
     obtain ⟨t155, A110, H⟩ := H
     have A11 := Aside0.mk A110
     clear A110
     obtain rfl := Option.some.inj H
     go_wp2_with (first | ((with_reducible refine gate_callee (f := 36) rfl ?_); refine goesL_ (some 33) rfl rfl Tryz.func36 (by kernel_rfl) rfl #[] rfl (by (try simp only [List.map_toArray, List.map_cons, List.map_nil]); first | done | rfl | (simp only [List.length_drop, List.length_take]; rfl)) ?_; (with_reducible refine (laws_lives.calls  t155 _ A11.out).mono ?_); rintro e w12 ⟨rfl, hb⟩; refine ⟨_, rfl, ?_⟩; have n0_ := Aside0.mk (Kd.V_below (by (with_reducible repeat (first | apply Kd.V_alloc | apply Kd.V_drewN | apply Kd.V_drew)); exact HO_9.out) hb); have n1_ := Aside0.mk (below_step belH hb); clear HO_9; clear HB; have HO_9 := n0_; have HB := n1_; clear n0_ n1_; (try clear hb); (try clear hb2); (try clear hk); (try clear hi)))
     go_ret
     exact ⟨by first | rfl | (simp [errW_none, errW_some] <;> rfl) | (simp [*, errW_none, errW_some] <;> rfl), by repeat (first | (with_reducible first | exact HB.out | apply below_alloc | apply pw_below_drewN | apply below_drew1) | exact HB.out)⟩
    ·replace c10 := Bool.eq_false_iff.mpr c10
     subst c10
     have H1 : ((spec_SchedstatPrint.f kj6 t150).bind fun bt156 => (if bt156.2 = 1 then (laws_normal__Schedstat.j1 kj6 a0 bt156.1 (decide ((bt156.1.size : Int) > 40000))) else (laws_normal__Schedstat.j1 kj6 a0 bt156.1 true))) = some r := by rw [if_neg (show ¬ (false = true) by decide)] at H; exact H
     clear H
     have H := H1
     clear H1
     replace H := Option.bind_eq_some_iff.mp H
     obtain ⟨⟨t156, t157⟩, A130, H⟩ := H
     have A13 := Aside0.mk A130
     clear A130
     have HC14 := Aside0.mk H
     clear H
     obtain ⟨Ao15, co15, eo15⟩ := Kd.V_slice HO_9.out
     subst eo15
     go_upto_region 7 with (first | (go_at_call 22; (with_reducible refine (spec_SchedstatPrint.calls kj6 _ _ t150 t156 t157 _ ?side1 ?side2 A13.out).mono ?_); (case side1 => repeat (first | exact (Kd.V_reads' HO_9.out).2.2 | (with_reducible refine Kd.C_alloc ?_ _) | (with_reducible refine Kd.C_drewN ?_ _) | (with_reducible refine Kd.C_drew ?_))); (case side2 => exact (Kd.V_reads' HO_9.out).2.1); rintro e w16 ⟨rfl, hb⟩; have n0_ := Aside0.mk (Kd.V_below (by (with_reducible repeat (first | apply Kd.V_alloc | apply Kd.V_drewN | apply Kd.V_drew)); exact HO_9.out) hb); have n1_ := Aside0.mk (below_step belH hb); clear HO_9; clear HB; have HO_9 := n0_; have HB := n1_; clear n0_ n1_; (try clear hb); (try clear hb2); (try clear hk); (try clear hi)))
     (try simp only [Act.put, List.setIfInBounds_toArray, List.set_cons_zero, List.set_cons_succ])
     go_cut [46] (fun v46 wc => ∃ (kq : Nat) (x46_13 : Bool), v46 = .bool x46_13 ∧ Aside0 (laws_normal__Schedstat.j1 kq a0 t156 x46_13 = some r) ∧ Aside0 (kq ≤ kj6) ∧ Aside0 (Below w.heap.size w wc))
     case first =>
      have H := HC14.out
      clear HC14
      by_cases c17 : t157 = 1
      ·rw [if_pos c17] at H
       have c17b0 : (t157 == 1) = true := beq_iff_eq.mpr c17
       have c17b1 : (t157 != 1) = false := bne_eq_false_iff_eq.mpr c17
       clear c17
       (first | rw [c17b0] | (simp only [i64_w, i32_w]; rw [c17b0]) | skip)
       have H' := Aside0.mk H
       clear H
       go_wp2
       go_meet
       case rel => exact ⟨_, (decide ((t156.size : Int) > 40000)), (by first | rfl | (simp; done) | (simp [*]; done) | (simp [bne_nil]; done) | (simp [bne_nil, *]; done)), H', ⟨by have := HJ6.out; first | omega | exact Nat.le_refl _⟩, ⟨by repeat (first | (with_reducible first | exact HB.out | apply below_alloc | apply pw_below_drewN | apply below_drew1) | exact HB.out)⟩⟩
      ·rw [if_neg c17] at H
       have c17b0 : (t157 == 1) = false := beq_eq_false_iff_ne.mpr c17
       have c17b1 : (t157 != 1) = true := bne_iff_ne.mpr c17
       (first | rw [c17b0] | (simp only [i64_w, i32_w]; rw [c17b0]) | skip)
       have H' := Aside0.mk H
       clear H
       go_wp2
       go_meet
       case rel => exact ⟨_, (true), (by first | rfl | (simp; done) | (simp [*]; done) | (simp [bne_nil]; done) | (simp [bne_nil, *]; done)), H', ⟨by have := HJ6.out; first | omega | exact Nat.le_refl _⟩, ⟨by repeat (first | (with_reducible first | exact HB.out | apply below_alloc | apply pw_below_drewN | apply below_drew1) | exact HB.out)⟩⟩
     case rest =>
      clear HC14
      try clear c1
      try clear p2
      try clear c3
      try clear c5
      try clear c5b0
      try clear c5b1
      try clear c9
      try clear c9b0
      try clear c9b1
      try clear c10
      try clear c17
      try clear c17b0
      try clear c17b1
      try clear p2
      obtain ⟨kq, x46_13, rfl, HA, HJ13, HB⟩ := hcut
      cases kq with
      | zero => exact absurd HA.out (by simp [laws_normal__Schedstat.j1])
      | succ kj13 =>
       have H := HA.out
       clear HA
       simp only [laws_normal__Schedstat.j1] at H
       by_cases c18 : x46_13 = true
       ·subst c18
        have H1 : ((laws_lives.f).bind fun t158 => (some t158)) = some r := by rw [if_pos rfl] at H; exact H
        clear H
        have H := H1
        clear H1
        replace H := Option.bind_eq_some_iff.mp H
        obtain ⟨t158, A190, H⟩ := H
        have A19 := Aside0.mk A190
        clear A190
        obtain rfl := Option.some.inj H
        go_wp2_with (first | ((with_reducible refine gate_callee (f := 36) rfl ?_); refine goesL_ (some 47) rfl rfl Tryz.func36 (by kernel_rfl) rfl #[] rfl (by (try simp only [List.map_toArray, List.map_cons, List.map_nil]); first | done | rfl | (simp only [List.length_drop, List.length_take]; rfl)) ?_; (with_reducible refine (laws_lives.calls  t158 _ A19.out).mono ?_); rintro e w20 ⟨rfl, hb⟩; refine ⟨_, rfl, ?_⟩; have n0_ := Aside0.mk (below_step belH hb); clear HB; have HB := n0_; clear n0_; (try clear hb); (try clear hb2); (try clear hk); (try clear hi)))
        go_ret
        exact ⟨by first | rfl | (simp [errW_none, errW_some] <;> rfl) | (simp [*, errW_none, errW_some] <;> rfl), by repeat (first | (with_reducible first | exact HB.out | apply below_alloc | apply pw_below_drewN | apply below_drew1) | exact HB.out)⟩
       ·replace c18 := Bool.eq_false_iff.mpr c18
        subst c18
        have H1 : ((impl_Schedstat.f kj13 a0).bind fun bt159 => ((impl_Schedstat.f kj13 t156).bind fun bt171 => (if bt159.2.2.2.2.2.2.2.2 = 0 then (if bt171.2.2.2.2.2.2.2.2 = 0 then ((laws_toNode.f kj13 bt159.1 bt159.2.1 bt159.2.2.1 bt159.2.2.2.1 bt159.2.2.2.2.1 bt159.2.2.2.2.2.1 bt159.2.2.2.2.2.2.1 bt159.2.2.2.2.2.2.2.1).bind fun bt183 => ((laws_toNode.f kj13 bt171.1 bt171.2.1 bt171.2.2.1 bt171.2.2.2.1 bt171.2.2.2.2.1 bt171.2.2.2.2.2.1 bt171.2.2.2.2.2.2.1 bt171.2.2.2.2.2.2.2.1).bind fun bt193 => ((spec_SameNode.f kj13 bt183.1 bt183.2.1 bt183.2.2.1 bt183.2.2.2.1 bt183.2.2.2.2.1 bt183.2.2.2.2.2.1 bt183.2.2.2.2.2.2.1 bt183.2.2.2.2.2.2.2 bt193.1 bt193.2.1 bt193.2.2.1 bt193.2.2.2.1 bt193.2.2.2.2.1 bt193.2.2.2.2.2.1 bt193.2.2.2.2.2.2.1 bt193.2.2.2.2.2.2.2).bind fun t203 => (if t203 = true then ((laws_lives.f).bind fun t204 => (some t204)) else (none))))) else (none)) else (none)))) = some r := by rw [if_neg (show ¬ (false = true) by decide)] at H; exact H
        clear H
        have H := H1
        clear H1
        replace H := Option.bind_eq_some_iff.mp H
        obtain ⟨⟨t159, t160, t161, t162, t163, t164, t165, t166, t169⟩, A210, H⟩ := H
        have A21 := Aside0.mk A210
        clear A210
        replace H := Option.bind_eq_some_iff.mp H
        obtain ⟨⟨t171, t172, t173, t174, t175, t176, t177, t178, t181⟩, A220, H⟩ := H
        have A22 := Aside0.mk A220
        clear A220
        by_cases c23 : t169 = 0
        ·rw [if_pos c23] at H
         have c23b0 : (t169 == 0) = true := beq_iff_eq.mpr c23
         have c23b1 : (t169 != 0) = false := bne_eq_false_iff_eq.mpr c23
         clear c23
         by_cases c24 : t181 = 0
         ·rw [if_pos c24] at H
          have c24b0 : (t181 == 0) = true := beq_iff_eq.mpr c24
          have c24b1 : (t181 != 0) = false := bne_eq_false_iff_eq.mpr c24
          clear c24
          replace H := Option.bind_eq_some_iff.mp H
          obtain ⟨⟨t183, t184, t185, t186, t187, t188, t189, t190⟩, A250, H⟩ := H
          have A25 := Aside0.mk A250
          clear A250
          replace H := Option.bind_eq_some_iff.mp H
          obtain ⟨⟨t193, t194, t195, t196, t197, t198, t199, t200⟩, A260, H⟩ := H
          have A26 := Aside0.mk A260
          clear A260
          replace H := Option.bind_eq_some_iff.mp H
          obtain ⟨t203, A270, H⟩ := H
          have A27 := Aside0.mk A270
          clear A270
          by_cases c28 : t203 = true
          ·subst c28
           have H1 : ((laws_lives.f).bind fun t204 => (some t204)) = some r := by rw [if_pos rfl] at H; exact H
           clear H
           have H := H1
           clear H1
           replace H := Option.bind_eq_some_iff.mp H
           obtain ⟨t204, A290, H⟩ := H
           have A29 := Aside0.mk A290
           clear A290
           obtain rfl := Option.some.inj H
           try go_wp2_with (first | (go_at_call 23; (with_reducible refine (impl_Schedstat.calls kj13 a0 t159 t160 t161 t162 t163 t164 t165 t166 t169 _ A21.out).mono ?_); rintro e w30 ⟨v167, rfl, ho0, hb⟩; have n0_ := Aside0.mk (Kd.R_lower ho0 (below_size belH)); have n1_ := Aside0.mk (below_step belH hb); clear HB; have HO168 := n0_; have HB := n1_; clear n0_ n1_; (try clear hb); (try clear hb2); (try clear hk); (try clear hi); (try clear ho0)) | ((with_reducible refine gate_dst (N := 13) rfl ?_); (try (refine gate_guard (by rfl) ?_; dsimp only)); refine box_event ?hg (N := 13) ?hd (cs := #[.string (⟨#[]⟩ : ByteArray), .int .i64 0, .bool false, .int .i64 0, .int .u64 0, .float .f64 0, .string (⟨#[]⟩ : ByteArray), .slice none 0 0]) (t := 35) ?hr ?_; (case hd => rfl); (case hg => rfl); (case hr => first | (go_simp; done) | (go_simp; rfl)); intro gb170 hg w31 hbox hb; have n0_ := Aside0.mk (Kd.R_below (Kd.R_elderB (by (with_reducible repeat (first | apply Kd.R_alloc | apply Kd.R_drewN | apply Kd.R_drew)); exact HO168.out) gb170 (Nat.le_of_eq hg.symm)) hb); have n1_ := Aside0.mk (below_step belH hb); have n2_ := Aside0.mk (hbox); have n3_ := Aside0.mk ((by rw [hg]; exact (below_size belH) : w.heap.size ≤ gb170)); have n4_ := Aside0.mk ((by rw [hg]; exact (below_size belH) : w.heap.size ≤ gb170)); clear HO168; clear HB; have HO168 := n0_; have HB := n1_; have BK170 := n2_; have GW170 := n3_; have GE170 := n4_; clear n0_ n1_ n2_ n3_ n4_; clear hb hbox hg; obtain ⟨hcz32_0, hcz32_1, hcz32_2, hcz32_3, hcz32_4, hcz32_5, hcz32_6, hcz32_7, hfz32_0, hfz32_1, hfz32_2, hfz32_3, hfz32_4, hfz32_5, hfz32_6, hfz32_7⟩ := rows8 (w := w31) BK170; obtain ⟨Ao33, co33, eo33⟩ := Kd.R_slice HO168.out; subst eo33) | (go_at_call 23; (with_reducible refine (impl_Schedstat.calls kj13 t156 t171 t172 t173 t174 t175 t176 t177 t178 t181 _ A22.out).mono ?_); rintro e w34 ⟨v179, rfl, ho0, hb⟩; have n0_ := Aside0.mk (Kd.R_elder' (by (with_reducible repeat (first | apply Kd.R_alloc | apply Kd.R_drewN | apply Kd.R_drew)); exact (Kd.R_mono (Kd.R_far8 (g := gb170) (Kd.R_mono HO168.out (fun k_ hk => (⟨hk, hk.2⟩ : _ ∧ k_ ≠ gb170))) (fun _ hk => hk.2) (.string t159) (.int .i64 t160) (.bool t161) (.int .i64 t162) (.int .u64 t163) (.float .f64 t164) (.string t165) (.slice Ao33 t166.length co33)) (fun _ h_ => h_.1))) (Kd.R_base ho0) hb); have n1_ := Aside0.mk (Kd.R_lower (Kd.R_newB (Kd.R_new' ho0 (Kd.R_lt (by (with_reducible repeat (first | apply Kd.R_alloc | apply Kd.R_drewN | apply Kd.R_drew)); exact (Kd.R_mono (Kd.R_far8 (g := gb170) (Kd.R_mono HO168.out (fun k_ hk => (⟨hk, hk.2⟩ : _ ∧ k_ ≠ gb170))) (fun _ hk => hk.2) (.string t159) (.int .i64 t160) (.bool t161) (.int .i64 t162) (.int .u64 t163) (.float .f64 t164) (.string t165) (.slice Ao33 t166.length co33)) (fun _ h_ => h_.1))))) (g := gb170) (o := .cells #[.string t159, .int .i64 t160, .bool t161, .int .i64 t162, .int .u64 t163, .float .f64 t164, .string t165, .slice Ao33 t166.length co33] 35 (0, 0)) (by refine bY ?_; exact blk_put8 BK170.out)) (below_size belS)); have n2_ := Aside0.mk (blk_below (g := gb170) (o := .cells #[.string t159, .int .i64 t160, .bool t161, .int .i64 t162, .int .u64 t163, .float .f64 t164, .string t165, .slice Ao33 t166.length co33] 35 (0, 0)) (by refine bY ?_; exact blk_put8 BK170.out) hb); have n3_ := Aside0.mk (below_step belS hb); clear HO168; clear BK170; clear HB; have HO168 := n0_; have HO180 := n1_; have BK170 := n2_; have HB := n3_; clear n0_ n1_ n2_ n3_; (try clear hb); (try clear hb2); (try clear hk); (try clear hi); (try clear ho0)) | ((with_reducible refine gate_dst (N := 15) rfl ?_); (try (refine gate_guard (by rfl) ?_; dsimp only)); refine box_event ?hg (N := 15) ?hd (cs := #[.string (⟨#[]⟩ : ByteArray), .int .i64 0, .bool false, .int .i64 0, .int .u64 0, .float .f64 0, .string (⟨#[]⟩ : ByteArray), .slice none 0 0]) (t := 35) ?hr ?_; (case hd => rfl); (case hg => rfl); (case hr => first | (go_simp; done) | (go_simp; rfl)); intro gb182 hg w35 hbox hb; have n0_ := Aside0.mk (Kd.R_below (Kd.R_elderB (by (with_reducible repeat (first | apply Kd.R_alloc | apply Kd.R_drewN | apply Kd.R_drew)); exact HO168.out) gb182 (Nat.le_of_eq hg.symm)) hb); have n1_ := Aside0.mk (Kd.R_below (Kd.R_elderB (by (with_reducible repeat (first | apply Kd.R_alloc | apply Kd.R_drewN | apply Kd.R_drew)); exact HO180.out) gb182 (Nat.le_of_eq hg.symm)) hb); have n2_ := Aside0.mk (blk_below (g := gb170) (o := .cells #[.string t159, .int .i64 t160, .bool t161, .int .i64 t162, .int .u64 t163, .float .f64 t164, .string t165, .slice Ao33 t166.length co33] 35 (0, 0)) (by refine bY ?_; exact BK170.out) hb); have n3_ := Aside0.mk (below_step belS hb); have n4_ := Aside0.mk (hbox); have n5_ := Aside0.mk ((by rw [hg]; exact (below_size belS) : w.heap.size ≤ gb182)); have n6_ := Aside0.mk ((by rw [hg]; exact (below_size belS) : w.heap.size ≤ gb182)); have n7_ := Aside0.mk ((by rw [hg]; exact Nat.ne_of_lt (blk_lt (g := gb170) (o := .cells #[.string t159, .int .i64 t160, .bool t161, .int .i64 t162, .int .u64 t163, .float .f64 t164, .string t165, .slice Ao33 t166.length co33] 35 (0, 0)) (by refine bY ?_; exact BK170.out)) : gb170 ≠ gb182)); have n8_ := Aside0.mk ((by rw [hg]; exact Nat.ne_of_gt (blk_lt (g := gb170) (o := .cells #[.string t159, .int .i64 t160, .bool t161, .int .i64 t162, .int .u64 t163, .float .f64 t164, .string t165, .slice Ao33 t166.length co33] 35 (0, 0)) (by refine bY ?_; exact BK170.out)) : gb182 ≠ gb170)); clear HO168; clear HO180; clear BK170; clear HB; have HO168 := n0_; have HO180 := n1_; have BK170 := n2_; have HB := n3_; have BK182 := n4_; have GW182 := n5_; have GE182 := n6_; have NB170_182 := n7_; have NB182_170 := n8_; clear n0_ n1_ n2_ n3_ n4_ n5_ n6_ n7_ n8_; clear hb hbox hg; have hnb36 := NB182_170.out; have hnc36 := NB170_182.out; obtain ⟨hcz37_0, hcz37_1, hcz37_2, hcz37_3, hcz37_4, hcz37_5, hcz37_6, hcz37_7, hfz37_0, hfz37_1, hfz37_2, hfz37_3, hfz37_4, hfz37_5, hfz37_6, hfz37_7⟩ := rows8 (w := w35) BK182; obtain ⟨Ao38, co38, eo38⟩ := Kd.R_slice HO180.out; subst eo38))
           have n0_ : Aside0 (Kd.R k35 35 ((((((((w35.setCell ⟨gb182, 0, none⟩ (.string t171)).setCell ⟨gb182, 1, none⟩ (.int .i64 t172)).setCell ⟨gb182, 2, none⟩ (.bool t173)).setCell ⟨gb182, 3, none⟩ (.int .i64 t174)).setCell ⟨gb182, 4, none⟩ (.int .u64 t175)).setCell ⟨gb182, 5, none⟩ (.float .f64 t176)).setCell ⟨gb182, 6, none⟩ (.string t177)).setCell ⟨gb182, 7, none⟩ (.slice Ao38 t178.length co38)) w.heap.size (fun k_ => some k_ ≠ (.slice Ao38 t178.length co38 : Value).ownBlock ∧ k_ ≠ gb170 ∧ k_ ≠ gb182) (.slice Ao33 t166.length co33) t166) := ⟨by (with_reducible repeat (first | apply Kd.R_alloc | apply Kd.R_drewN | apply Kd.R_drew)); exact Kd.R_mono (Kd.R_far8 (g := gb182) (Kd.R_mono HO168.out (fun k_ hk => (⟨hk, hk.2⟩ : _ ∧ k_ ≠ gb182))) (fun _ hk => hk.2) (.string t171) (.int .i64 t172) (.bool t173) (.int .i64 t174) (.int .u64 t175) (.float .f64 t176) (.string t177) (.slice Ao38 t178.length co38)) (fun _ hk => ⟨hk.1.1.2, ⟨hk.1.1.1.2, hk.1.2⟩⟩)⟩
           have n1_ : Aside0 (Kd.R k35 35 ((((((((w35.setCell ⟨gb182, 0, none⟩ (.string t171)).setCell ⟨gb182, 1, none⟩ (.int .i64 t172)).setCell ⟨gb182, 2, none⟩ (.bool t173)).setCell ⟨gb182, 3, none⟩ (.int .i64 t174)).setCell ⟨gb182, 4, none⟩ (.int .u64 t175)).setCell ⟨gb182, 5, none⟩ (.float .f64 t176)).setCell ⟨gb182, 6, none⟩ (.string t177)).setCell ⟨gb182, 7, none⟩ (.slice Ao38 t178.length co38)) w.heap.size (fun k_ => some k_ ≠ (.slice Ao33 t166.length co33 : Value).ownBlock ∧ k_ ≠ gb170 ∧ k_ ≠ gb182) (.slice Ao38 t178.length co38) t178) := ⟨by (with_reducible repeat (first | apply Kd.R_alloc | apply Kd.R_drewN | apply Kd.R_drew)); exact Kd.R_mono (Kd.R_far8 (g := gb182) (Kd.R_mono HO180.out (fun k_ hk => (⟨hk, hk.2⟩ : _ ∧ k_ ≠ gb182))) (fun _ hk => hk.2) (.string t171) (.int .i64 t172) (.bool t173) (.int .i64 t174) (.int .u64 t175) (.float .f64 t176) (.string t177) (.slice Ao38 t178.length co38)) (fun _ hk => ⟨hk.1.1.1.2, ⟨hk.1.1.2, hk.1.2⟩⟩)⟩
           have n2_ : Aside0 (((((((((w35.setCell ⟨gb182, 0, none⟩ (.string t171)).setCell ⟨gb182, 1, none⟩ (.int .i64 t172)).setCell ⟨gb182, 2, none⟩ (.bool t173)).setCell ⟨gb182, 3, none⟩ (.int .i64 t174)).setCell ⟨gb182, 4, none⟩ (.int .u64 t175)).setCell ⟨gb182, 5, none⟩ (.float .f64 t176)).setCell ⟨gb182, 6, none⟩ (.string t177)).setCell ⟨gb182, 7, none⟩ (.slice Ao38 t178.length co38)).heap[gb170]? = some (.cells #[.string t159, .int .i64 t160, .bool t161, .int .i64 t162, .int .u64 t163, .float .f64 t164, .string t165, .slice Ao33 t166.length co33] 35 (0, 0))) := ⟨by refine bY ?_; refine blk_far ?_ NB170_182.out _; refine bY ?_; refine blk_far ?_ NB170_182.out _; refine bY ?_; refine blk_far ?_ NB170_182.out _; refine bY ?_; refine blk_far ?_ NB170_182.out _; refine bY ?_; refine blk_far ?_ NB170_182.out _; refine bY ?_; refine blk_far ?_ NB170_182.out _; refine bY ?_; refine blk_far ?_ NB170_182.out _; refine bY ?_; refine blk_far ?_ NB170_182.out _; refine bY ?_; exact BK170.out⟩
           have n3_ : Aside0 (((((((((w35.setCell ⟨gb182, 0, none⟩ (.string t171)).setCell ⟨gb182, 1, none⟩ (.int .i64 t172)).setCell ⟨gb182, 2, none⟩ (.bool t173)).setCell ⟨gb182, 3, none⟩ (.int .i64 t174)).setCell ⟨gb182, 4, none⟩ (.int .u64 t175)).setCell ⟨gb182, 5, none⟩ (.float .f64 t176)).setCell ⟨gb182, 6, none⟩ (.string t177)).setCell ⟨gb182, 7, none⟩ (.slice Ao38 t178.length co38)).heap[gb182]? = some (.cells #[.string t171, .int .i64 t172, .bool t173, .int .i64 t174, .int .u64 t175, .float .f64 t176, .string t177, .slice Ao38 t178.length co38] 35 (0, 0))) := ⟨by refine bY ?_; exact blk_put8 BK182.out⟩
           have n4_ : Aside0 (Below w.heap.size w ((((((((w35.setCell ⟨gb182, 0, none⟩ (.string t171)).setCell ⟨gb182, 1, none⟩ (.int .i64 t172)).setCell ⟨gb182, 2, none⟩ (.bool t173)).setCell ⟨gb182, 3, none⟩ (.int .i64 t174)).setCell ⟨gb182, 4, none⟩ (.int .u64 t175)).setCell ⟨gb182, 5, none⟩ (.float .f64 t176)).setCell ⟨gb182, 6, none⟩ (.string t177)).setCell ⟨gb182, 7, none⟩ (.slice Ao38 t178.length co38))) := ⟨by repeat (first | (with_reducible first | exact HB.out | apply below_alloc | apply pw_below_drewN | apply below_drew1 | refine below_set ?_ GE170.out | refine below_set ?_ GE182.out) | exact HB.out)⟩
           (try clear HO168)
           (try clear HO180)
           (try clear BK170)
           (try clear BK182)
           (try clear HB)
           generalize ((((((((w35.setCell ⟨gb182, 0, none⟩ (.string t171)).setCell ⟨gb182, 1, none⟩ (.int .i64 t172)).setCell ⟨gb182, 2, none⟩ (.bool t173)).setCell ⟨gb182, 3, none⟩ (.int .i64 t174)).setCell ⟨gb182, 4, none⟩ (.int .u64 t175)).setCell ⟨gb182, 5, none⟩ (.float .f64 t176)).setCell ⟨gb182, 6, none⟩ (.string t177)).setCell ⟨gb182, 7, none⟩ (.slice Ao38 t178.length co38)) = w39 at n0_ n1_ n2_ n3_ n4_ ⊢
           have HO168 := n0_
           have HO180 := n1_
           have BK170 := n2_
           have BK182 := n3_
           have HB := n4_
           clear n0_ n1_ n2_ n3_ n4_
           have n0_ := Aside0.mk (Kd.R_drew HO168.out)
           have n1_ := Aside0.mk (Kd.R_drew HO180.out)
           have n2_ := Aside0.mk (blk_drew BK170.out)
           have n3_ := Aside0.mk (blk_drew BK182.out)
           have n4_ := Aside0.mk (below_drew1 HB.out)
           clear HO168
           clear HO180
           clear BK170
           clear BK182
           clear HB
           have HO168 := n0_
           have HO180 := n1_
           have BK170 := n2_
           have BK182 := n3_
           have HB := n4_
           clear n0_ n1_ n2_ n3_ n4_
           refine start_ (n := 17) (S := fun w' => w'.cell? ⟨gb170, 0, none⟩ = some (.string t159) ∧ w'.cell? ⟨gb170, 1, none⟩ = some (.int .i64 t160) ∧ w'.cell? ⟨gb170, 2, none⟩ = some (.bool t161) ∧ w'.cell? ⟨gb170, 3, none⟩ = some (.int .i64 t162) ∧ w'.cell? ⟨gb170, 4, none⟩ = some (.int .u64 t163) ∧ w'.cell? ⟨gb170, 5, none⟩ = some (.float .f64 t164) ∧ w'.cell? ⟨gb170, 6, none⟩ = some (.string t165) ∧ w'.cell? ⟨gb170, 7, none⟩ = some (.slice Ao33 t166.length co33) ∧ w'.cell? ⟨gb182, 0, none⟩ = some (.string t171) ∧ w'.cell? ⟨gb182, 1, none⟩ = some (.int .i64 t172) ∧ w'.cell? ⟨gb182, 2, none⟩ = some (.bool t173) ∧ w'.cell? ⟨gb182, 3, none⟩ = some (.int .i64 t174) ∧ w'.cell? ⟨gb182, 4, none⟩ = some (.int .u64 t175) ∧ w'.cell? ⟨gb182, 5, none⟩ = some (.float .f64 t176) ∧ w'.cell? ⟨gb182, 6, none⟩ = some (.string t177) ∧ w'.cell? ⟨gb182, 7, none⟩ = some (.slice Ao38 t178.length co38)) (ds := []) (tfA 0 17) (by kernel_rfl) rfl rfl ⟨(blk_cell BK170.out 0).trans rfl, (blk_cell BK170.out 1).trans rfl, (blk_cell BK170.out 2).trans rfl, (blk_cell BK170.out 3).trans rfl, (blk_cell BK170.out 4).trans rfl, (blk_cell BK170.out 5).trans rfl, (blk_cell BK170.out 6).trans rfl, (blk_cell BK170.out 7).trans rfl, (blk_cell BK182.out 0).trans rfl, (blk_cell BK182.out 1).trans rfl, (blk_cell BK182.out 2).trans rfl, (blk_cell BK182.out 3).trans rfl, (blk_cell BK182.out 4).trans rfl, (blk_cell BK182.out 5).trans rfl, (blk_cell BK182.out 6).trans rfl, (blk_cell BK182.out 7).trans rfl⟩ (fun hHeld => ?_); refine with_tabW laws_normal__Schedstat.tab11 laws_normal__Schedstat.bits11 (fun HT_ HW_ => ?_)
           generalize w39.drew = w40 at HO168 HO180 BK170 BK182 HB hHeld ⊢
           refine pure_ (i := 0) (N := some 60) (v := ?_) (a' := ?_) (tfA 1 16) rfl rfl (any_of HT_.out (by kernel_rfl)) (fun _ _ _ h => h) (Or.inl ⟨by rfl, ?_⟩) ?_ ?_
           rotate_left
           ·intro w'
            go_simp
            with_reducible rfl
           rotate_left
           ·simp only [Act.put, sA, s0, s1, i64_w, i32_w]
            rfl
           refine pure_ (i := 1) (N := some 61) (v := ?_) (a' := ?_) (tfA 2 15) rfl rfl (any_of HT_.out (by kernel_rfl)) (fun _ _ _ h => h) (Or.inl ⟨by rfl, ?_⟩) ?_ ?_
           rotate_left
           ·intro w'
            go_simp
            with_reducible rfl
           rotate_left
           ·simp only [Act.put, sA, s0, s1, i64_w, i32_w]
            rfl
           refine pure_ (i := 2) (N := some 62) (v := ?_) (a' := ?_) (tfA 3 14) rfl rfl (any_of HT_.out (by kernel_rfl)) (fun _ _ _ h => h) (Or.inl ⟨by rfl, ?_⟩) ?_ ?_
           rotate_left
           ·intro w'
            go_simp
            with_reducible rfl
           rotate_left
           ·simp only [Act.put, sA, s0, s1, i64_w, i32_w]
            rfl
           refine pure_ (i := 3) (N := some 63) (v := ?_) (a' := ?_) (tfA 4 13) rfl rfl (any_of HT_.out (by kernel_rfl)) (fun _ _ _ h => h) (Or.inl ⟨by rfl, ?_⟩) ?_ ?_
           rotate_left
           ·intro w'
            go_simp
            with_reducible rfl
           rotate_left
           ·simp only [Act.put, sA, s0, s1, i64_w, i32_w]
            rfl
           refine pure_ (i := 4) (N := some 64) (v := ?_) (a' := ?_) (tfA 5 12) rfl rfl (any_of HT_.out (by kernel_rfl)) (fun _ _ _ h => h) (Or.inl ⟨by rfl, ?_⟩) ?_ ?_
           rotate_left
           ·intro w'
            go_simp
            with_reducible rfl
           rotate_left
           ·simp only [Act.put, sA, s0, s1, i64_w, i32_w]
            rfl
           refine pure_ (i := 5) (N := some 65) (v := ?_) (a' := ?_) (tfA 6 11) rfl rfl (any_of HT_.out (by kernel_rfl)) (fun _ _ _ h => h) (Or.inl ⟨by rfl, ?_⟩) ?_ ?_
           rotate_left
           ·intro w'
            go_simp
            with_reducible rfl
           rotate_left
           ·simp only [Act.put, sA, s0, s1, i64_w, i32_w]
            rfl
           refine pure_ (i := 6) (N := some 66) (v := ?_) (a' := ?_) (tfA 7 10) rfl rfl (any_of HT_.out (by kernel_rfl)) (fun _ _ _ h => h) (Or.inl ⟨by rfl, ?_⟩) ?_ ?_
           rotate_left
           ·intro w'
            go_simp
            with_reducible rfl
           rotate_left
           ·simp only [Act.put, sA, s0, s1, i64_w, i32_w]
            rfl
           refine take_ (i := 7) (N := some 67) (v := ?_) (a' := ?_) (tfA 8 9) rfl rfl (take_ofW HT_.out HW_.out (by kernel_rfl)) (fun _ _ _ h => h) (Or.inl ⟨by rfl, ?_⟩) hHeld ?_ ?_
           rotate_left
           ·rintro w' ⟨s0, s1, s2, s3, s4, s5, s6, s7, s8, s9, s10, s11, s12, s13, s14, s15⟩
            go_simp
            with_reducible rfl
           rotate_left
           ·simp only [Act.put, sA, s0, s1, i64_w, i32_w]
            rfl
           refine take_ (i := 9) (N := some 69) (v := ?_) (a' := ?_) (bnA 17 767) rfl rfl (take_ofW HT_.out HW_.out (by kernel_rfl)) (fun _ _ _ h => h) (Or.inl ⟨by rfl, ?_⟩) hHeld ?_ ?_
           rotate_left
           ·rintro w' ⟨s0, s1, s2, s3, s4, s5, s6, s7, s8, s9, s10, s11, s12, s13, s14, s15⟩
            go_simp
            with_reducible rfl
           rotate_left
           ·simp only [Act.put, sA, s0, s1, i64_w, i32_w]
            rfl
           refine one_ (i := 8) (N := some 68) (tfA 10 7) rfl rfl (one_of HT_.out (by kernel_rfl)) (by decide) (fun K hK => ?_)
           refine goes_ Tryz.func38 (by kernel_rfl) rfl #[.agg #[.string t159, .int .i64 t160, .bool t161, .int .i64 t162, .int .u64 t163, .float .f64 t164, .string t165, .slice Ao33 t166.length co33]] (by rfl) rfl rfl (by (try simp only [List.map_toArray, List.map_cons, List.map_nil]); first | done | rfl | (simp only [List.length_drop, List.length_take]; rfl)) ?_
           with_reducible refine (laws_toNode.calls kj13 t159 t160 t161 t162 t163 t164 t165 _ _ t166 t183 t184 t185 t186 t187 t188 t189 t190 _ ?side1 ?side2 A25.out).mono ?_
           (case side1 => repeat (first | exact (Kd.R_reads' HO168.out).2.2 | (with_reducible refine Kd.C_alloc ?_ _) | (with_reducible refine Kd.C_drewN ?_ _) | (with_reducible refine Kd.C_drew ?_)))
           (case side2 => exact (Kd.R_reads' HO168.out).2.1)
           rintro e w41 ⟨v191, rfl, ho0, hb⟩
           refine ⟨_, rfl, ?_⟩
           have n0_ := Aside0.mk (Kd.R_below (by (with_reducible repeat (first | apply Kd.R_alloc | apply Kd.R_drewN | apply Kd.R_drew)); exact HO168.out) hb)
           have n1_ := Aside0.mk (Kd.R_below (by (with_reducible repeat (first | apply Kd.R_alloc | apply Kd.R_drewN | apply Kd.R_drew)); exact HO180.out) hb)
           have n2_ := Aside0.mk (Kd.R_lower ho0 (below_size belS))
           have n3_ := Aside0.mk (blk_below (g := gb170) (o := .cells #[.string t159, .int .i64 t160, .bool t161, .int .i64 t162, .int .u64 t163, .float .f64 t164, .string t165, .slice Ao33 t166.length co33] 35 (0, 0)) (by refine bY ?_; exact BK170.out) hb)
           have n4_ := Aside0.mk (blk_below (g := gb182) (o := .cells #[.string t171, .int .i64 t172, .bool t173, .int .i64 t174, .int .u64 t175, .float .f64 t176, .string t177, .slice Ao38 t178.length co38] 35 (0, 0)) (by refine bY ?_; exact BK182.out) hb)
           have n5_ := Aside0.mk (below_step belS hb)
           clear HO168
           clear HO180
           clear BK170
           clear BK182
           clear HB
           have HO168 := n0_
           have HO180 := n1_
           have HO192 := n2_
           have BK170 := n3_
           have BK182 := n4_
           have HB := n5_
           clear n0_ n1_ n2_ n3_ n4_ n5_
           (try clear hb)
           (try clear hb2)
           (try clear hk)
           (try clear hi)
           (try clear ho0)
           refine hK.out _ _ ⟨(blk_cell BK170.out 0).trans rfl, (blk_cell BK170.out 1).trans rfl, (blk_cell BK170.out 2).trans rfl, (blk_cell BK170.out 3).trans rfl, (blk_cell BK170.out 4).trans rfl, (blk_cell BK170.out 5).trans rfl, (blk_cell BK170.out 6).trans rfl, (blk_cell BK170.out 7).trans rfl, (blk_cell BK182.out 0).trans rfl, (blk_cell BK182.out 1).trans rfl, (blk_cell BK182.out 2).trans rfl, (blk_cell BK182.out 3).trans rfl, (blk_cell BK182.out 4).trans rfl, (blk_cell BK182.out 5).trans rfl, (blk_cell BK182.out 6).trans rfl, (blk_cell BK182.out 7).trans rfl⟩ (fun hHeld => ?_)
           clear hK K
           refine norm_ (a' := ?_) ?_ ?_
           rotate_left
           ·show Act.put _ (some 68) _ = _
            simp only [Act.put, sA, s0, s1, i64_w, i32_w]
            rfl
           refine one_ (i := 10) (N := some 70) (tfA 11 6) rfl rfl (one_of HT_.out (by kernel_rfl)) (by decide) (fun K hK => ?_)
           refine goes_ Tryz.func38 (by kernel_rfl) rfl #[.agg #[.string t171, .int .i64 t172, .bool t173, .int .i64 t174, .int .u64 t175, .float .f64 t176, .string t177, .slice Ao38 t178.length co38]] (by rfl) rfl rfl (by (try simp only [List.map_toArray, List.map_cons, List.map_nil]); first | done | rfl | (simp only [List.length_drop, List.length_take]; rfl)) ?_
           with_reducible refine (laws_toNode.calls kj13 t171 t172 t173 t174 t175 t176 t177 _ _ t178 t193 t194 t195 t196 t197 t198 t199 t200 _ ?side1 ?side2 A26.out).mono ?_
           (case side1 => repeat (first | exact (Kd.R_reads' HO180.out).2.2 | (with_reducible refine Kd.C_alloc ?_ _) | (with_reducible refine Kd.C_drewN ?_ _) | (with_reducible refine Kd.C_drew ?_)))
           (case side2 => exact (Kd.R_reads' HO180.out).2.1)
           rintro e w42 ⟨v201, rfl, ho0, hb⟩
           refine ⟨_, rfl, ?_⟩
           have n0_ := Aside0.mk (Kd.R_below (by (with_reducible repeat (first | apply Kd.R_alloc | apply Kd.R_drewN | apply Kd.R_drew)); exact HO168.out) hb)
           have n1_ := Aside0.mk (Kd.R_below (by (with_reducible repeat (first | apply Kd.R_alloc | apply Kd.R_drewN | apply Kd.R_drew)); exact HO180.out) hb)
           have n2_ := Aside0.mk (Kd.R_elder' (by (with_reducible repeat (first | apply Kd.R_alloc | apply Kd.R_drewN | apply Kd.R_drew)); exact HO192.out) (Kd.R_base ho0) hb)
           have n3_ := Aside0.mk (Kd.R_lower (Kd.R_new' ho0 (Kd.R_lt (by (with_reducible repeat (first | apply Kd.R_alloc | apply Kd.R_drewN | apply Kd.R_drew)); exact HO192.out))) (below_size belS))
           have n4_ := Aside0.mk (blk_below (g := gb170) (o := .cells #[.string t159, .int .i64 t160, .bool t161, .int .i64 t162, .int .u64 t163, .float .f64 t164, .string t165, .slice Ao33 t166.length co33] 35 (0, 0)) (by refine bY ?_; exact BK170.out) hb)
           have n5_ := Aside0.mk (blk_below (g := gb182) (o := .cells #[.string t171, .int .i64 t172, .bool t173, .int .i64 t174, .int .u64 t175, .float .f64 t176, .string t177, .slice Ao38 t178.length co38] 35 (0, 0)) (by refine bY ?_; exact BK182.out) hb)
           have n6_ := Aside0.mk (below_step belS hb)
           clear HO168
           clear HO180
           clear HO192
           clear BK170
           clear BK182
           clear HB
           have HO168 := n0_
           have HO180 := n1_
           have HO192 := n2_
           have HO202 := n3_
           have BK170 := n4_
           have BK182 := n5_
           have HB := n6_
           clear n0_ n1_ n2_ n3_ n4_ n5_ n6_
           (try clear hb)
           (try clear hb2)
           (try clear hk)
           (try clear hi)
           (try clear ho0)
           obtain ⟨Ao43, co43, eo43⟩ := Kd.R_slice HO192.out
           (first | subst eo43 | (injection eo43 with f1_ f2_ f3_; have f4_ := f1_.symm; have f5_ := f3_.symm; clear f1_ f2_ f3_; subst f4_; subst f5_))
           obtain ⟨Ao44, co44, eo44⟩ := Kd.R_slice HO202.out
           (first | subst eo44 | (injection eo44 with f1_ f2_ f3_; have f4_ := f1_.symm; have f5_ := f3_.symm; clear f1_ f2_ f3_; subst f4_; subst f5_))
           refine hK.out _ _ ⟨(blk_cell BK170.out 0).trans rfl, (blk_cell BK170.out 1).trans rfl, (blk_cell BK170.out 2).trans rfl, (blk_cell BK170.out 3).trans rfl, (blk_cell BK170.out 4).trans rfl, (blk_cell BK170.out 5).trans rfl, (blk_cell BK170.out 6).trans rfl, (blk_cell BK170.out 7).trans rfl, (blk_cell BK182.out 0).trans rfl, (blk_cell BK182.out 1).trans rfl, (blk_cell BK182.out 2).trans rfl, (blk_cell BK182.out 3).trans rfl, (blk_cell BK182.out 4).trans rfl, (blk_cell BK182.out 5).trans rfl, (blk_cell BK182.out 6).trans rfl, (blk_cell BK182.out 7).trans rfl⟩ (fun hHeld => ?_)
           clear hK K
           refine norm_ (a' := ?_) ?_ ?_
           rotate_left
           ·show Act.put _ (some 70) _ = _
            simp only [Act.put, sA, s0, s1, i64_w, i32_w]
            rfl
           refine one_ (i := 11) (N := some 71) (tfA 12 5) rfl rfl (one_of HT_.out (by kernel_rfl)) (by decide) (fun K hK => ?_)
           refine goes_ Tryz.func37 (by kernel_rfl) rfl #[.agg #[.string t183, .int .i64 t184, .bool t185, .int .i64 t186, .int .u64 t187, .float .f64 t188, .string t189, .slice Ao43 t190.length co43], .agg #[.string t193, .int .i64 t194, .bool t195, .int .i64 t196, .int .u64 t197, .float .f64 t198, .string t199, .slice Ao44 t200.length co44]] (by rfl) rfl rfl (by (try simp only [List.map_toArray, List.map_cons, List.map_nil]); first | done | rfl | (simp only [List.length_drop, List.length_take]; rfl)) ?_
           with_reducible refine (spec_SameNode.calls kj13 t183 t184 t185 t186 t187 t188 t189 _ _ t190 t193 t194 t195 t196 t197 t198 t199 _ _ t200 true _ ?side1 ?side2 ?side3 ?side4 A27.out).mono ?_
           (case side1 => repeat (first | exact (Kd.R_reads' HO192.out).2.2 | (with_reducible refine Kd.C_alloc ?_ _) | (with_reducible refine Kd.C_drewN ?_ _) | (with_reducible refine Kd.C_drew ?_)))
           (case side2 => exact (Kd.R_reads' HO192.out).2.1)
           (case side3 => repeat (first | exact (Kd.R_reads' HO202.out).2.2 | (with_reducible refine Kd.C_alloc ?_ _) | (with_reducible refine Kd.C_drewN ?_ _) | (with_reducible refine Kd.C_drew ?_)))
           (case side4 => exact (Kd.R_reads' HO202.out).2.1)
           rintro e w45 ⟨rfl, hb⟩
           refine ⟨_, rfl, ?_⟩
           have n0_ := Aside0.mk (Kd.R_below (by (with_reducible repeat (first | apply Kd.R_alloc | apply Kd.R_drewN | apply Kd.R_drew)); exact HO168.out) hb)
           have n1_ := Aside0.mk (Kd.R_below (by (with_reducible repeat (first | apply Kd.R_alloc | apply Kd.R_drewN | apply Kd.R_drew)); exact HO180.out) hb)
           have n2_ := Aside0.mk (Kd.R_below (by (with_reducible repeat (first | apply Kd.R_alloc | apply Kd.R_drewN | apply Kd.R_drew)); exact HO192.out) hb)
           have n3_ := Aside0.mk (Kd.R_below (by (with_reducible repeat (first | apply Kd.R_alloc | apply Kd.R_drewN | apply Kd.R_drew)); exact HO202.out) hb)
           have n4_ := Aside0.mk (blk_below (g := gb170) (o := .cells #[.string t159, .int .i64 t160, .bool t161, .int .i64 t162, .int .u64 t163, .float .f64 t164, .string t165, .slice Ao33 t166.length co33] 35 (0, 0)) (by refine bY ?_; exact BK170.out) hb)
           have n5_ := Aside0.mk (blk_below (g := gb182) (o := .cells #[.string t171, .int .i64 t172, .bool t173, .int .i64 t174, .int .u64 t175, .float .f64 t176, .string t177, .slice Ao38 t178.length co38] 35 (0, 0)) (by refine bY ?_; exact BK182.out) hb)
           have n6_ := Aside0.mk (below_step belS hb)
           clear HO168
           clear HO180
           clear HO192
           clear HO202
           clear BK170
           clear BK182
           clear HB
           have HO168 := n0_
           have HO180 := n1_
           have HO192 := n2_
           have HO202 := n3_
           have BK170 := n4_
           have BK182 := n5_
           have HB := n6_
           clear n0_ n1_ n2_ n3_ n4_ n5_ n6_
           (try clear hb)
           (try clear hb2)
           (try clear hk)
           (try clear hi)
           refine hK.out _ _ ⟨(blk_cell BK170.out 0).trans rfl, (blk_cell BK170.out 1).trans rfl, (blk_cell BK170.out 2).trans rfl, (blk_cell BK170.out 3).trans rfl, (blk_cell BK170.out 4).trans rfl, (blk_cell BK170.out 5).trans rfl, (blk_cell BK170.out 6).trans rfl, (blk_cell BK170.out 7).trans rfl, (blk_cell BK182.out 0).trans rfl, (blk_cell BK182.out 1).trans rfl, (blk_cell BK182.out 2).trans rfl, (blk_cell BK182.out 3).trans rfl, (blk_cell BK182.out 4).trans rfl, (blk_cell BK182.out 5).trans rfl, (blk_cell BK182.out 6).trans rfl, (blk_cell BK182.out 7).trans rfl⟩ (fun hHeld => ?_)
           clear hK K
           refine norm_ (a' := ?_) ?_ ?_
           rotate_left
           ·show Act.put _ (some 71) _ = _
            simp only [Act.put, sA, s0, s1, i64_w, i32_w]
            rfl
           refine pure_ (i := 12) (N := some 72) (v := ?_) (a' := ?_) (tfA 13 4) rfl rfl (any_of HT_.out (by kernel_rfl)) (fun _ _ _ h => h) (Or.inl ⟨by rfl, ?_⟩) ?_ ?_
           rotate_left
           ·intro w'
            go_simp
            with_reducible rfl
           rotate_left
           ·simp only [Act.put, sA, s0, s1, i64_w, i32_w]
            rfl
           refine pure_ (i := 13) (N := some 73) (v := ?_) (a' := ?_) (tfA 14 3) rfl rfl (any_of HT_.out (by kernel_rfl)) (fun _ _ _ h => h) (Or.inl ⟨by rfl, ?_⟩) ?_ ?_
           rotate_left
           ·intro w'
            go_simp
            with_reducible rfl
           rotate_left
           ·simp only [Act.put, sA, s0, s1, i64_w, i32_w]
            rfl
           refine one_ (i := 14) (N := some 74) (tfA 15 2) rfl rfl (one_of HT_.out (by kernel_rfl)) (by decide) (fun K hK => ?_)
           refine goes_ Tryz.func36 (by kernel_rfl) rfl #[] (by rfl) rfl rfl (by (try simp only [List.map_toArray, List.map_cons, List.map_nil]); first | done | rfl | (simp only [List.length_drop, List.length_take]; rfl)) ?_
           with_reducible refine (laws_lives.calls  t204 _ A29.out).mono ?_
           rintro e w46 ⟨rfl, hb⟩
           refine ⟨_, rfl, ?_⟩
           have n0_ := Aside0.mk (Kd.R_below (by (with_reducible repeat (first | apply Kd.R_alloc | apply Kd.R_drewN | apply Kd.R_drew)); exact HO168.out) hb)
           have n1_ := Aside0.mk (Kd.R_below (by (with_reducible repeat (first | apply Kd.R_alloc | apply Kd.R_drewN | apply Kd.R_drew)); exact HO180.out) hb)
           have n2_ := Aside0.mk (Kd.R_below (by (with_reducible repeat (first | apply Kd.R_alloc | apply Kd.R_drewN | apply Kd.R_drew)); exact HO192.out) hb)
           have n3_ := Aside0.mk (Kd.R_below (by (with_reducible repeat (first | apply Kd.R_alloc | apply Kd.R_drewN | apply Kd.R_drew)); exact HO202.out) hb)
           have n4_ := Aside0.mk (blk_below (g := gb170) (o := .cells #[.string t159, .int .i64 t160, .bool t161, .int .i64 t162, .int .u64 t163, .float .f64 t164, .string t165, .slice Ao33 t166.length co33] 35 (0, 0)) (by refine bY ?_; exact BK170.out) hb)
           have n5_ := Aside0.mk (blk_below (g := gb182) (o := .cells #[.string t171, .int .i64 t172, .bool t173, .int .i64 t174, .int .u64 t175, .float .f64 t176, .string t177, .slice Ao38 t178.length co38] 35 (0, 0)) (by refine bY ?_; exact BK182.out) hb)
           have n6_ := Aside0.mk (below_step belS hb)
           clear HO168
           clear HO180
           clear HO192
           clear HO202
           clear BK170
           clear BK182
           clear HB
           have HO168 := n0_
           have HO180 := n1_
           have HO192 := n2_
           have HO202 := n3_
           have BK170 := n4_
           have BK182 := n5_
           have HB := n6_
           clear n0_ n1_ n2_ n3_ n4_ n5_ n6_
           (try clear hb)
           (try clear hb2)
           (try clear hk)
           (try clear hi)
           refine hK.out _ _ ⟨(blk_cell BK170.out 0).trans rfl, (blk_cell BK170.out 1).trans rfl, (blk_cell BK170.out 2).trans rfl, (blk_cell BK170.out 3).trans rfl, (blk_cell BK170.out 4).trans rfl, (blk_cell BK170.out 5).trans rfl, (blk_cell BK170.out 6).trans rfl, (blk_cell BK170.out 7).trans rfl, (blk_cell BK182.out 0).trans rfl, (blk_cell BK182.out 1).trans rfl, (blk_cell BK182.out 2).trans rfl, (blk_cell BK182.out 3).trans rfl, (blk_cell BK182.out 4).trans rfl, (blk_cell BK182.out 5).trans rfl, (blk_cell BK182.out 6).trans rfl, (blk_cell BK182.out 7).trans rfl⟩ (fun hHeld => ?_)
           clear hK K
           refine norm_ (a' := ?_) ?_ ?_
           rotate_left
           ·show Act.put _ (some 74) _ = _
            simp only [Act.put, sA, s0, s1, i64_w, i32_w]
            rfl
           refine pure_ (i := 15) (N := some 75) (v := ?_) (a' := ?_) (tfA 16 1) rfl rfl (any_of HT_.out (by kernel_rfl)) (fun _ _ _ h => h) (Or.inl ⟨by rfl, ?_⟩) ?_ ?_
           rotate_left
           ·intro w'
            go_simp
            with_reducible rfl
           rotate_left
           ·simp only [Act.put, sA, s0, s1, i64_w, i32_w]
            rfl
           refine pure_ (i := 16) (N := some 8) (v := ?_) (a' := ?_) (tfA 17 0) rfl rfl (any_of HT_.out (by kernel_rfl)) (fun _ _ _ h => h) (Or.inl ⟨by rfl, ?_⟩) ?_ ?_
           rotate_left
           ·intro w'
            go_simp
            with_reducible rfl
           rotate_left
           ·simp only [Act.put, sA, s0, s1, i64_w, i32_w]
            rfl
           refine done_ (done_of HT_.out (by kernel_rfl)) ?_
           try go_wp2
           go_ret
           exact ⟨by first | rfl | (simp [errW_none, errW_some] <;> rfl) | (simp [*, errW_none, errW_some] <;> rfl), by repeat (first | (with_reducible first | exact HB.out | apply below_alloc | apply pw_below_drewN | apply below_drew1 | refine below_set ?_ GE170.out | refine below_set ?_ GE182.out) | exact HB.out)⟩
          ·replace c28 := Bool.eq_false_iff.mpr c28
           subst c28
           have H1 : (none) = some r := by rw [if_neg (show ¬ (false = true) by decide)] at H; exact H
           clear H
           have H := H1
           clear H1
           exact absurd H (by simp)
         ·rw [if_neg c24] at H
          exact absurd H (by simp)
        ·rw [if_neg c23] at H
         exact absurd H (by simp)

end Go.Proofs.YtdmpbaanonafbaaGreatDoor.D
