-- written by a program of this session (wip/tools/pp.py)
import Derived.Test.YtdmpbaanonafbaaGreatDoorL1
import Derived.Test.YtdmpbaanonafbaaGreatDoorL2
namespace Go.Proofs.YtdmpbaanonafbaaGreatDoor.L
open Go.RowKit Go.Proofs.YtdmpbaanonafbaaGreatDoorW.PrintWords Go.Proofs.YtdmpbaanonafbaaGreatDoorW.PrintLast Go.Proofs.YtdmpbaanonafbaaGreatDoor.Flt Go.Proofs.YtdmpbaanonafbaaGreatDoor.GivZ Go.Proofs.YtdmpbaanonafbaaGreatDoorW.PrintMore
attribute [local go_sem] max2_int min2_int max_two min_two max_three min_three max_four min_four   -- for this text's walks alone
set_option linter.unusedVariables false
set_option linter.unusedSimpArgs false

/-! ### spec_numbers: function 66 -/
def spec_numbers.l0 : Nat → ByteArray → List ByteArray → List Int → Int → Int → Option (ByteArray)
 | 0, _, _, _, _, _ => none
 | k + 1, x1, x5, x8, x9, x10 => if x10 < x9 then (if 0 ≤ x10 then (if x10 < (x8.length : Int) then ((spec_Text.f k (rd x8 x10)).bind fun t137 => (if x5.length < 8796093022208 then (spec_numbers.l0 k x1 (x5 ++ [t137]) x8 x9 (wrap64 (x10 + 1))) else (none))) else (none)) else (none)) else ((spec_Join.f k x5 x1).bind fun t141 => (some t141))
def spec_numbers.f (k : Nat) (l0 : List Int) (a1 : ByteArray) : Option (ByteArray) := spec_numbers.l0 k a1 ([] : List ByteArray) l0 (l0.length : Int) 0
theorem spec_numbers.mono_l : ∀ k, (∀ y0 y1 y2 y3 y4, LeO (spec_numbers.l0 k y0 y1 y2 y3 y4) (spec_numbers.l0 (k + 1) y0 y1 y2 y3 y4))
 | 0 => fun _ _ _ _ _ r h => by simp [spec_numbers.l0] at h
 | k + 1 => by
  have ih0 := spec_numbers.mono_l k
  ·intro y0 y1 y2 y3 y4
   unfold spec_numbers.l0
   repeat' first
   | (with_reducible exact ih0 _ _ _ _ _)
   | (with_reducible exact spec_Join.mono _ _ _)
   | (with_reducible exact spec_Text.mono _ _)
   | (with_reducible exact LeO.refl _)
   | (with_reducible exact LeO.none _)
   | (with_reducible refine LeO.ite ?_ ?_)
   | (with_reducible refine LeO.bind ?_ (fun _ => ?_))
   | exact ih0 _ _ _ _ _
   | exact spec_Join.mono _ _ _
   | exact spec_Text.mono _ _
   | exact LeO.none _
   | refine LeO.ite ?_ ?_
   | refine LeO.bind ?_ (fun _ => ?_)
theorem spec_numbers.mono : ∀ a0 a1 k, LeO (spec_numbers.f k a0 a1) (spec_numbers.f (k + 1) a0 a1) := by
 intro a0 a1 k
 have ih0 := spec_numbers.mono_l k
 unfold spec_numbers.f
 repeat' first
   | (with_reducible exact ih0 _ _ _ _ _)
   | (with_reducible exact spec_Join.mono _ _ _)
   | (with_reducible exact spec_Text.mono _ _)
   | (with_reducible exact LeO.refl _)
   | (with_reducible exact LeO.none _)
   | (with_reducible refine LeO.ite ?_ ?_)
   | (with_reducible refine LeO.bind ?_ (fun _ => ?_))
   | exact ih0 _ _ _ _ _
   | exact spec_Join.mono _ _ _
   | exact spec_Text.mono _ _
   | exact LeO.none _
   | refine LeO.ite ?_ ?_
   | refine LeO.bind ?_ (fun _ => ?_)
set_option maxHeartbeats 8000000 in
set_option maxRecDepth 100000 in
theorem spec_numbers.calls (k : Nat) (A0 : Option Addr) (c0 : Nat) (l0 : List Int) (a1 : ByteArray) (r : ByteArray) (w : World) (hr0 : Kd.C (Kd.int .u64) w A0 l0.length l0) (hc0 : l0.length ≤ c0) (h : spec_numbers.f k l0 a1 = some r) :
  Calls Tryz.prog 66 #[.slice A0 l0.length c0, .string a1] w fun e w' => e = .returned (.string r) ∧ Below w.heap.size w w' := by
 have HR0 := Aside0.mk hr0
 have HC0 := Aside0.mk hc0
 clear hr0 hc0
 have HB := Aside0.mk (Below.refl w.heap.size w)
 have H : (spec_numbers.l0 k a1 ([] : List ByteArray) l0 (l0.length : Int) 0) = some r := h
 clear h
 have H' := Aside0.mk H
 clear H
 go_enter Tryz.func66, Tryz.ntmps66
 go_wp2
 go_loopg [5, 10] k (fun kq v5 v10 w' => ∃ (x5_1 : List ByteArray) (x10_1 : Int), v10 = .int .i64 x10_1 ∧ Aside0 (spec_numbers.l0 kq a1 x5_1 l0 (l0.length : Int) x10_1 = some r) ∧ Aside0 (kq ≤ k) ∧ Aside0 (Kd.R Kd.string 9 w' w.heap.size (fun _ => True) v5 x5_1) ∧ Aside0 (Below w.heap.size w w'))
 case atStart => exact ⟨(([] : List ByteArray)), (0), (by first | rfl | (simp; done) | (simp [*]; done) | (simp [bne_nil]; done) | (simp [bne_nil, *]; done)), H', ⟨Nat.le_refl _⟩, ⟨by first | exact Kd.R_nil _ _ _ _ _ | exact Kd.N_nil _ _ _ _ _ | exact Kd.V_nil _ _ _ _ _ | exact Kd.Q_nil _ _ _ _ _ | exact Kd.S_nil _ _ _ _ _⟩, ⟨by repeat (first | (with_reducible first | exact HB.out | apply below_alloc | apply pw_below_drewN | apply below_drew1) | exact HB.out)⟩⟩
 case round =>
  clear H'
  try clear p2
  obtain ⟨x5_1, x10_1, rfl, HA, HK1, HO_5, HB⟩ := hrel
  cases gk with
  | zero => exact absurd HA.out (by simp [spec_numbers.l0])
  | succ k1 =>
   have H := HA.out
   clear HA
   simp only [spec_numbers.l0] at H
   by_cases c3 : x10_1 < (l0.length : Int)
   ·rw [if_pos c3] at H
    have c3b0 : decide (x10_1 < (l0.length : Int)) = true := decide_eq_true c3
    clear c3
    by_cases c4 : 0 ≤ x10_1
    ·rw [if_pos c4] at H
     have c4b0 : decide (0 ≤ x10_1) = true := decide_eq_true c4
     clear c4
     by_cases c5 : x10_1 < (l0.length : Int)
     ·rw [if_pos c5] at H
      have c5b0 : decide (x10_1 < (l0.length : Int)) = true := decide_eq_true c5
      clear c5
      replace H := Option.bind_eq_some_iff.mp H
      obtain ⟨t137, A60, H⟩ := H
      have A6 := Aside0.mk A60
      clear A60
      by_cases c7 : x5_1.length < 8796093022208
      ·rw [if_pos c7] at H
       have LMc7 := Aside0.mk c7
       clear c7
       obtain ⟨y138, hy138⟩ : ∃ y_ : List ByteArray, y_ = (x5_1 ++ [t137]) := ⟨_, rfl⟩
       replace H : (spec_numbers.l0 k1 a1 y138 l0 (l0.length : Int) (wrap64 (x10_1 + 1))) = some r := by first | (rw [hy138]; with_reducible exact H) | (have H2_ := (Option.bind_some _ _).symm.trans H; rw [hy138]; with_reducible exact H2_) | (have H2_ := (Option.bind_some _ _).symm.trans H; with_reducible exact H2_) | with_reducible exact H | (rw [hy138]; exact H) | exact H
       have Ny138 := Aside0.mk hy138
       clear hy138
       have H' := Aside0.mk H
       clear H
       have p136 : 0 ≤ (x10_1 : Int) := of_decide_eq_true (by first | (with_reducible assumption) | assumption)
       have q136 : x10_1 < (l0.length : Int) := of_decide_eq_true (by first | (with_reducible assumption) | assumption)
       obtain ⟨ad136, e136, hx136_0⟩ := Kd.at_int HR0.out x10_1 p136 q136
       cases e136
       replace hx136_0 := (HB.out.cell (World.block_lt_of_cell? w _ hx136_0)).trans hx136_0
       replace p136 := eq_true p136
       replace q136 := eq_true q136
       go_wp2_with (first | ((with_reducible refine gate_callee (f := 48) rfl ?_); refine goesL_ (some 16) rfl rfl Tryz.func48 (by kernel_rfl) rfl #[.int .u64 (rd l0 x10_1)] rfl (by (try simp only [List.map_toArray, List.map_cons, List.map_nil]); first | done | rfl | (simp only [List.length_drop, List.length_take]; rfl)) ?_; (with_reducible refine (spec_Text.calls k1 (rd l0 x10_1) t137 _ A6.out).mono ?_); rintro e w8 ⟨rfl, hb⟩; refine ⟨_, rfl, ?_⟩; have n0_ := Aside0.mk (Kd.R_below (by (with_reducible repeat (first | apply Kd.R_alloc | apply Kd.R_drewN | apply Kd.R_drew)); exact HO_5.out) hb); have n1_ := Aside0.mk (below_step belH hb); clear HO_5; clear HB; have HO_5 := n0_; have HB := n1_; clear n0_ n1_; (try clear hb); (try clear hb2); (try clear hk); (try clear hi)) | ((with_reducible refine gate_builtin (b := .append) (xs := #[.tmp 14, .tmp 17]) rfl ?_); at_builtin; refine Kd.R_append Kd.string (w0 := w) w.heap.size rfl (.tmp 14) (.tmp 17) 42 9 (.string ⟨#[]⟩) 16 rfl Tryz.underlying42 info9 rfl (by decide) (by omega) u5 x5_1 t137 [.string t137] (fun _ => True) (fun _ => False) rfl rfl ?aP (fun _ hk => hk.elim) ?aF ?aO ?aB ?aS ?aL ?_; (case aP => exact rfl); (case aB => exact belH); (case aF => exact (fun _ _ => trivial)); (case aO => exact (by (with_reducible repeat (first | apply Kd.R_alloc | apply Kd.R_drewN | apply Kd.R_drew)); exact HO_5.out)); (case aS => exact (below_size belH)); (case aL => have := LMc7.out; omega); intro v139 w9 ho hb hg hat; rw [← Ny138.out] at ho; have n0_ := Aside0.mk (hb); have n1_ := Aside0.mk (ho); clear HB; clear HO_5; have HB := n0_; have HO140 := n1_; clear n0_ n1_; clear ho hb hg hat))
       go_roundg k1
       case measure => have := HK1.out; omega
       case rel => exact ⟨(y138), (wrap64 (x10_1 + 1)), (by first | rfl | (simp; done) | (simp [*]; done) | (simp [bne_nil]; done) | (simp [bne_nil, *]; done)), H', ⟨by have := HK1.out; omega⟩, ⟨by (with_reducible repeat (first | apply Kd.R_alloc | apply Kd.R_drewN | apply Kd.R_drew)); exact HO140.out⟩, ⟨by repeat (first | (with_reducible first | exact HB.out | apply below_alloc | apply pw_below_drewN | apply below_drew1) | exact HB.out)⟩⟩
      ·rw [if_neg c7] at H
       exact absurd H (by simp)
     ·rw [if_neg c5] at H
      exact absurd H (by simp)
    ·rw [if_neg c4] at H
     exact absurd H (by simp)
   ·rw [if_neg c3] at H
    have c3b0 : decide (x10_1 < (l0.length : Int)) = false := decide_eq_false c3
    clear c3
    replace H := Option.bind_eq_some_iff.mp H
    obtain ⟨t141, A100, H⟩ := H
    have A10 := Aside0.mk A100
    clear A100
    obtain rfl := Option.some.inj H
    obtain ⟨Ao11, co11, eo11⟩ := Kd.R_slice HO_5.out
    subst eo11
    go_wp2_with (first | ((with_reducible refine gate_callee (f := 128) rfl ?_); refine goesL_ (some 22) rfl rfl Tryz.func128 (by kernel_rfl) rfl #[.slice Ao11 x5_1.length co11, .string a1] rfl (by (try simp only [List.map_toArray, List.map_cons, List.map_nil]); first | done | rfl | (simp only [List.length_drop, List.length_take]; rfl)) ?_; (with_reducible refine (spec_Join.calls k1 _ _ x5_1 a1 t141 _ ?side1 ?side2 A10.out).mono ?_); (case side1 => repeat (first | exact (Kd.R_reads' HO_5.out).2.2 | (with_reducible refine Kd.C_alloc ?_ _) | (with_reducible refine Kd.C_drewN ?_ _) | (with_reducible refine Kd.C_drew ?_))); (case side2 => exact (Kd.R_reads' HO_5.out).2.1); rintro e w' ⟨rfl, ⟨nd, rfl⟩⟩; refine ⟨_, rfl, ?_⟩))
    go_ret
    exact ⟨by first | rfl | (simp [errW_none, errW_some] <;> rfl) | (simp [*, errW_none, errW_some] <;> rfl), by repeat (first | (with_reducible first | exact HB.out | apply below_alloc | apply pw_below_drewN | apply below_drew1) | exact HB.out)⟩

/-! ### spec_Plain: function 80 -/
def spec_Plain.l0 : Nat → ByteArray → Int → Int → Option (Bool)
 | 0, _, _, _ => none
 | k + 1, x0, x6, x7 => if x7 < x6 then (if 0 ≤ x7 then (if x7 < (x0.size : Int) then (if (bt x0 x7) > 126 then (some false) else (if (bt x0 x7) < 32 then (if (bt x0 x7) = 10 then (spec_Plain.l0 k x0 x6 (wrap64 (x7 + 1))) else (if (bt x0 x7) = 9 then (spec_Plain.l0 k x0 x6 (wrap64 (x7 + 1))) else (some false))) else (spec_Plain.l0 k x0 x6 (wrap64 (x7 + 1))))) else (none)) else (none)) else (some true)
def spec_Plain.f (k : Nat) (a0 : ByteArray) : Option (Bool) := spec_Plain.l0 k a0 (a0.size : Int) 0
theorem spec_Plain.mono_l : ∀ k, (∀ y0 y1 y2, LeO (spec_Plain.l0 k y0 y1 y2) (spec_Plain.l0 (k + 1) y0 y1 y2))
 | 0 => fun _ _ _ r h => by simp [spec_Plain.l0] at h
 | k + 1 => by
  have ih0 := spec_Plain.mono_l k
  ·intro y0 y1 y2
   unfold spec_Plain.l0
   repeat' first
   | (with_reducible exact ih0 _ _ _)
   | (with_reducible exact LeO.refl _)
   | (with_reducible exact LeO.none _)
   | (with_reducible refine LeO.ite ?_ ?_)
   | (with_reducible refine LeO.bind ?_ (fun _ => ?_))
   | exact ih0 _ _ _
   | exact LeO.none _
   | refine LeO.ite ?_ ?_
   | refine LeO.bind ?_ (fun _ => ?_)
theorem spec_Plain.mono : ∀ a0 k, LeO (spec_Plain.f k a0) (spec_Plain.f (k + 1) a0) := by
 intro a0 k
 have ih0 := spec_Plain.mono_l k
 unfold spec_Plain.f
 repeat' first
   | (with_reducible exact ih0 _ _ _)
   | (with_reducible exact LeO.refl _)
   | (with_reducible exact LeO.none _)
   | (with_reducible refine LeO.ite ?_ ?_)
   | (with_reducible refine LeO.bind ?_ (fun _ => ?_))
   | exact ih0 _ _ _
   | exact LeO.none _
   | refine LeO.ite ?_ ?_
   | refine LeO.bind ?_ (fun _ => ?_)
set_option maxHeartbeats 8000000 in
set_option maxRecDepth 100000 in
theorem spec_Plain.calls (k : Nat) (a0 : ByteArray) (r : Bool) (w : World) (h : spec_Plain.f k a0 = some r) :
  Calls Tryz.prog 80 #[.string a0] w fun e w' => e = .returned (.bool r) ∧ Drawn0 w w' := by
 have H : (spec_Plain.l0 k a0 (a0.size : Int) 0) = some r := h
 clear h
 have H' := Aside0.mk H
 clear H
 go_enter Tryz.func80, Tryz.ntmps80
 go_wp2
 go_loopg [7] k (fun kq v7 w' => ∃ (x7_1 : Int), v7 = .int .i64 x7_1 ∧ Aside0 (spec_Plain.l0 kq a0 (a0.size : Int) x7_1 = some r) ∧ Aside0 (kq ≤ k) ∧ Drawn0 w w')
 case atStart => exact ⟨(0), (by first | rfl | (simp; done) | (simp [*]; done) | (simp [bne_nil]; done) | (simp [bne_nil, *]; done)), H', ⟨Nat.le_refl _⟩, by repeat (first | exact Drawn0.refl _ | apply Drawn0.step)⟩
 case round =>
  clear H'
  obtain ⟨x7_1, rfl, HA, HK1, ⟨m1, rfl⟩⟩ := hrel
  cases gk with
  | zero => exact absurd HA.out (by simp [spec_Plain.l0])
  | succ k1 =>
   have H := HA.out
   clear HA
   simp only [spec_Plain.l0] at H
   by_cases c2 : x7_1 < (a0.size : Int)
   ·rw [if_pos c2] at H
    have c2b0 : decide (x7_1 < (a0.size : Int)) = true := decide_eq_true c2
    clear c2
    by_cases c3 : 0 ≤ x7_1
    ·rw [if_pos c3] at H
     have c3b0 : decide (0 ≤ x7_1) = true := decide_eq_true c3
     clear c3
     by_cases c4 : x7_1 < (a0.size : Int)
     ·rw [if_pos c4] at H
      have c4b0 : decide (x7_1 < (a0.size : Int)) = true := decide_eq_true c4
      clear c4
      by_cases c6 : (bt a0 x7_1) > 126
      ·rw [if_pos c6] at H
       have c6b0 : decide (126 < (bt a0 x7_1)) = true := decide_eq_true c6
       clear c6
       obtain rfl := Option.some.inj H
       have p5 : 0 ≤ (x7_1 : Int) := of_decide_eq_true (by first | (with_reducible assumption) | assumption)
       have q5 : x7_1 < (a0.size : Int) := of_decide_eq_true (by first | (with_reducible assumption) | assumption)
       have hx5 := bt_at a0 x7_1
       replace p5 := eq_true p5
       replace q5 := eq_true q5
       go_wp2
       go_ret
       exact ⟨by first | rfl | (simp; done) | (simp [*]; done) | (simp [bne_nil]; done) | (simp [bne_nil, *]; done), by repeat (first | exact Drawn0.refl _ | apply Drawn0.step)⟩
      ·rw [if_neg c6] at H
       have c6b0 : decide (126 < (bt a0 x7_1)) = false := decide_eq_false c6
       clear c6
       by_cases c7 : (bt a0 x7_1) < 32
       ·rw [if_pos c7] at H
        have c7b0 : decide ((bt a0 x7_1) < 32) = true := decide_eq_true c7
        clear c7
        by_cases c8 : (bt a0 x7_1) = 10
        ·rw [if_pos c8] at H
         have c8b0 : ((bt a0 x7_1) == 10) = true := beq_iff_eq.mpr c8
         have c8b1 : ((bt a0 x7_1) != 10) = false := bne_eq_false_iff_eq.mpr c8
         clear c8
         have H' := Aside0.mk H
         clear H
         have p5 : 0 ≤ (x7_1 : Int) := of_decide_eq_true (by first | (with_reducible assumption) | assumption)
         have q5 : x7_1 < (a0.size : Int) := of_decide_eq_true (by first | (with_reducible assumption) | assumption)
         have hx5 := bt_at a0 x7_1
         replace p5 := eq_true p5
         replace q5 := eq_true q5
         go_wp2
         go_roundg k1
         case measure => have := HK1.out; omega
         case rel => exact ⟨(wrap64 (x7_1 + 1)), (by first | rfl | (simp; done) | (simp [*]; done) | (simp [bne_nil]; done) | (simp [bne_nil, *]; done)), H', ⟨by have := HK1.out; omega⟩, by repeat (first | exact Drawn0.refl _ | apply Drawn0.step)⟩
        ·rw [if_neg c8] at H
         have c8b0 : ((bt a0 x7_1) == 10) = false := beq_eq_false_iff_ne.mpr c8
         have c8b1 : ((bt a0 x7_1) != 10) = true := bne_iff_ne.mpr c8
         by_cases c9 : (bt a0 x7_1) = 9
         ·rw [if_pos c9] at H
          have c9b0 : ((bt a0 x7_1) == 9) = true := beq_iff_eq.mpr c9
          have c9b1 : ((bt a0 x7_1) != 9) = false := bne_eq_false_iff_eq.mpr c9
          clear c9
          have H' := Aside0.mk H
          clear H
          have p5 : 0 ≤ (x7_1 : Int) := of_decide_eq_true (by first | (with_reducible assumption) | assumption)
          have q5 : x7_1 < (a0.size : Int) := of_decide_eq_true (by first | (with_reducible assumption) | assumption)
          have hx5 := bt_at a0 x7_1
          replace p5 := eq_true p5
          replace q5 := eq_true q5
          go_wp2
          go_roundg k1
          case measure => have := HK1.out; omega
          case rel => exact ⟨(wrap64 (x7_1 + 1)), (by first | rfl | (simp; done) | (simp [*]; done) | (simp [bne_nil]; done) | (simp [bne_nil, *]; done)), H', ⟨by have := HK1.out; omega⟩, by repeat (first | exact Drawn0.refl _ | apply Drawn0.step)⟩
         ·rw [if_neg c9] at H
          have c9b0 : ((bt a0 x7_1) == 9) = false := beq_eq_false_iff_ne.mpr c9
          have c9b1 : ((bt a0 x7_1) != 9) = true := bne_iff_ne.mpr c9
          obtain rfl := Option.some.inj H
          have p5 : 0 ≤ (x7_1 : Int) := of_decide_eq_true (by first | (with_reducible assumption) | assumption)
          have q5 : x7_1 < (a0.size : Int) := of_decide_eq_true (by first | (with_reducible assumption) | assumption)
          have hx5 := bt_at a0 x7_1
          replace p5 := eq_true p5
          replace q5 := eq_true q5
          go_wp2
          go_ret
          exact ⟨by first | rfl | (simp; done) | (simp [*]; done) | (simp [bne_nil]; done) | (simp [bne_nil, *]; done), by repeat (first | exact Drawn0.refl _ | apply Drawn0.step)⟩
       ·rw [if_neg c7] at H
        have c7b0 : decide ((bt a0 x7_1) < 32) = false := decide_eq_false c7
        clear c7
        have H' := Aside0.mk H
        clear H
        have p5 : 0 ≤ (x7_1 : Int) := of_decide_eq_true (by first | (with_reducible assumption) | assumption)
        have q5 : x7_1 < (a0.size : Int) := of_decide_eq_true (by first | (with_reducible assumption) | assumption)
        have hx5 := bt_at a0 x7_1
        replace p5 := eq_true p5
        replace q5 := eq_true q5
        go_wp2
        go_roundg k1
        case measure => have := HK1.out; omega
        case rel => exact ⟨(wrap64 (x7_1 + 1)), (by first | rfl | (simp; done) | (simp [*]; done) | (simp [bne_nil]; done) | (simp [bne_nil, *]; done)), H', ⟨by have := HK1.out; omega⟩, by repeat (first | exact Drawn0.refl _ | apply Drawn0.step)⟩
     ·rw [if_neg c4] at H
      exact absurd H (by simp)
    ·rw [if_neg c3] at H
     exact absurd H (by simp)
   ·rw [if_neg c2] at H
    have c2b0 : decide (x7_1 < (a0.size : Int)) = false := decide_eq_false c2
    clear c2
    obtain rfl := Option.some.inj H
    go_wp2
    go_ret
    exact ⟨by first | rfl | (simp; done) | (simp [*]; done) | (simp [bne_nil]; done) | (simp [bne_nil, *]; done), by repeat (first | exact Drawn0.refl _ | apply Drawn0.step)⟩

/-- THE ONE PURE STATEMENT of spec_Plain: yours. -/
def spec_Plain.Pure : Prop := ∀ (a0 : ByteArray), a0.size ≤ 140737488351232 → ∃ k, spec_Plain.f k a0 = some true
theorem spec_Plain.walk (P : spec_Plain.Pure) (a0 : ByteArray) (w : World) (w0 : a0.size ≤ 140737488351232) :
  Calls Tryz.prog 80 #[.string a0] w fun e w' => e = .returned (.bool true) ∧ Below w.heap.size w w' := by
 obtain ⟨k, h⟩ := P a0 w0
 refine (spec_Plain.calls k a0 true w h).mono ?_
 rintro e w' ⟨rfl, hd⟩
 exact ⟨rfl, hd.below⟩

/-! ### spec_sized: function 45 -/
def spec_sized.f (a0_0 : ByteArray) (l0_1 : List Int) (l0_2 : List ByteArray) (a1 : Int) (a2 : Int) : Option (Bool) := if (l0_1.length : Int) = a1 then (some ((l0_2.length : Int) == a2)) else (some false)
set_option maxHeartbeats 8000000 in
set_option maxRecDepth 100000 in
theorem spec_sized.calls (a0_0 : ByteArray) (A0_1 : Option Addr) (c0_1 : Nat) (l0_1 : List Int) (A0_2 : Option Addr) (c0_2 : Nat) (l0_2 : List ByteArray) (a1 : Int) (a2 : Int) (r : Bool) (w : World) (hr0_1 : Kd.C (Kd.int .u64) w A0_1 l0_1.length l0_1) (hc0_1 : l0_1.length ≤ c0_1) (hr0_2 : Kd.C Kd.string w A0_2 l0_2.length l0_2) (hc0_2 : l0_2.length ≤ c0_2) (h : spec_sized.f a0_0 l0_1 l0_2 a1 a2 = some r) :
  Calls Tryz.prog 45 #[.agg #[.string a0_0, .slice A0_1 l0_1.length c0_1, .slice A0_2 l0_2.length c0_2], .int .i64 a1, .int .i64 a2] w fun e w' => e = .returned (.bool r) ∧ Below w.heap.size w w' := by
 have hu48 := Tryz.underlying48
 have HR0_1 := Aside0.mk hr0_1
 have HC0_1 := Aside0.mk hc0_1
 clear hr0_1 hc0_1
 have HR0_2 := Aside0.mk hr0_2
 have HC0_2 := Aside0.mk hc0_2
 clear hr0_2 hc0_2
 have HB := Aside0.mk (Below.refl w.heap.size w)
 have H : (if (l0_1.length : Int) = a1 then (some ((l0_2.length : Int) == a2)) else (some false)) = some r := h
 clear h
 by_cases c4 : (l0_1.length : Int) = a1
 ·rw [if_pos c4] at H
  have c4b0 : ((l0_1.length : Int) == a1) = true := beq_iff_eq.mpr c4
  have c4b1 : ((l0_1.length : Int) != a1) = false := bne_eq_false_iff_eq.mpr c4
  clear c4
  obtain rfl := Option.some.inj H
  go_enter Tryz.func45, Tryz.ntmps45
  go_wp2_with (first | ((with_reducible refine gate_dst (N := 3) rfl ?_); (try (refine gate_guard (by rfl) ?_; dsimp only)); refine box_event ?hg (N := 3) ?hd (cs := #[.string a0_0, .slice A0_1 l0_1.length c0_1, .slice A0_2 l0_2.length c0_2]) (t := 48) ?hr ?_; (case hd => rfl); (case hg => rfl); (case hr => first | (go_simp; done) | (go_simp; rfl)); intro gb142 hg w5 hbox hb; have n0_ := Aside0.mk (below_step belH hb); have n1_ := Aside0.mk (hbox); have n2_ := Aside0.mk ((by rw [hg]; exact (below_size belH) : w.heap.size ≤ gb142)); have n3_ := Aside0.mk ((by rw [hg]; exact (below_size belH) : w.heap.size ≤ gb142)); clear HB; have HB := n0_; have BK142 := n1_; have GW142 := n2_; have GE142 := n3_; clear n0_ n1_ n2_ n3_; clear hb hbox hg; obtain ⟨hcz6_0, hcz6_1, hcz6_2, hfz6_0, hfz6_1, hfz6_2⟩ := rows3 (w := w5) BK142))
  go_ret
  exact ⟨by first | rfl | (simp [errW_none, errW_some] <;> rfl) | (simp [*, errW_none, errW_some] <;> rfl), by repeat (first | (with_reducible first | exact HB.out | apply below_alloc | apply pw_below_drewN | apply below_drew1 | refine below_set ?_ GE142.out) | exact HB.out)⟩
 ·rw [if_neg c4] at H
  have c4b0 : ((l0_1.length : Int) == a1) = false := beq_eq_false_iff_ne.mpr c4
  have c4b1 : ((l0_1.length : Int) != a1) = true := bne_iff_ne.mpr c4
  obtain rfl := Option.some.inj H
  go_enter Tryz.func45, Tryz.ntmps45
  go_wp2_with (first | ((with_reducible refine gate_dst (N := 3) rfl ?_); (try (refine gate_guard (by rfl) ?_; dsimp only)); refine box_event ?hg (N := 3) ?hd (cs := #[.string a0_0, .slice A0_1 l0_1.length c0_1, .slice A0_2 l0_2.length c0_2]) (t := 48) ?hr ?_; (case hd => rfl); (case hg => rfl); (case hr => first | (go_simp; done) | (go_simp; rfl)); intro gb142 hg w7 hbox hb; have n0_ := Aside0.mk (below_step belH hb); have n1_ := Aside0.mk (hbox); have n2_ := Aside0.mk ((by rw [hg]; exact (below_size belH) : w.heap.size ≤ gb142)); have n3_ := Aside0.mk ((by rw [hg]; exact (below_size belH) : w.heap.size ≤ gb142)); clear HB; have HB := n0_; have BK142 := n1_; have GW142 := n2_; have GE142 := n3_; clear n0_ n1_ n2_ n3_; clear hb hbox hg; obtain ⟨hcz8_0, hcz8_1, hcz8_2, hfz8_0, hfz8_1, hfz8_2⟩ := rows3 (w := w7) BK142))
  go_ret
  exact ⟨by first | rfl | (simp [errW_none, errW_some] <;> rfl) | (simp [*, errW_none, errW_some] <;> rfl), by repeat (first | (with_reducible first | exact HB.out | apply below_alloc | apply pw_below_drewN | apply below_drew1 | refine below_set ?_ GE142.out) | exact HB.out)⟩

end Go.Proofs.YtdmpbaanonafbaaGreatDoor.L
