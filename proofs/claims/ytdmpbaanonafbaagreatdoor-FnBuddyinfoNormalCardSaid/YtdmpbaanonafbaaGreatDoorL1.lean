import Derived.Test.YtdmpbaanonafbaaGreatDoorProg
import Derived.Below
import Derived.Deep.Draws
import Derived.Deep.AppendLies
import Derived.Maps.AppendAt
import Derived.OwnWalk
import Derived.Laws.BytesArg
import Derived.Laws.MakeOwn
import Derived.Laws.OwnMore
import Derived.Deep.OwnRows
import Derived.Tactics
import Derived.Lib.ConvBytes
import Derived.Laws.Slices
import Derived.WalkKit
import Derived.KernelRfl
import Derived.RowKit3
import Derived.Deep.LoopGhost
import Derived.Deep.QuietTactic
import Derived.BigQuiet
import Derived.WideLaws
import Derived.Deep.DeepCutAuto
import Derived.Deep.CutBlock
import Derived.Deep.RegionHeld3
import Derived.Laws.Rows
import Derived.Lib.AppendStr
import Derived.ArgAppend
import Derived.Laws.IdiomCopy
import Derived.OrdersHeld
import Derived.Laws.BitsLemmas
import Derived.RowKit
import Derived.Test.YtdmpbaanonafbaaGreatDoorSq
import Derived.Test.YtdmpbaanonafbaaGreatDoorFlt
import Derived.Test.YtdmpbaanonafbaaGreatDoorGivZ
import Derived.Test.YtdmpbaanonafbaaGreatDoorWWords
import Derived.Test.YtdmpbaanonafbaaGreatDoorWLast
import Derived.Test.YtdmpbaanonafbaaGreatDoorWTab
import Derived.Test.YtdmpbaanonafbaaGreatDoorWApart
import Derived.Test.YtdmpbaanonafbaaGreatDoorWArr
import Derived.Test.YtdmpbaanonafbaaGreatDoorWZeros
import Derived.Test.YtdmpbaanonafbaaGreatDoorWFoot
import Derived.Test.YtdmpbaanonafbaaGreatDoorWKept
import Derived.Test.YtdmpbaanonafbaaGreatDoorWShare
import Derived.Test.YtdmpbaanonafbaaGreatDoorWN
import Derived.Test.YtdmpbaanonafbaaGreatDoorWRepsOne
import Derived.Test.YtdmpbaanonafbaaGreatDoorWGuard
import Derived.Test.YtdmpbaanonafbaaGreatDoorWNEv
import Derived.Test.YtdmpbaanonafbaaGreatDoorWMore
-- written by a program of this session (wip/tools/pp.py)
namespace Go.Proofs.YtdmpbaanonafbaaGreatDoor.L
open Go.RowKit Go.Proofs.YtdmpbaanonafbaaGreatDoorW.PrintWords Go.Proofs.YtdmpbaanonafbaaGreatDoorW.PrintLast Go.Proofs.YtdmpbaanonafbaaGreatDoor.Flt Go.Proofs.YtdmpbaanonafbaaGreatDoor.GivZ Go.Proofs.YtdmpbaanonafbaaGreatDoorW.PrintMore
attribute [local go_sem] max2_int min2_int max_two min_two max_three min_three max_four min_four   -- for this text's walks alone
set_option linter.unusedVariables false
set_option linter.unusedSimpArgs false




theorem info9 : (Tryz.prog.info? 9).map (fun i => (i.zero, i.size, i.bytes)) = some (some (.string ⟨#[]⟩), 1, 16) := by kernel_rfl
theorem info31 : (Tryz.prog.info? 31).map (fun i => (i.zero, i.size, i.bytes)) = some (some (.int .u64 0), 1, 8) := by kernel_rfl
-- the values' own types

end Go.Proofs.YtdmpbaanonafbaaGreatDoor.L

-- written by a program of this session (wip/tools/pp.py)
namespace Go.Proofs.YtdmpbaanonafbaaGreatDoor.L
open Go.RowKit Go.Proofs.YtdmpbaanonafbaaGreatDoorW.PrintWords Go.Proofs.YtdmpbaanonafbaaGreatDoorW.PrintLast Go.Proofs.YtdmpbaanonafbaaGreatDoor.Flt Go.Proofs.YtdmpbaanonafbaaGreatDoor.GivZ Go.Proofs.YtdmpbaanonafbaaGreatDoorW.PrintMore
attribute [local go_sem] max2_int min2_int max_two min_two max_three min_three max_four min_four   -- for this text's walks alone
set_option linter.unusedVariables false
set_option linter.unusedSimpArgs false

/-! ### spec_Lines: function 55 -/
def spec_Lines.l0 : Nat → ByteArray → List ByteArray → Int → Int → Int → Option (List ByteArray)
 | 0, _, _, _, _, _ => none
 | k + 1, x0, x3, x4, x7, x8 => if x8 < x7 then (if 0 ≤ x8 then (if x8 < (x0.size : Int) then (if (bt x0 x8) = 10 then (if 0 ≤ x4 then (if x4 ≤ x8 then (if x8 ≤ (x0.size : Int) then (if x3.length < 8796093022208 then (spec_Lines.l0 k x0 (x3 ++ [x0.extract (x4 : Int).toNat (x8 : Int).toNat]) (wrap64 (x8 + 1)) x7 (wrap64 (x8 + 1))) else (none)) else (none)) else (none)) else (none)) else (spec_Lines.l0 k x0 x3 x4 x7 (wrap64 (x8 + 1)))) else (none)) else (none)) else (if x4 < (x0.size : Int) then (if 0 ≤ x4 then (if x4 ≤ (x0.size : Int) then (if x3.length < 8796093022208 then (some (x3 ++ [x0.extract (x4 : Int).toNat x0.size])) else (none)) else (none)) else (none)) else (some x3))
def spec_Lines.f (k : Nat) (a0 : ByteArray) : Option (List ByteArray) := spec_Lines.l0 k a0 ([] : List ByteArray) 0 (a0.size : Int) 0
theorem spec_Lines.mono_l : ∀ k, (∀ y0 y1 y2 y3 y4, LeO (spec_Lines.l0 k y0 y1 y2 y3 y4) (spec_Lines.l0 (k + 1) y0 y1 y2 y3 y4))
 | 0 => fun _ _ _ _ _ r h => by simp [spec_Lines.l0] at h
 | k + 1 => by
  have ih0 := spec_Lines.mono_l k
  ·intro y0 y1 y2 y3 y4
   unfold spec_Lines.l0
   repeat' first
   | (with_reducible exact ih0 _ _ _ _ _)
   | (with_reducible exact LeO.refl _)
   | (with_reducible exact LeO.none _)
   | (with_reducible refine LeO.ite ?_ ?_)
   | (with_reducible refine LeO.bind ?_ (fun _ => ?_))
   | exact ih0 _ _ _ _ _
   | exact LeO.none _
   | refine LeO.ite ?_ ?_
   | refine LeO.bind ?_ (fun _ => ?_)
theorem spec_Lines.mono : ∀ a0 k, LeO (spec_Lines.f k a0) (spec_Lines.f (k + 1) a0) := by
 intro a0 k
 have ih0 := spec_Lines.mono_l k
 unfold spec_Lines.f
 repeat' first
   | (with_reducible exact ih0 _ _ _ _ _)
   | (with_reducible exact LeO.refl _)
   | (with_reducible exact LeO.none _)
   | (with_reducible refine LeO.ite ?_ ?_)
   | (with_reducible refine LeO.bind ?_ (fun _ => ?_))
   | exact ih0 _ _ _ _ _
   | exact LeO.none _
   | refine LeO.ite ?_ ?_
   | refine LeO.bind ?_ (fun _ => ?_)
set_option maxHeartbeats 8000000 in
set_option maxRecDepth 100000 in
theorem spec_Lines.calls (k : Nat) (a0 : ByteArray) (r : List ByteArray) (w : World) (h : spec_Lines.f k a0 = some r) :
  Calls Tryz.prog 55 #[.string a0] w fun e w' => ∃ v0_ : Value, e = .returned (v0_) ∧ Kd.R Kd.string 9 w' w.heap.size (fun _ => True) v0_ r ∧ Below w.heap.size w w' := by
 have HB := Aside0.mk (Below.refl w.heap.size w)
 have H : (spec_Lines.l0 k a0 ([] : List ByteArray) 0 (a0.size : Int) 0) = some r := h
 clear h
 have H' := Aside0.mk H
 clear H
 go_enter Tryz.func55, Tryz.ntmps55
 go_wp2
 go_loopg [3, 4, 8] k (fun kq v3 v4 v8 w' => ∃ (x3_1 : List ByteArray) (x4_1 : Int) (x8_1 : Int), v4 = .int .i64 x4_1 ∧ v8 = .int .i64 x8_1 ∧ Aside0 (spec_Lines.l0 kq a0 x3_1 x4_1 (a0.size : Int) x8_1 = some r) ∧ Aside0 (kq ≤ k) ∧ Aside0 (Kd.R Kd.string 9 w' w.heap.size (fun _ => True) v3 x3_1) ∧ Aside0 (Below w.heap.size w w'))
 case atStart => exact ⟨(([] : List ByteArray)), (0), (0), (by first | rfl | (simp; done) | (simp [*]; done) | (simp [bne_nil]; done) | (simp [bne_nil, *]; done)), (by first | rfl | (simp; done) | (simp [*]; done) | (simp [bne_nil]; done) | (simp [bne_nil, *]; done)), H', ⟨Nat.le_refl _⟩, ⟨by first | exact Kd.R_nil _ _ _ _ _ | exact Kd.N_nil _ _ _ _ _ | exact Kd.V_nil _ _ _ _ _ | exact Kd.Q_nil _ _ _ _ _ | exact Kd.S_nil _ _ _ _ _⟩, ⟨by repeat (first | (with_reducible first | exact HB.out | apply below_alloc | apply pw_below_drewN | apply below_drew1) | exact HB.out)⟩⟩
 case round =>
  clear H'
  obtain ⟨x3_1, x4_1, x8_1, rfl, rfl, HA, HK1, HO_3, HB⟩ := hrel
  cases gk with
  | zero => exact absurd HA.out (by simp [spec_Lines.l0])
  | succ k1 =>
   have H := HA.out
   clear HA
   simp only [spec_Lines.l0] at H
   by_cases c2 : x8_1 < (a0.size : Int)
   ·rw [if_pos c2] at H
    have c2b0 : decide (x8_1 < (a0.size : Int)) = true := decide_eq_true c2
    clear c2
    by_cases c3 : 0 ≤ x8_1
    ·rw [if_pos c3] at H
     have c3b0 : decide (0 ≤ x8_1) = true := decide_eq_true c3
     clear c3
     by_cases c4 : x8_1 < (a0.size : Int)
     ·rw [if_pos c4] at H
      have c4b0 : decide (x8_1 < (a0.size : Int)) = true := decide_eq_true c4
      clear c4
      by_cases c6 : (bt a0 x8_1) = 10
      ·rw [if_pos c6] at H
       have c6b0 : ((bt a0 x8_1) == 10) = true := beq_iff_eq.mpr c6
       have c6b1 : ((bt a0 x8_1) != 10) = false := bne_eq_false_iff_eq.mpr c6
       clear c6
       by_cases c7 : 0 ≤ x4_1
       ·rw [if_pos c7] at H
        have c7b0 := eq_true c7
        have c7b1 : decide (0 ≤ x4_1) = true := decide_eq_true c7
        clear c7
        by_cases c8 : x4_1 ≤ x8_1
        ·rw [if_pos c8] at H
         have c8b0 := eq_true c8
         have c8b1 : decide (x4_1 ≤ x8_1) = true := decide_eq_true c8
         clear c8
         by_cases c9 : x8_1 ≤ (a0.size : Int)
         ·rw [if_pos c9] at H
          have c9b0 := eq_true c9
          have c9b1 : decide (x8_1 ≤ (a0.size : Int)) = true := decide_eq_true c9
          clear c9
          by_cases c10 : x3_1.length < 8796093022208
          ·rw [if_pos c10] at H
           have LMc10 := Aside0.mk c10
           clear c10
           obtain ⟨y101, hy101⟩ : ∃ y_ : List ByteArray, y_ = (x3_1 ++ [a0.extract (x4_1 : Int).toNat (x8_1 : Int).toNat]) := ⟨_, rfl⟩
           replace H : (spec_Lines.l0 k1 a0 y101 (wrap64 (x8_1 + 1)) (a0.size : Int) (wrap64 (x8_1 + 1))) = some r := by first | (rw [hy101]; with_reducible exact H) | (have H2_ := (Option.bind_some _ _).symm.trans H; rw [hy101]; with_reducible exact H2_) | (have H2_ := (Option.bind_some _ _).symm.trans H; with_reducible exact H2_) | with_reducible exact H | (rw [hy101]; exact H) | exact H
           have Ny101 := Aside0.mk hy101
           clear hy101
           have H' := Aside0.mk H
           clear H
           have p5 : 0 ≤ (x8_1 : Int) := of_decide_eq_true (by first | (with_reducible assumption) | assumption)
           have q5 : x8_1 < (a0.size : Int) := of_decide_eq_true (by first | (with_reducible assumption) | assumption)
           have hx5 := bt_at a0 x8_1
           replace p5 := eq_true p5
           replace q5 := eq_true q5
           go_wp2_with (first | ((with_reducible refine gate_builtin (b := .append) (xs := #[.tmp 15, .tmp 20]) rfl ?_); at_builtin; refine Kd.R_append Kd.string (w0 := w) w.heap.size rfl (.tmp 15) (.tmp 20) 42 9 (.string ⟨#[]⟩) 16 rfl Tryz.underlying42 info9 rfl (by decide) (by omega) u3 x3_1 (a0.extract (x4_1 : Int).toNat (x8_1 : Int).toNat) [.string (a0.extract (x4_1 : Int).toNat (x8_1 : Int).toNat)] (fun _ => True) (fun _ => False) rfl rfl ?aP (fun _ hk => hk.elim) ?aF ?aO ?aB ?aS ?aL ?_; (case aP => exact rfl); (case aB => exact belH); (case aF => exact (fun _ _ => trivial)); (case aO => exact (by (with_reducible repeat (first | apply Kd.R_alloc | apply Kd.R_drewN | apply Kd.R_drew)); exact HO_3.out)); (case aS => exact (below_size belH)); (case aL => have := LMc10.out; omega); intro v102 w11 ho hb hg hat; rw [← Ny101.out] at ho; have n0_ := Aside0.mk (hb); have n1_ := Aside0.mk (ho); clear HB; clear HO_3; have HB := n0_; have HO103 := n1_; clear n0_ n1_; clear ho hb hg hat))
           go_roundg k1
           case measure => have := HK1.out; omega
           case rel => exact ⟨(y101), (wrap64 (x8_1 + 1)), (wrap64 (x8_1 + 1)), (by first | rfl | (simp; done) | (simp [*]; done) | (simp [bne_nil]; done) | (simp [bne_nil, *]; done)), (by first | rfl | (simp; done) | (simp [*]; done) | (simp [bne_nil]; done) | (simp [bne_nil, *]; done)), H', ⟨by have := HK1.out; omega⟩, ⟨by (with_reducible repeat (first | apply Kd.R_alloc | apply Kd.R_drewN | apply Kd.R_drew)); exact HO103.out⟩, ⟨by repeat (first | (with_reducible first | exact HB.out | apply below_alloc | apply pw_below_drewN | apply below_drew1) | exact HB.out)⟩⟩
          ·rw [if_neg c10] at H
           exact absurd H (by simp)
         ·rw [if_neg c9] at H
          exact absurd H (by simp)
        ·rw [if_neg c8] at H
         exact absurd H (by simp)
       ·rw [if_neg c7] at H
        exact absurd H (by simp)
      ·rw [if_neg c6] at H
       have c6b0 : ((bt a0 x8_1) == 10) = false := beq_eq_false_iff_ne.mpr c6
       have c6b1 : ((bt a0 x8_1) != 10) = true := bne_iff_ne.mpr c6
       have H' := Aside0.mk H
       clear H
       have p5 : 0 ≤ (x8_1 : Int) := of_decide_eq_true (by first | (with_reducible assumption) | assumption)
       have q5 : x8_1 < (a0.size : Int) := of_decide_eq_true (by first | (with_reducible assumption) | assumption)
       have hx5 := bt_at a0 x8_1
       replace p5 := eq_true p5
       replace q5 := eq_true q5
       go_wp2
       go_roundg k1
       case measure => have := HK1.out; omega
       case rel => exact ⟨(x3_1), (x4_1), (wrap64 (x8_1 + 1)), (by first | rfl | (simp; done) | (simp [*]; done) | (simp [bne_nil]; done) | (simp [bne_nil, *]; done)), (by first | rfl | (simp; done) | (simp [*]; done) | (simp [bne_nil]; done) | (simp [bne_nil, *]; done)), H', ⟨by have := HK1.out; omega⟩, ⟨by (with_reducible repeat (first | apply Kd.R_alloc | apply Kd.R_drewN | apply Kd.R_drew)); exact HO_3.out⟩, ⟨by repeat (first | (with_reducible first | exact HB.out | apply below_alloc | apply pw_below_drewN | apply below_drew1) | exact HB.out)⟩⟩
     ·rw [if_neg c4] at H
      exact absurd H (by simp)
    ·rw [if_neg c3] at H
     exact absurd H (by simp)
   ·rw [if_neg c2] at H
    have c2b0 : decide (x8_1 < (a0.size : Int)) = false := decide_eq_false c2
    clear c2
    by_cases c12 : x4_1 < (a0.size : Int)
    ·rw [if_pos c12] at H
     have c12b0 : decide (x4_1 < (a0.size : Int)) = true := decide_eq_true c12
     clear c12
     by_cases c13 : 0 ≤ x4_1
     ·rw [if_pos c13] at H
      have c13b0 := eq_true c13
      have c13b1 : decide (0 ≤ x4_1) = true := decide_eq_true c13
      clear c13
      by_cases c14 : x4_1 ≤ (a0.size : Int)
      ·rw [if_pos c14] at H
       have c14b0 := eq_true c14
       have c14b1 : decide (x4_1 ≤ (a0.size : Int)) = true := decide_eq_true c14
       clear c14
       by_cases c15 : x3_1.length < 8796093022208
       ·rw [if_pos c15] at H
        have LMc15 := Aside0.mk c15
        clear c15
        obtain ⟨y104, hy104⟩ : ∃ y_ : List ByteArray, y_ = (x3_1 ++ [a0.extract (x4_1 : Int).toNat a0.size]) := ⟨_, rfl⟩
        replace H : (some y104) = some r := by first | (rw [hy104]; with_reducible exact H) | (have H2_ := (Option.bind_some _ _).symm.trans H; rw [hy104]; with_reducible exact H2_) | (have H2_ := (Option.bind_some _ _).symm.trans H; with_reducible exact H2_) | with_reducible exact H | (rw [hy104]; exact H) | exact H
        have Ny104 := Aside0.mk hy104
        clear hy104
        obtain rfl := Option.some.inj H
        go_wp2_with (first | ((with_reducible refine gate_builtin (b := .append) (xs := #[.tmp 29, .tmp 33]) rfl ?_); at_builtin; refine Kd.R_append Kd.string (w0 := w) w.heap.size rfl (.tmp 29) (.tmp 33) 42 9 (.string ⟨#[]⟩) 16 rfl Tryz.underlying42 info9 rfl (by decide) (by omega) u3 x3_1 (a0.extract (x4_1 : Int).toNat a0.size) [.string (a0.extract (x4_1 : Int).toNat a0.size)] (fun _ => True) (fun _ => False) rfl rfl ?aP (fun _ hk => hk.elim) ?aF ?aO ?aB ?aS ?aL ?_; (case aP => exact rfl); (case aB => exact belH); (case aF => exact (fun _ _ => trivial)); (case aO => exact (by (with_reducible repeat (first | apply Kd.R_alloc | apply Kd.R_drewN | apply Kd.R_drew)); exact HO_3.out)); (case aS => exact (below_size belH)); (case aL => have := LMc15.out; omega); intro v105 w16 ho hb hg hat; rw [← Ny104.out] at ho; have n0_ := Aside0.mk (hb); have n1_ := Aside0.mk (ho); clear HB; clear HO_3; have HB := n0_; have HO106 := n1_; clear n0_ n1_; clear ho hb hg hat))
        go_ret
        exact ⟨_, by first | rfl | (simp [errW_none, errW_some] <;> rfl) | (simp [*, errW_none, errW_some] <;> rfl), by (with_reducible repeat (first | apply Kd.R_alloc | apply Kd.R_drewN | apply Kd.R_drew)); exact HO106.out, by repeat (first | (with_reducible first | exact HB.out | apply below_alloc | apply pw_below_drewN | apply below_drew1) | exact HB.out)⟩
       ·rw [if_neg c15] at H
        exact absurd H (by simp)
      ·rw [if_neg c14] at H
       exact absurd H (by simp)
     ·rw [if_neg c13] at H
      exact absurd H (by simp)
    ·rw [if_neg c12] at H
     have c12b0 : decide (x4_1 < (a0.size : Int)) = false := decide_eq_false c12
     clear c12
     obtain rfl := Option.some.inj H
     go_wp2
     go_ret
     exact ⟨_, by first | rfl | (simp [errW_none, errW_some] <;> rfl) | (simp [*, errW_none, errW_some] <;> rfl), by (with_reducible repeat (first | apply Kd.R_alloc | apply Kd.R_drewN | apply Kd.R_drew)); exact HO_3.out, by repeat (first | (with_reducible first | exact HB.out | apply below_alloc | apply pw_below_drewN | apply below_drew1) | exact HB.out)⟩

/-! ### spec_Fields: function 39 -/
mutual
def spec_Fields.l0 : Nat → ByteArray → List ByteArray → Int → Int → Int → Option (List ByteArray)
 | 0, _, _, _, _, _ => none
 | k + 1, x0, x3, x4, x8, x9 => if x9 < x8 then (if 0 ≤ x9 then (if x9 < (x0.size : Int) then (if (bt x0 x9) = 32 then (spec_Fields.j1 k x0 x3 x4 x9 true x8 x9) else (spec_Fields.j1 k x0 x3 x4 x9 ((bt x0 x9) == 9) x8 x9)) else (none)) else (none)) else (if x4 ≥ 0 then (if 0 ≤ x4 then (if x4 ≤ (x0.size : Int) then (if x3.length < 8796093022208 then (some (x3 ++ [x0.extract (x4 : Int).toNat x0.size])) else (none)) else (none)) else (none)) else (some x3))
def spec_Fields.j1 : Nat → ByteArray → List ByteArray → Int → Int → Bool → Int → Int → Option (List ByteArray)
 | 0, _, _, _, _, _, _, _ => none
 | k + 1, x0, x3, x4, x5, x6, x8, x9 => if x6 = true then (spec_Fields.j2 k x0 x3 x4 x5 x6 x8 x9 (decide (x4 ≥ 0))) else (spec_Fields.j2 k x0 x3 x4 x5 x6 x8 x9 false)
def spec_Fields.j2 : Nat → ByteArray → List ByteArray → Int → Int → Bool → Int → Int → Bool → Option (List ByteArray)
 | 0, _, _, _, _, _, _, _, _ => none
 | k + 1, x0, x3, x4, x5, x6, x8, x9, x22 => if x22 = true then (if 0 ≤ x4 then (if x4 ≤ x5 then (if x5 ≤ (x0.size : Int) then (if x3.length < 8796093022208 then (spec_Fields.l0 k x0 (x3 ++ [x0.extract (x4 : Int).toNat (x5 : Int).toNat]) (-1) x8 (wrap64 (x9 + 1))) else (none)) else (none)) else (none)) else (none)) else (if x6 = true then (spec_Fields.l0 k x0 x3 x4 x8 (wrap64 (x9 + 1))) else (if x4 < 0 then (spec_Fields.l0 k x0 x3 x5 x8 (wrap64 (x9 + 1))) else (spec_Fields.l0 k x0 x3 x4 x8 (wrap64 (x9 + 1)))))
end
def spec_Fields.f (k : Nat) (a0 : ByteArray) : Option (List ByteArray) := spec_Fields.l0 k a0 ([] : List ByteArray) (-1) (a0.size : Int) 0
theorem spec_Fields.mono_l : ∀ k, (∀ y0 y1 y2 y3 y4, LeO (spec_Fields.l0 k y0 y1 y2 y3 y4) (spec_Fields.l0 (k + 1) y0 y1 y2 y3 y4)) ∧ (∀ y0 y1 y2 y3 y4 y5 y6, LeO (spec_Fields.j1 k y0 y1 y2 y3 y4 y5 y6) (spec_Fields.j1 (k + 1) y0 y1 y2 y3 y4 y5 y6)) ∧ (∀ y0 y1 y2 y3 y4 y5 y6 y7, LeO (spec_Fields.j2 k y0 y1 y2 y3 y4 y5 y6 y7) (spec_Fields.j2 (k + 1) y0 y1 y2 y3 y4 y5 y6 y7))
 | 0 => ⟨fun _ _ _ _ _ r h => by simp [spec_Fields.l0] at h, fun _ _ _ _ _ _ _ r h => by simp [spec_Fields.j1] at h, fun _ _ _ _ _ _ _ _ r h => by simp [spec_Fields.j2] at h⟩
 | k + 1 => by
  obtain ⟨ih0, ih1, ih2⟩ := spec_Fields.mono_l k
  refine ⟨?_, ?_, ?_⟩
  ·intro y0 y1 y2 y3 y4
   unfold spec_Fields.l0
   repeat' first
   | (with_reducible exact ih0 _ _ _ _ _)
   | (with_reducible exact ih1 _ _ _ _ _ _ _)
   | (with_reducible exact ih2 _ _ _ _ _ _ _ _)
   | (with_reducible exact LeO.refl _)
   | (with_reducible exact LeO.none _)
   | (with_reducible refine LeO.ite ?_ ?_)
   | (with_reducible refine LeO.bind ?_ (fun _ => ?_))
   | exact ih0 _ _ _ _ _
   | exact ih1 _ _ _ _ _ _ _
   | exact ih2 _ _ _ _ _ _ _ _
   | exact LeO.none _
   | refine LeO.ite ?_ ?_
   | refine LeO.bind ?_ (fun _ => ?_)
  ·intro y0 y1 y2 y3 y4 y5 y6
   unfold spec_Fields.j1
   repeat' first
   | (with_reducible exact ih0 _ _ _ _ _)
   | (with_reducible exact ih1 _ _ _ _ _ _ _)
   | (with_reducible exact ih2 _ _ _ _ _ _ _ _)
   | (with_reducible exact LeO.refl _)
   | (with_reducible exact LeO.none _)
   | (with_reducible refine LeO.ite ?_ ?_)
   | (with_reducible refine LeO.bind ?_ (fun _ => ?_))
   | exact ih0 _ _ _ _ _
   | exact ih1 _ _ _ _ _ _ _
   | exact ih2 _ _ _ _ _ _ _ _
   | exact LeO.none _
   | refine LeO.ite ?_ ?_
   | refine LeO.bind ?_ (fun _ => ?_)
  ·intro y0 y1 y2 y3 y4 y5 y6 y7
   unfold spec_Fields.j2
   repeat' first
   | (with_reducible exact ih0 _ _ _ _ _)
   | (with_reducible exact ih1 _ _ _ _ _ _ _)
   | (with_reducible exact ih2 _ _ _ _ _ _ _ _)
   | (with_reducible exact LeO.refl _)
   | (with_reducible exact LeO.none _)
   | (with_reducible refine LeO.ite ?_ ?_)
   | (with_reducible refine LeO.bind ?_ (fun _ => ?_))
   | exact ih0 _ _ _ _ _
   | exact ih1 _ _ _ _ _ _ _
   | exact ih2 _ _ _ _ _ _ _ _
   | exact LeO.none _
   | refine LeO.ite ?_ ?_
   | refine LeO.bind ?_ (fun _ => ?_)
theorem spec_Fields.mono : ∀ a0 k, LeO (spec_Fields.f k a0) (spec_Fields.f (k + 1) a0) := by
 intro a0 k
 obtain ⟨ih0, ih1, ih2⟩ := spec_Fields.mono_l k
 unfold spec_Fields.f
 repeat' first
   | (with_reducible exact ih0 _ _ _ _ _)
   | (with_reducible exact ih1 _ _ _ _ _ _ _)
   | (with_reducible exact ih2 _ _ _ _ _ _ _ _)
   | (with_reducible exact LeO.refl _)
   | (with_reducible exact LeO.none _)
   | (with_reducible refine LeO.ite ?_ ?_)
   | (with_reducible refine LeO.bind ?_ (fun _ => ?_))
   | exact ih0 _ _ _ _ _
   | exact ih1 _ _ _ _ _ _ _
   | exact ih2 _ _ _ _ _ _ _ _
   | exact LeO.none _
   | refine LeO.ite ?_ ?_
   | refine LeO.bind ?_ (fun _ => ?_)
set_option maxHeartbeats 8000000 in
set_option maxRecDepth 100000 in
theorem spec_Fields.calls (k : Nat) (a0 : ByteArray) (r : List ByteArray) (w : World) (h : spec_Fields.f k a0 = some r) :
  Calls Tryz.prog 39 #[.string a0] w fun e w' => ∃ v0_ : Value, e = .returned (v0_) ∧ Kd.R Kd.string 9 w' w.heap.size (fun _ => True) v0_ r ∧ Below w.heap.size w w' := by
 have HB := Aside0.mk (Below.refl w.heap.size w)
 have H : (spec_Fields.l0 k a0 ([] : List ByteArray) (-1) (a0.size : Int) 0) = some r := h
 clear h
 have H' := Aside0.mk H
 clear H
 go_enter Tryz.func39, Tryz.ntmps39
 go_wp2
 go_loopg [3, 4, 9] k (fun kq v3 v4 v9 w' => ∃ (x3_1 : List ByteArray) (x4_1 : Int) (x9_1 : Int), v4 = .int .i64 x4_1 ∧ v9 = .int .i64 x9_1 ∧ Aside0 (spec_Fields.l0 kq a0 x3_1 x4_1 (a0.size : Int) x9_1 = some r) ∧ Aside0 (kq ≤ k) ∧ Aside0 (Kd.R Kd.string 9 w' w.heap.size (fun _ => True) v3 x3_1) ∧ Aside0 (Below w.heap.size w w'))
 case atStart => exact ⟨(([] : List ByteArray)), ((-1)), (0), (by first | rfl | (simp; done) | (simp [*]; done) | (simp [bne_nil]; done) | (simp [bne_nil, *]; done)), (by first | rfl | (simp; done) | (simp [*]; done) | (simp [bne_nil]; done) | (simp [bne_nil, *]; done)), H', ⟨Nat.le_refl _⟩, ⟨by first | exact Kd.R_nil _ _ _ _ _ | exact Kd.N_nil _ _ _ _ _ | exact Kd.V_nil _ _ _ _ _ | exact Kd.Q_nil _ _ _ _ _ | exact Kd.S_nil _ _ _ _ _⟩, ⟨by repeat (first | (with_reducible first | exact HB.out | apply below_alloc | apply pw_below_drewN | apply below_drew1) | exact HB.out)⟩⟩
 case round =>
  clear H'
  obtain ⟨x3_1, x4_1, x9_1, rfl, rfl, HA, HK1, HO_3, HB⟩ := hrel
  cases gk with
  | zero => exact absurd HA.out (by simp [spec_Fields.l0])
  | succ k1 =>
   have H := HA.out
   clear HA
   simp only [spec_Fields.l0] at H
   by_cases c2 : x9_1 < (a0.size : Int)
   ·rw [if_pos c2] at H
    have c2b0 : decide (x9_1 < (a0.size : Int)) = true := decide_eq_true c2
    clear c2
    have HC3 := Aside0.mk H
    clear H
    go_upto_region 6 with (fail)
    go_cut [6] (fun v6 wc => ∃ (kq : Nat) (x6_2 : Bool), v6 = .bool x6_2 ∧ Aside0 (spec_Fields.j1 kq a0 x3_1 x4_1 x9_1 x6_2 (a0.size : Int) x9_1 = some r) ∧ Aside0 (kq ≤ k1) ∧ Aside0 (Kd.R Kd.string 9 wc w.heap.size (fun _ => True) u3 x3_1) ∧ Aside0 (Below w.heap.size w wc))
    case first =>
     have H := HC3.out
     clear HC3
     by_cases c4 : 0 ≤ x9_1
     ·rw [if_pos c4] at H
      have c4b0 : decide (0 ≤ x9_1) = true := decide_eq_true c4
      clear c4
      (first | rw [c4b0] | (simp only [i64_w, i32_w]; rw [c4b0]) | skip)
      by_cases c5 : x9_1 < (a0.size : Int)
      ·rw [if_pos c5] at H
       have c5b0 : decide (x9_1 < (a0.size : Int)) = true := decide_eq_true c5
       clear c5
       by_cases c7 : (bt a0 x9_1) = 32
       ·rw [if_pos c7] at H
        have c7b0 : ((bt a0 x9_1) == 32) = true := beq_iff_eq.mpr c7
        have c7b1 : ((bt a0 x9_1) != 32) = false := bne_eq_false_iff_eq.mpr c7
        clear c7
        have H' := Aside0.mk H
        clear H
        have p6 : 0 ≤ (x9_1 : Int) := of_decide_eq_true (by first | (with_reducible assumption) | assumption)
        have q6 : x9_1 < (a0.size : Int) := of_decide_eq_true (by first | (with_reducible assumption) | assumption)
        have hx6 := bt_at a0 x9_1
        replace p6 := eq_true p6
        replace q6 := eq_true q6
        go_wp2
        go_meet
        case rel => exact ⟨_, (true), (by first | rfl | (simp; done) | (simp [*]; done) | (simp [bne_nil]; done) | (simp [bne_nil, *]; done)), H', ⟨by have := HK1.out; first | omega | exact Nat.le_refl _⟩, ⟨by (with_reducible repeat (first | apply Kd.R_alloc | apply Kd.R_drewN | apply Kd.R_drew)); exact HO_3.out⟩, ⟨by repeat (first | (with_reducible first | exact HB.out | apply below_alloc | apply pw_below_drewN | apply below_drew1) | exact HB.out)⟩⟩
       ·rw [if_neg c7] at H
        have c7b0 : ((bt a0 x9_1) == 32) = false := beq_eq_false_iff_ne.mpr c7
        have c7b1 : ((bt a0 x9_1) != 32) = true := bne_iff_ne.mpr c7
        have H' := Aside0.mk H
        clear H
        have p6 : 0 ≤ (x9_1 : Int) := of_decide_eq_true (by first | (with_reducible assumption) | assumption)
        have q6 : x9_1 < (a0.size : Int) := of_decide_eq_true (by first | (with_reducible assumption) | assumption)
        have hx6 := bt_at a0 x9_1
        replace p6 := eq_true p6
        replace q6 := eq_true q6
        have p8 : 0 ≤ (x9_1 : Int) := of_decide_eq_true (by first | (with_reducible assumption) | assumption)
        have q8 : x9_1 < (a0.size : Int) := of_decide_eq_true (by first | (with_reducible assumption) | assumption)
        have hx8 := bt_at a0 x9_1
        replace p8 := eq_true p8
        replace q8 := eq_true q8
        go_wp2
        go_meet
        case rel => exact ⟨_, (((bt a0 x9_1) == 9)), (by first | rfl | (simp; done) | (simp [*]; done) | (simp [bne_nil]; done) | (simp [bne_nil, *]; done)), H', ⟨by have := HK1.out; first | omega | exact Nat.le_refl _⟩, ⟨by (with_reducible repeat (first | apply Kd.R_alloc | apply Kd.R_drewN | apply Kd.R_drew)); exact HO_3.out⟩, ⟨by repeat (first | (with_reducible first | exact HB.out | apply below_alloc | apply pw_below_drewN | apply below_drew1) | exact HB.out)⟩⟩
      ·rw [if_neg c5] at H
       exact absurd H (by simp)
     ·rw [if_neg c4] at H
      exact absurd H (by simp)
    case rest =>
     clear HC3
     try clear c2
     try clear c2b0
     try clear p2
     try clear c3
     try clear c4
     try clear c4b0
     try clear c5
     try clear c5b0
     try clear p6
     try clear q6
     try clear hx6
     try clear c7
     try clear c7b0
     try clear c7b1
     try clear p8
     try clear q8
     try clear hx8
     try clear p6
     try clear p8
     try clear q6
     try clear q8
     obtain ⟨kq, x6_2, rfl, HA, HJ2, HO_3, HB⟩ := hcut
     cases kq with
     | zero => exact absurd HA.out (by simp [spec_Fields.j1])
     | succ kj2 =>
      have H := HA.out
      clear HA
      simp only [spec_Fields.j1] at H
      have HC9 := Aside0.mk H
      clear H
      go_upto_region 7 with (fail)
      go_cut [22] (fun v22 wc => ∃ (kq : Nat) (x22_8 : Bool), v22 = .bool x22_8 ∧ Aside0 (spec_Fields.j2 kq a0 x3_1 x4_1 x9_1 x6_2 (a0.size : Int) x9_1 x22_8 = some r) ∧ Aside0 (kq ≤ kj2) ∧ Aside0 (Kd.R Kd.string 9 wc w.heap.size (fun _ => True) u3 x3_1) ∧ Aside0 (Below w.heap.size w wc))
      case first =>
       have H := HC9.out
       clear HC9
       by_cases c10 : x6_2 = true
       ·subst c10
        have H1 : (spec_Fields.j2 kj2 a0 x3_1 x4_1 x9_1 true (a0.size : Int) x9_1 (decide (x4_1 ≥ 0))) = some r := by rw [if_pos rfl] at H; exact H
        clear H
        have H := H1
        clear H1
        have H' := Aside0.mk H
        clear H
        go_wp2
        go_meet
        case rel => exact ⟨_, (decide (x4_1 ≥ 0)), (by first | rfl | (simp; done) | (simp [*]; done) | (simp [bne_nil]; done) | (simp [bne_nil, *]; done)), H', ⟨by have := HK1.out; have := HJ2.out; first | omega | exact Nat.le_refl _⟩, ⟨by (with_reducible repeat (first | apply Kd.R_alloc | apply Kd.R_drewN | apply Kd.R_drew)); exact HO_3.out⟩, ⟨by repeat (first | (with_reducible first | exact HB.out | apply below_alloc | apply pw_below_drewN | apply below_drew1) | exact HB.out)⟩⟩
       ·replace c10 := Bool.eq_false_iff.mpr c10
        subst c10
        have H1 : (spec_Fields.j2 kj2 a0 x3_1 x4_1 x9_1 false (a0.size : Int) x9_1 false) = some r := by rw [if_neg (show ¬ (false = true) by decide)] at H; exact H
        clear H
        have H := H1
        clear H1
        have H' := Aside0.mk H
        clear H
        go_wp2
        go_meet
        case rel => exact ⟨_, (false), (by first | rfl | (simp; done) | (simp [*]; done) | (simp [bne_nil]; done) | (simp [bne_nil, *]; done)), H', ⟨by have := HK1.out; have := HJ2.out; first | omega | exact Nat.le_refl _⟩, ⟨by (with_reducible repeat (first | apply Kd.R_alloc | apply Kd.R_drewN | apply Kd.R_drew)); exact HO_3.out⟩, ⟨by repeat (first | (with_reducible first | exact HB.out | apply below_alloc | apply pw_below_drewN | apply below_drew1) | exact HB.out)⟩⟩
      case rest =>
       clear HC9
       try clear c1
       try clear c2
       try clear c2b0
       try clear p2
       try clear c3
       try clear c4
       try clear c4b0
       try clear c5
       try clear c5b0
       try clear p6
       try clear q6
       try clear hx6
       try clear c7
       try clear c7b0
       try clear c7b1
       try clear p8
       try clear q8
       try clear hx8
       try clear c10
       try clear p2
       try clear p6
       try clear p8
       try clear q6
       try clear q8
       obtain ⟨kq, x22_8, rfl, HA, HJ8, HO_3, HB⟩ := hcut
       cases kq with
       | zero => exact absurd HA.out (by simp [spec_Fields.j2])
       | succ kj8 =>
        have H := HA.out
        clear HA
        simp only [spec_Fields.j2] at H
        by_cases c11 : x22_8 = true
        ·subst c11
         have H1 : (if 0 ≤ x4_1 then (if x4_1 ≤ x9_1 then (if x9_1 ≤ (a0.size : Int) then (if x3_1.length < 8796093022208 then (spec_Fields.l0 kj8 a0 (x3_1 ++ [a0.extract (x4_1 : Int).toNat (x9_1 : Int).toNat]) (-1) (a0.size : Int) (wrap64 (x9_1 + 1))) else (none)) else (none)) else (none)) else (none)) = some r := by rw [if_pos rfl] at H; exact H
         clear H
         have H := H1
         clear H1
         by_cases c12 : 0 ≤ x4_1
         ·rw [if_pos c12] at H
          have c12b0 := eq_true c12
          have c12b1 : decide (0 ≤ x4_1) = true := decide_eq_true c12
          clear c12
          by_cases c13 : x4_1 ≤ x9_1
          ·rw [if_pos c13] at H
           have c13b0 := eq_true c13
           have c13b1 : decide (x4_1 ≤ x9_1) = true := decide_eq_true c13
           clear c13
           by_cases c14 : x9_1 ≤ (a0.size : Int)
           ·rw [if_pos c14] at H
            have c14b0 := eq_true c14
            have c14b1 : decide (x9_1 ≤ (a0.size : Int)) = true := decide_eq_true c14
            clear c14
            by_cases c15 : x3_1.length < 8796093022208
            ·rw [if_pos c15] at H
             have LMc15 := Aside0.mk c15
             clear c15
             obtain ⟨y110, hy110⟩ : ∃ y_ : List ByteArray, y_ = (x3_1 ++ [a0.extract (x4_1 : Int).toNat (x9_1 : Int).toNat]) := ⟨_, rfl⟩
             replace H : (spec_Fields.l0 kj8 a0 y110 (-1) (a0.size : Int) (wrap64 (x9_1 + 1))) = some r := by first | (rw [hy110]; with_reducible exact H) | (have H2_ := (Option.bind_some _ _).symm.trans H; rw [hy110]; with_reducible exact H2_) | (have H2_ := (Option.bind_some _ _).symm.trans H; with_reducible exact H2_) | with_reducible exact H | (rw [hy110]; exact H) | exact H
             have Ny110 := Aside0.mk hy110
             clear hy110
             have H' := Aside0.mk H
             clear H
             go_wp2_with (first | ((with_reducible refine gate_builtin (b := .append) (xs := #[.tmp 28, .tmp 33]) rfl ?_); at_builtin; refine Kd.R_append Kd.string (w0 := w) w.heap.size rfl (.tmp 28) (.tmp 33) 42 9 (.string ⟨#[]⟩) 16 rfl Tryz.underlying42 info9 rfl (by decide) (by omega) u3 x3_1 (a0.extract (x4_1 : Int).toNat (x9_1 : Int).toNat) [.string (a0.extract (x4_1 : Int).toNat (x9_1 : Int).toNat)] (fun _ => True) (fun _ => False) rfl rfl ?aP (fun _ hk => hk.elim) ?aF ?aO ?aB ?aS ?aL ?_; (case aP => exact rfl); (case aB => exact belH); (case aF => exact (fun _ _ => trivial)); (case aO => exact (by (with_reducible repeat (first | apply Kd.R_alloc | apply Kd.R_drewN | apply Kd.R_drew)); exact HO_3.out)); (case aS => exact (below_size belH)); (case aL => have := LMc15.out; omega); intro v111 w16 ho hb hg hat; rw [← Ny110.out] at ho; have n0_ := Aside0.mk (hb); have n1_ := Aside0.mk (ho); clear HB; clear HO_3; have HB := n0_; have HO112 := n1_; clear n0_ n1_; clear ho hb hg hat))
             go_roundg kj8
             case measure => have := HK1.out; have := HJ2.out; have := HJ8.out; omega
             case rel => exact ⟨(y110), ((-1)), (wrap64 (x9_1 + 1)), (by first | rfl | (simp; done) | (simp [*]; done) | (simp [bne_nil]; done) | (simp [bne_nil, *]; done)), (by first | rfl | (simp; done) | (simp [*]; done) | (simp [bne_nil]; done) | (simp [bne_nil, *]; done)), H', ⟨by have := HK1.out; have := HJ2.out; have := HJ8.out; omega⟩, ⟨by (with_reducible repeat (first | apply Kd.R_alloc | apply Kd.R_drewN | apply Kd.R_drew)); exact HO112.out⟩, ⟨by repeat (first | (with_reducible first | exact HB.out | apply below_alloc | apply pw_below_drewN | apply below_drew1) | exact HB.out)⟩⟩
            ·rw [if_neg c15] at H
             exact absurd H (by simp)
           ·rw [if_neg c14] at H
            exact absurd H (by simp)
          ·rw [if_neg c13] at H
           exact absurd H (by simp)
         ·rw [if_neg c12] at H
          exact absurd H (by simp)
        ·replace c11 := Bool.eq_false_iff.mpr c11
         subst c11
         have H1 : (if x6_2 = true then (spec_Fields.l0 kj8 a0 x3_1 x4_1 (a0.size : Int) (wrap64 (x9_1 + 1))) else (if x4_1 < 0 then (spec_Fields.l0 kj8 a0 x3_1 x9_1 (a0.size : Int) (wrap64 (x9_1 + 1))) else (spec_Fields.l0 kj8 a0 x3_1 x4_1 (a0.size : Int) (wrap64 (x9_1 + 1))))) = some r := by rw [if_neg (show ¬ (false = true) by decide)] at H; exact H
         clear H
         have H := H1
         clear H1
         by_cases c17 : x6_2 = true
         ·subst c17
          have H1 : (spec_Fields.l0 kj8 a0 x3_1 x4_1 (a0.size : Int) (wrap64 (x9_1 + 1))) = some r := by rw [if_pos rfl] at H; exact H
          clear H
          have H := H1
          clear H1
          have H' := Aside0.mk H
          clear H
          go_wp2
          go_roundg kj8
          case measure => have := HK1.out; have := HJ2.out; have := HJ8.out; omega
          case rel => exact ⟨(x3_1), (x4_1), (wrap64 (x9_1 + 1)), (by first | rfl | (simp; done) | (simp [*]; done) | (simp [bne_nil]; done) | (simp [bne_nil, *]; done)), (by first | rfl | (simp; done) | (simp [*]; done) | (simp [bne_nil]; done) | (simp [bne_nil, *]; done)), H', ⟨by have := HK1.out; have := HJ2.out; have := HJ8.out; omega⟩, ⟨by (with_reducible repeat (first | apply Kd.R_alloc | apply Kd.R_drewN | apply Kd.R_drew)); exact HO_3.out⟩, ⟨by repeat (first | (with_reducible first | exact HB.out | apply below_alloc | apply pw_below_drewN | apply below_drew1) | exact HB.out)⟩⟩
         ·replace c17 := Bool.eq_false_iff.mpr c17
          subst c17
          have H1 : (if x4_1 < 0 then (spec_Fields.l0 kj8 a0 x3_1 x9_1 (a0.size : Int) (wrap64 (x9_1 + 1))) else (spec_Fields.l0 kj8 a0 x3_1 x4_1 (a0.size : Int) (wrap64 (x9_1 + 1)))) = some r := by rw [if_neg (show ¬ (false = true) by decide)] at H; exact H
          clear H
          have H := H1
          clear H1
          by_cases c18 : x4_1 < 0
          ·rw [if_pos c18] at H
           have c18b0 : decide (x4_1 < 0) = true := decide_eq_true c18
           clear c18
           have H' := Aside0.mk H
           clear H
           go_wp2
           go_roundg kj8
           case measure => have := HK1.out; have := HJ2.out; have := HJ8.out; omega
           case rel => exact ⟨(x3_1), (x9_1), (wrap64 (x9_1 + 1)), (by first | rfl | (simp; done) | (simp [*]; done) | (simp [bne_nil]; done) | (simp [bne_nil, *]; done)), (by first | rfl | (simp; done) | (simp [*]; done) | (simp [bne_nil]; done) | (simp [bne_nil, *]; done)), H', ⟨by have := HK1.out; have := HJ2.out; have := HJ8.out; omega⟩, ⟨by (with_reducible repeat (first | apply Kd.R_alloc | apply Kd.R_drewN | apply Kd.R_drew)); exact HO_3.out⟩, ⟨by repeat (first | (with_reducible first | exact HB.out | apply below_alloc | apply pw_below_drewN | apply below_drew1) | exact HB.out)⟩⟩
          ·rw [if_neg c18] at H
           have c18b0 : decide (x4_1 < 0) = false := decide_eq_false c18
           clear c18
           have H' := Aside0.mk H
           clear H
           go_wp2
           go_roundg kj8
           case measure => have := HK1.out; have := HJ2.out; have := HJ8.out; omega
           case rel => exact ⟨(x3_1), (x4_1), (wrap64 (x9_1 + 1)), (by first | rfl | (simp; done) | (simp [*]; done) | (simp [bne_nil]; done) | (simp [bne_nil, *]; done)), (by first | rfl | (simp; done) | (simp [*]; done) | (simp [bne_nil]; done) | (simp [bne_nil, *]; done)), H', ⟨by have := HK1.out; have := HJ2.out; have := HJ8.out; omega⟩, ⟨by (with_reducible repeat (first | apply Kd.R_alloc | apply Kd.R_drewN | apply Kd.R_drew)); exact HO_3.out⟩, ⟨by repeat (first | (with_reducible first | exact HB.out | apply below_alloc | apply pw_below_drewN | apply below_drew1) | exact HB.out)⟩⟩
   ·rw [if_neg c2] at H
    have c2b0 : decide (x9_1 < (a0.size : Int)) = false := decide_eq_false c2
    clear c2
    by_cases c19 : x4_1 ≥ 0
    ·rw [if_pos c19] at H
     have c19b0 : decide (0 ≤ x4_1) = true := decide_eq_true c19
     clear c19
     by_cases c20 : 0 ≤ x4_1
     ·rw [if_pos c20] at H
      have c20b0 := eq_true c20
      have c20b1 : decide (0 ≤ x4_1) = true := decide_eq_true c20
      clear c20
      by_cases c21 : x4_1 ≤ (a0.size : Int)
      ·rw [if_pos c21] at H
       have c21b0 := eq_true c21
       have c21b1 : decide (x4_1 ≤ (a0.size : Int)) = true := decide_eq_true c21
       clear c21
       by_cases c22 : x3_1.length < 8796093022208
       ·rw [if_pos c22] at H
        have LMc22 := Aside0.mk c22
        clear c22
        obtain ⟨y107, hy107⟩ : ∃ y_ : List ByteArray, y_ = (x3_1 ++ [a0.extract (x4_1 : Int).toNat a0.size]) := ⟨_, rfl⟩
        replace H : (some y107) = some r := by first | (rw [hy107]; with_reducible exact H) | (have H2_ := (Option.bind_some _ _).symm.trans H; rw [hy107]; with_reducible exact H2_) | (have H2_ := (Option.bind_some _ _).symm.trans H; with_reducible exact H2_) | with_reducible exact H | (rw [hy107]; exact H) | exact H
        have Ny107 := Aside0.mk hy107
        clear hy107
        obtain rfl := Option.some.inj H
        go_wp2_with (first | ((with_reducible refine gate_builtin (b := .append) (xs := #[.tmp 46, .tmp 50]) rfl ?_); at_builtin; refine Kd.R_append Kd.string (w0 := w) w.heap.size rfl (.tmp 46) (.tmp 50) 42 9 (.string ⟨#[]⟩) 16 rfl Tryz.underlying42 info9 rfl (by decide) (by omega) u3 x3_1 (a0.extract (x4_1 : Int).toNat a0.size) [.string (a0.extract (x4_1 : Int).toNat a0.size)] (fun _ => True) (fun _ => False) rfl rfl ?aP (fun _ hk => hk.elim) ?aF ?aO ?aB ?aS ?aL ?_; (case aP => exact rfl); (case aB => exact belH); (case aF => exact (fun _ _ => trivial)); (case aO => exact (by (with_reducible repeat (first | apply Kd.R_alloc | apply Kd.R_drewN | apply Kd.R_drew)); exact HO_3.out)); (case aS => exact (below_size belH)); (case aL => have := LMc22.out; omega); intro v108 w23 ho hb hg hat; rw [← Ny107.out] at ho; have n0_ := Aside0.mk (hb); have n1_ := Aside0.mk (ho); clear HB; clear HO_3; have HB := n0_; have HO109 := n1_; clear n0_ n1_; clear ho hb hg hat))
        go_ret
        exact ⟨_, by first | rfl | (simp [errW_none, errW_some] <;> rfl) | (simp [*, errW_none, errW_some] <;> rfl), by (with_reducible repeat (first | apply Kd.R_alloc | apply Kd.R_drewN | apply Kd.R_drew)); exact HO109.out, by repeat (first | (with_reducible first | exact HB.out | apply below_alloc | apply pw_below_drewN | apply below_drew1) | exact HB.out)⟩
       ·rw [if_neg c22] at H
        exact absurd H (by simp)
      ·rw [if_neg c21] at H
       exact absurd H (by simp)
     ·rw [if_neg c20] at H
      exact absurd H (by simp)
    ·rw [if_neg c19] at H
     have c19b0 : decide (0 ≤ x4_1) = false := decide_eq_false c19
     clear c19
     obtain rfl := Option.some.inj H
     go_wp2
     go_ret
     exact ⟨_, by first | rfl | (simp [errW_none, errW_some] <;> rfl) | (simp [*, errW_none, errW_some] <;> rfl), by (with_reducible repeat (first | apply Kd.R_alloc | apply Kd.R_drewN | apply Kd.R_drew)); exact HO_3.out, by repeat (first | (with_reducible first | exact HB.out | apply below_alloc | apply pw_below_drewN | apply below_drew1) | exact HB.out)⟩

/-! ### spec_single: function 40 -/
/-! ### spec_digit: function 143 -/
mutual
def spec_digit.j0 : Nat → Int → Bool → Option (Int)
 | 0, _, _ => none
 | k + 1, x0, x3 => if x3 = true then (some ((x0 - 48) % 256)) else (if x0 ≥ 97 then (spec_digit.j1 k x0 (decide (x0 ≤ 102))) else (spec_digit.j1 k x0 false))
def spec_digit.j1 : Nat → Int → Bool → Option (Int)
 | 0, _, _ => none
 | k + 1, x0, x13 => if x13 = true then (some (((x0 - 97) % 256) + 10)) else (if x0 ≥ 65 then (if x0 ≤ 70 then (some (((x0 - 65) % 256) + 10)) else (some 99)) else (some 99))
end
def spec_digit.f (k : Nat) (a0 : Int) : Option (Int) := if a0 ≥ 48 then (spec_digit.j0 k a0 (decide (a0 ≤ 57))) else (spec_digit.j0 k a0 false)
theorem spec_digit.mono_l : ∀ k, (∀ y0 y1, LeO (spec_digit.j0 k y0 y1) (spec_digit.j0 (k + 1) y0 y1)) ∧ (∀ y0 y1, LeO (spec_digit.j1 k y0 y1) (spec_digit.j1 (k + 1) y0 y1))
 | 0 => ⟨fun _ _ r h => by simp [spec_digit.j0] at h, fun _ _ r h => by simp [spec_digit.j1] at h⟩
 | k + 1 => by
  obtain ⟨ih0, ih1⟩ := spec_digit.mono_l k
  refine ⟨?_, ?_⟩
  ·intro y0 y1
   unfold spec_digit.j0
   repeat' first
   | (with_reducible exact ih0 _ _)
   | (with_reducible exact ih1 _ _)
   | (with_reducible exact LeO.refl _)
   | (with_reducible exact LeO.none _)
   | (with_reducible refine LeO.ite ?_ ?_)
   | (with_reducible refine LeO.bind ?_ (fun _ => ?_))
   | exact ih0 _ _
   | exact ih1 _ _
   | exact LeO.none _
   | refine LeO.ite ?_ ?_
   | refine LeO.bind ?_ (fun _ => ?_)
  ·intro y0 y1
   unfold spec_digit.j1
   repeat' first
   | (with_reducible exact ih0 _ _)
   | (with_reducible exact ih1 _ _)
   | (with_reducible exact LeO.refl _)
   | (with_reducible exact LeO.none _)
   | (with_reducible refine LeO.ite ?_ ?_)
   | (with_reducible refine LeO.bind ?_ (fun _ => ?_))
   | exact ih0 _ _
   | exact ih1 _ _
   | exact LeO.none _
   | refine LeO.ite ?_ ?_
   | refine LeO.bind ?_ (fun _ => ?_)
theorem spec_digit.mono : ∀ a0 k, LeO (spec_digit.f k a0) (spec_digit.f (k + 1) a0) := by
 intro a0 k
 obtain ⟨ih0, ih1⟩ := spec_digit.mono_l k
 unfold spec_digit.f
 repeat' first
   | (with_reducible exact ih0 _ _)
   | (with_reducible exact ih1 _ _)
   | (with_reducible exact LeO.refl _)
   | (with_reducible exact LeO.none _)
   | (with_reducible refine LeO.ite ?_ ?_)
   | (with_reducible refine LeO.bind ?_ (fun _ => ?_))
   | exact ih0 _ _
   | exact ih1 _ _
   | exact LeO.none _
   | refine LeO.ite ?_ ?_
   | refine LeO.bind ?_ (fun _ => ?_)
set_option maxHeartbeats 8000000 in
set_option maxRecDepth 100000 in
theorem spec_digit.calls (k : Nat) (a0 : Int) (r : Int) (w : World) (h : spec_digit.f k a0 = some r) :
  Calls Tryz.prog 143 #[.int .u8 a0] w fun e w' => e = .returned (.int .u64 r) ∧ Drawn0 w w' := by
 have H : (if a0 ≥ 48 then (spec_digit.j0 k a0 (decide (a0 ≤ 57))) else (spec_digit.j0 k a0 false)) = some r := h
 clear h
 have HC2 := Aside0.mk H
 clear H
 go_enter Tryz.func143, Tryz.ntmps143
 go_upto_region 1 with (fail)
 go_cut [3] (fun v3 wc => ∃ (kq : Nat) (x3_1 : Bool), v3 = .bool x3_1 ∧ Aside0 (spec_digit.j0 kq a0 x3_1 = some r) ∧ Aside0 (kq ≤ k) ∧ Drawn0 w wc)
 case first =>
  have H := HC2.out
  clear HC2
  by_cases c3 : a0 ≥ 48
  ·rw [if_pos c3] at H
   have c3b0 : decide (48 ≤ a0) = true := decide_eq_true c3
   clear c3
   (first | rw [c3b0] | (simp only [i64_w, i32_w]; rw [c3b0]) | skip)
   have H' := Aside0.mk H
   clear H
   go_wp2
   go_meet
   case rel => exact ⟨_, (decide (a0 ≤ 57)), (by first | rfl | (simp; done) | (simp [*]; done) | (simp [bne_nil]; done) | (simp [bne_nil, *]; done)), H', ⟨by first | omega | exact Nat.le_refl _⟩, by repeat (first | exact Drawn0.refl _ | apply Drawn0.step)⟩
  ·rw [if_neg c3] at H
   have c3b0 : decide (48 ≤ a0) = false := decide_eq_false c3
   clear c3
   (first | rw [c3b0] | (simp only [i64_w, i32_w]; rw [c3b0]) | skip)
   have H' := Aside0.mk H
   clear H
   go_wp2
   go_meet
   case rel => exact ⟨_, (false), (by first | rfl | (simp; done) | (simp [*]; done) | (simp [bne_nil]; done) | (simp [bne_nil, *]; done)), H', ⟨by first | omega | exact Nat.le_refl _⟩, by repeat (first | exact Drawn0.refl _ | apply Drawn0.step)⟩
 case rest =>
  clear HC2
  try clear c1
  try clear p2
  try clear c3
  try clear c3b0
  obtain ⟨kq, x3_1, rfl, HA, HJ1, ⟨mc1, rfl⟩⟩ := hcut
  cases kq with
  | zero => exact absurd HA.out (by simp [spec_digit.j0])
  | succ kj1 =>
   have H := HA.out
   clear HA
   simp only [spec_digit.j0] at H
   by_cases c4 : x3_1 = true
   ·subst c4
    have H1 : (some ((a0 - 48) % 256)) = some r := by rw [if_pos rfl] at H; exact H
    clear H
    have H := H1
    clear H1
    obtain rfl := Option.some.inj H
    go_wp2
    go_ret
    exact ⟨by first | rfl | (simp; done) | (simp [*]; done) | (simp [bne_nil]; done) | (simp [bne_nil, *]; done), by repeat (first | exact Drawn0.refl _ | apply Drawn0.step)⟩
   ·replace c4 := Bool.eq_false_iff.mpr c4
    subst c4
    have H1 : (if a0 ≥ 97 then (spec_digit.j1 kj1 a0 (decide (a0 ≤ 102))) else (spec_digit.j1 kj1 a0 false)) = some r := by rw [if_neg (show ¬ (false = true) by decide)] at H; exact H
    clear H
    have H := H1
    clear H1
    have HC5 := Aside0.mk H
    clear H
    go_upto_region 3 with (fail)
    go_cut [13] (fun v13 wc => ∃ (kq : Nat) (x13_4 : Bool), v13 = .bool x13_4 ∧ Aside0 (spec_digit.j1 kq a0 x13_4 = some r) ∧ Aside0 (kq ≤ kj1) ∧ Drawn0 w wc)
    case first =>
     have H := HC5.out
     clear HC5
     by_cases c6 : a0 ≥ 97
     ·rw [if_pos c6] at H
      have c6b0 : decide (97 ≤ a0) = true := decide_eq_true c6
      clear c6
      (first | rw [c6b0] | (simp only [i64_w, i32_w]; rw [c6b0]) | skip)
      have H' := Aside0.mk H
      clear H
      go_wp2
      go_meet
      case rel => exact ⟨_, (decide (a0 ≤ 102)), (by first | rfl | (simp; done) | (simp [*]; done) | (simp [bne_nil]; done) | (simp [bne_nil, *]; done)), H', ⟨by have := HJ1.out; first | omega | exact Nat.le_refl _⟩, by repeat (first | exact Drawn0.refl _ | apply Drawn0.step)⟩
     ·rw [if_neg c6] at H
      have c6b0 : decide (97 ≤ a0) = false := decide_eq_false c6
      clear c6
      (first | rw [c6b0] | (simp only [i64_w, i32_w]; rw [c6b0]) | skip)
      have H' := Aside0.mk H
      clear H
      go_wp2
      go_meet
      case rel => exact ⟨_, (false), (by first | rfl | (simp; done) | (simp [*]; done) | (simp [bne_nil]; done) | (simp [bne_nil, *]; done)), H', ⟨by have := HJ1.out; first | omega | exact Nat.le_refl _⟩, by repeat (first | exact Drawn0.refl _ | apply Drawn0.step)⟩
    case rest =>
     clear HC5
     try clear c1
     try clear p2
     try clear c3
     try clear c3b0
     try clear c4
     try clear c6
     try clear c6b0
     try clear p2
     obtain ⟨kq, x13_4, rfl, HA, HJ4, ⟨mc4, rfl⟩⟩ := hcut
     cases kq with
     | zero => exact absurd HA.out (by simp [spec_digit.j1])
     | succ kj4 =>
      have H := HA.out
      clear HA
      simp only [spec_digit.j1] at H
      by_cases c7 : x13_4 = true
      ·subst c7
       have H1 : (some (((a0 - 97) % 256) + 10)) = some r := by rw [if_pos rfl] at H; exact H
       clear H
       have H := H1
       clear H1
       obtain rfl := Option.some.inj H
       go_wp2
       go_ret
       exact ⟨by first | rfl | (simp; done) | (simp [*]; done) | (simp [bne_nil]; done) | (simp [bne_nil, *]; done), by repeat (first | exact Drawn0.refl _ | apply Drawn0.step)⟩
      ·replace c7 := Bool.eq_false_iff.mpr c7
       subst c7
       have H1 : (if a0 ≥ 65 then (if a0 ≤ 70 then (some (((a0 - 65) % 256) + 10)) else (some 99)) else (some 99)) = some r := by rw [if_neg (show ¬ (false = true) by decide)] at H; exact H
       clear H
       have H := H1
       clear H1
       by_cases c8 : a0 ≥ 65
       ·rw [if_pos c8] at H
        have c8b0 : decide (65 ≤ a0) = true := decide_eq_true c8
        clear c8
        by_cases c9 : a0 ≤ 70
        ·rw [if_pos c9] at H
         have c9b0 : decide (a0 ≤ 70) = true := decide_eq_true c9
         clear c9
         obtain rfl := Option.some.inj H
         go_wp2
         go_ret
         exact ⟨by first | rfl | (simp; done) | (simp [*]; done) | (simp [bne_nil]; done) | (simp [bne_nil, *]; done), by repeat (first | exact Drawn0.refl _ | apply Drawn0.step)⟩
        ·rw [if_neg c9] at H
         have c9b0 : decide (a0 ≤ 70) = false := decide_eq_false c9
         clear c9
         obtain rfl := Option.some.inj H
         go_wp2
         go_ret
         exact ⟨by first | rfl | (simp; done) | (simp [*]; done) | (simp [bne_nil]; done) | (simp [bne_nil, *]; done), by repeat (first | exact Drawn0.refl _ | apply Drawn0.step)⟩
       ·rw [if_neg c8] at H
        have c8b0 : decide (65 ≤ a0) = false := decide_eq_false c8
        clear c8
        obtain rfl := Option.some.inj H
        go_wp2
        go_ret
        exact ⟨by first | rfl | (simp; done) | (simp [*]; done) | (simp [bne_nil]; done) | (simp [bne_nil, *]; done), by repeat (first | exact Drawn0.refl _ | apply Drawn0.step)⟩

end Go.Proofs.YtdmpbaanonafbaaGreatDoor.L
