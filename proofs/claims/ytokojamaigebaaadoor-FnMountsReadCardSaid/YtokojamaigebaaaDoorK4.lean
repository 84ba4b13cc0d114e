-- written by a program of this session (wip/tools/pp.py)
import Derived.Test.YtokojamaigebaaaDoorK1
import Derived.Test.YtokojamaigebaaaDoorK2
import Derived.Test.YtokojamaigebaaaDoorK3
namespace Go.Proofs.YtokojamaigebaaaDoor.K
open Go.RowKit Go.Proofs.YtokojamaigebaaaDoorW.PrintWords Go.Proofs.YtokojamaigebaaaDoorW.PrintLast Go.Proofs.YtokojamaigebaaaDoor.M Go.Proofs.YtokojamaigebaaaDoor.MtDoorE Go.Proofs.YtokojamaigebaaaDoor.L Go.Proofs.YtokojamaigebaaaDoorW.PrintMore
attribute [local go_sem] max2_int min2_int max_two min_two max_three min_three max_four min_four   -- for this text's walks alone
set_option linter.unusedVariables false
set_option linter.unusedSimpArgs false

attribute [local go_sem high] eqA23
/-! ### laws_sameMounts: function 15 -/
def laws_sameMounts.l0 : Nat → List (S23) → List (S23) → Int → Int → Option (Bool)
 | 0, _, _, _, _ => none
 | k + 1, x0, x1, x12, x13 => if x13 < x12 then (if 0 ≤ x13 then (if x13 < (x0.length : Int) then (if x13 < (x1.length : Int) then (if (!(((rd_T23 x0 x13).f0) == ((rd_T23 x1 x13).f0)) || (!(((rd_T23 x0 x13).f1) == ((rd_T23 x1 x13).f1)) || (!(((rd_T23 x0 x13).f2) == ((rd_T23 x1 x13).f2)) || (!(((rd_T23 x0 x13).f3) == ((rd_T23 x1 x13).f3)) || (!((((rd_T23 x0 x13).f4).toList) == (((rd_T23 x1 x13).f4).toList)) || (!((((rd_T23 x0 x13).f5).toList) == (((rd_T23 x1 x13).f5).toList)) || (!((((rd_T23 x0 x13).f6).toList) == (((rd_T23 x1 x13).f6).toList)) || (!((((rd_T23 x0 x13).f7).toList) == (((rd_T23 x1 x13).f7).toList)) || (!((((rd_T23 x0 x13).f8).toList) == (((rd_T23 x1 x13).f8).toList)) || (!((((rd_T23 x0 x13).f9).toList) == (((rd_T23 x1 x13).f9).toList)) || (!((((rd_T23 x0 x13).f10).toList) == (((rd_T23 x1 x13).f10).toList))))))))))))) = true then (some false) else (laws_sameMounts.l0 k x0 x1 x12 (wrap64 (x13 + 1)))) else (none)) else (none)) else (none)) else (some true)
def laws_sameMounts.f (k : Nat) (l0 : List (S23)) (l1 : List (S23)) : Option (Bool) := if (l0.length : Int) = (l1.length : Int) then (laws_sameMounts.l0 k l0 l1 (l0.length : Int) 0) else (some false)
theorem laws_sameMounts.mono_l : ∀ k, (∀ y0 y1 y2 y3, LeO (laws_sameMounts.l0 k y0 y1 y2 y3) (laws_sameMounts.l0 (k + 1) y0 y1 y2 y3))
 | 0 => fun _ _ _ _ r h => by simp [laws_sameMounts.l0] at h
 | k + 1 => by
  have ih0 := laws_sameMounts.mono_l k
  ·intro y0 y1 y2 y3
   unfold laws_sameMounts.l0
   repeat' first
   | (with_reducible exact ih0 _ _ _ _)
   | (with_reducible exact LeO.refl _)
   | (with_reducible exact LeO.none _)
   | (with_reducible refine LeO.ite ?_ ?_)
   | (with_reducible refine LeO.bind ?_ (fun _ => ?_))
   | exact ih0 _ _ _ _
   | exact LeO.none _
   | refine LeO.ite ?_ ?_
   | refine LeO.bind ?_ (fun _ => ?_)
theorem laws_sameMounts.mono : ∀ a0 a1 k, LeO (laws_sameMounts.f k a0 a1) (laws_sameMounts.f (k + 1) a0 a1) := by
 intro a0 a1 k
 have ih0 := laws_sameMounts.mono_l k
 unfold laws_sameMounts.f
 repeat' first
   | (with_reducible exact ih0 _ _ _ _)
   | (with_reducible exact LeO.refl _)
   | (with_reducible exact LeO.none _)
   | (with_reducible refine LeO.ite ?_ ?_)
   | (with_reducible refine LeO.bind ?_ (fun _ => ?_))
   | exact ih0 _ _ _ _
   | exact LeO.none _
   | refine LeO.ite ?_ ?_
   | refine LeO.bind ?_ (fun _ => ?_)
set_option maxHeartbeats 8000000 in
set_option maxRecDepth 100000 in
theorem laws_sameMounts.calls (k : Nat) (A0 : Option Addr) (c0 : Nat) (l0 : List (S23)) (A1 : Option Addr) (c1 : Nat) (l1 : List (S23)) (r : Bool) (w : World) (hr0 : Kd.C k23 w A0 l0.length l0) (hc0 : l0.length ≤ c0) (hr1 : Kd.C k23 w A1 l1.length l1) (hc1 : l1.length ≤ c1) (h : laws_sameMounts.f k l0 l1 = some r) :
  Calls Tryd.prog 15 #[.slice A0 l0.length c0, .slice A1 l1.length c1] w fun e w' => e = .returned (.bool r) ∧ Drawn0 w w' := by
 have hu23 := Tryd.underlying23
 have HR0 := Aside0.mk hr0
 have HC0 := Aside0.mk hc0
 clear hr0 hc0
 have HR1 := Aside0.mk hr1
 have HC1 := Aside0.mk hc1
 clear hr1 hc1
 have H : (if (l0.length : Int) = (l1.length : Int) then (laws_sameMounts.l0 k l0 l1 (l0.length : Int) 0) else (some false)) = some r := h
 clear h
 by_cases c3 : (l0.length : Int) = (l1.length : Int)
 ·rw [if_pos c3] at H
  have c3b0 : ((l0.length : Int) == (l1.length : Int)) = true := beq_iff_eq.mpr c3
  have c3b1 : ((l0.length : Int) != (l1.length : Int)) = false := bne_eq_false_iff_eq.mpr c3
  have c3b2 : (l0.length == l1.length) = true := by first | simpa using c3 | (simp at c3 ⊢; omega)
  clear c3
  have H' := Aside0.mk H
  clear H
  go_enter Tryd.func15, Tryd.ntmps15
  go_wp2
  repeat (go_quiet (fail); try go_wp2)
  go_loopg [13] k (fun kq v13 w' => ∃ (x13_1 : Int), v13 = .int .i64 x13_1 ∧ Aside0 (laws_sameMounts.l0 kq l0 l1 (l0.length : Int) x13_1 = some r) ∧ Aside0 (kq ≤ k) ∧ Drawn0 w w')
  case atStart => exact ⟨(0), (by first | rfl | (simp; done) | (simp [*]; done) | (simp [bne_nil]; done) | (simp [bne_nil, *]; done)), H', ⟨Nat.le_refl _⟩, by repeat (first | exact Drawn0.refl _ | apply Drawn0.step)⟩
  case round =>
   clear H'
   try clear c1
   try clear p2
   try clear c3
   try clear c3b0
   try clear c3b1
   try clear c3b2
   obtain ⟨x13_1, rfl, HA, HK1, ⟨m1, rfl⟩⟩ := hrel
   cases gk with
   | zero => exact absurd HA.out (by simp [laws_sameMounts.l0])
   | succ k1 =>
    have H := HA.out
    clear HA
    simp only [laws_sameMounts.l0] at H
    by_cases c4 : x13_1 < (l0.length : Int)
    ·rw [if_pos c4] at H
     have c4b0 : decide (x13_1 < (l0.length : Int)) = true := decide_eq_true c4
     clear c4
     by_cases c5 : 0 ≤ x13_1
     ·rw [if_pos c5] at H
      have c5b0 : decide (0 ≤ x13_1) = true := decide_eq_true c5
      clear c5
      by_cases c6 : x13_1 < (l0.length : Int)
      ·rw [if_pos c6] at H
       have c6b0 : decide (x13_1 < (l0.length : Int)) = true := decide_eq_true c6
       clear c6
       by_cases c7 : x13_1 < (l1.length : Int)
       ·rw [if_pos c7] at H
        have c7b0 : decide (x13_1 < (l1.length : Int)) = true := decide_eq_true c7
        clear c7
        by_cases c8 : (!(((rd_T23 l0 x13_1).f0) == ((rd_T23 l1 x13_1).f0)) || (!(((rd_T23 l0 x13_1).f1) == ((rd_T23 l1 x13_1).f1)) || (!(((rd_T23 l0 x13_1).f2) == ((rd_T23 l1 x13_1).f2)) || (!(((rd_T23 l0 x13_1).f3) == ((rd_T23 l1 x13_1).f3)) || (!((((rd_T23 l0 x13_1).f4).toList) == (((rd_T23 l1 x13_1).f4).toList)) || (!((((rd_T23 l0 x13_1).f5).toList) == (((rd_T23 l1 x13_1).f5).toList)) || (!((((rd_T23 l0 x13_1).f6).toList) == (((rd_T23 l1 x13_1).f6).toList)) || (!((((rd_T23 l0 x13_1).f7).toList) == (((rd_T23 l1 x13_1).f7).toList)) || (!((((rd_T23 l0 x13_1).f8).toList) == (((rd_T23 l1 x13_1).f8).toList)) || (!((((rd_T23 l0 x13_1).f9).toList) == (((rd_T23 l1 x13_1).f9).toList)) || (!((((rd_T23 l0 x13_1).f10).toList) == (((rd_T23 l1 x13_1).f10).toList))))))))))))) = true
        ·rw [if_pos c8] at H
         have c8b0 : (!(((rd_T23 l0 x13_1).f0) == ((rd_T23 l1 x13_1).f0)) || (!(((rd_T23 l0 x13_1).f1) == ((rd_T23 l1 x13_1).f1)) || (!(((rd_T23 l0 x13_1).f2) == ((rd_T23 l1 x13_1).f2)) || (!(((rd_T23 l0 x13_1).f3) == ((rd_T23 l1 x13_1).f3)) || (!((((rd_T23 l0 x13_1).f4).toList) == (((rd_T23 l1 x13_1).f4).toList)) || (!((((rd_T23 l0 x13_1).f5).toList) == (((rd_T23 l1 x13_1).f5).toList)) || (!((((rd_T23 l0 x13_1).f6).toList) == (((rd_T23 l1 x13_1).f6).toList)) || (!((((rd_T23 l0 x13_1).f7).toList) == (((rd_T23 l1 x13_1).f7).toList)) || (!((((rd_T23 l0 x13_1).f8).toList) == (((rd_T23 l1 x13_1).f8).toList)) || (!((((rd_T23 l0 x13_1).f9).toList) == (((rd_T23 l1 x13_1).f9).toList)) || (!((((rd_T23 l0 x13_1).f10).toList) == (((rd_T23 l1 x13_1).f10).toList))))))))))))) = true := c8
         clear c8
         obtain rfl := Option.some.inj H
         have p187 : 0 ≤ (x13_1 : Int) := of_decide_eq_true (by first | (with_reducible assumption) | assumption)
         have q187 : x13_1 < (l0.length : Int) := of_decide_eq_true (by first | (with_reducible assumption) | assumption)
         obtain ⟨ad187, e187, hx187_0, hx187_1, hx187_2, hx187_3, hx187_4, hx187_5, hx187_6, hx187_7, hx187_8, hx187_9, hx187_10⟩ := at_T23 HR0.out x13_1 p187 q187
         cases e187
         replace p187 := eq_true p187
         replace q187 := eq_true q187
         have p188 : 0 ≤ (x13_1 : Int) := of_decide_eq_true (by first | (with_reducible assumption) | assumption)
         have q188 : x13_1 < (l1.length : Int) := of_decide_eq_true (by first | (with_reducible assumption) | assumption)
         obtain ⟨ad188, e188, hx188_0, hx188_1, hx188_2, hx188_3, hx188_4, hx188_5, hx188_6, hx188_7, hx188_8, hx188_9, hx188_10⟩ := at_T23 HR1.out x13_1 p188 q188
         cases e188
         replace p188 := eq_true p188
         replace q188 := eq_true q188
         go_wp2
         repeat (go_quiet (fail); try go_wp2)
         go_ret
         exact ⟨by first | rfl | (simp; done) | (simp [*]; done) | (simp [bne_nil]; done) | (simp [bne_nil, *]; done), by repeat (first | exact Drawn0.refl _ | apply Drawn0.step)⟩
        ·rw [if_neg c8] at H
         have c8b0 : (!(((rd_T23 l0 x13_1).f0) == ((rd_T23 l1 x13_1).f0)) || (!(((rd_T23 l0 x13_1).f1) == ((rd_T23 l1 x13_1).f1)) || (!(((rd_T23 l0 x13_1).f2) == ((rd_T23 l1 x13_1).f2)) || (!(((rd_T23 l0 x13_1).f3) == ((rd_T23 l1 x13_1).f3)) || (!((((rd_T23 l0 x13_1).f4).toList) == (((rd_T23 l1 x13_1).f4).toList)) || (!((((rd_T23 l0 x13_1).f5).toList) == (((rd_T23 l1 x13_1).f5).toList)) || (!((((rd_T23 l0 x13_1).f6).toList) == (((rd_T23 l1 x13_1).f6).toList)) || (!((((rd_T23 l0 x13_1).f7).toList) == (((rd_T23 l1 x13_1).f7).toList)) || (!((((rd_T23 l0 x13_1).f8).toList) == (((rd_T23 l1 x13_1).f8).toList)) || (!((((rd_T23 l0 x13_1).f9).toList) == (((rd_T23 l1 x13_1).f9).toList)) || (!((((rd_T23 l0 x13_1).f10).toList) == (((rd_T23 l1 x13_1).f10).toList))))))))))))) = false := by simpa using c8
         clear c8
         have H' := Aside0.mk H
         clear H
         have p187 : 0 ≤ (x13_1 : Int) := of_decide_eq_true (by first | (with_reducible assumption) | assumption)
         have q187 : x13_1 < (l0.length : Int) := of_decide_eq_true (by first | (with_reducible assumption) | assumption)
         obtain ⟨ad187, e187, hx187_0, hx187_1, hx187_2, hx187_3, hx187_4, hx187_5, hx187_6, hx187_7, hx187_8, hx187_9, hx187_10⟩ := at_T23 HR0.out x13_1 p187 q187
         cases e187
         replace p187 := eq_true p187
         replace q187 := eq_true q187
         have p188 : 0 ≤ (x13_1 : Int) := of_decide_eq_true (by first | (with_reducible assumption) | assumption)
         have q188 : x13_1 < (l1.length : Int) := of_decide_eq_true (by first | (with_reducible assumption) | assumption)
         obtain ⟨ad188, e188, hx188_0, hx188_1, hx188_2, hx188_3, hx188_4, hx188_5, hx188_6, hx188_7, hx188_8, hx188_9, hx188_10⟩ := at_T23 HR1.out x13_1 p188 q188
         cases e188
         replace p188 := eq_true p188
         replace q188 := eq_true q188
         go_wp2
         repeat (go_quiet (fail); try go_wp2)
         go_roundg k1
         case measure => have := HK1.out; omega
         case rel => exact ⟨(wrap64 (x13_1 + 1)), (by first | rfl | (simp; done) | (simp [*]; done) | (simp [bne_nil]; done) | (simp [bne_nil, *]; done)), H', ⟨by have := HK1.out; omega⟩, by repeat (first | exact Drawn0.refl _ | apply Drawn0.step)⟩
       ·rw [if_neg c7] at H
        exact absurd H (by simp)
      ·rw [if_neg c6] at H
       exact absurd H (by simp)
     ·rw [if_neg c5] at H
      exact absurd H (by simp)
    ·rw [if_neg c4] at H
     have c4b0 : decide (x13_1 < (l0.length : Int)) = false := decide_eq_false c4
     clear c4
     obtain rfl := Option.some.inj H
     go_wp2
     repeat (go_quiet (fail); try go_wp2)
     go_ret
     exact ⟨by first | rfl | (simp; done) | (simp [*]; done) | (simp [bne_nil]; done) | (simp [bne_nil, *]; done), by repeat (first | exact Drawn0.refl _ | apply Drawn0.step)⟩
 ·rw [if_neg c3] at H
  have c3b0 : ((l0.length : Int) == (l1.length : Int)) = false := beq_eq_false_iff_ne.mpr c3
  have c3b1 : ((l0.length : Int) != (l1.length : Int)) = true := bne_iff_ne.mpr c3
  have c3b2 : (l0.length == l1.length) = false := by first | simpa using c3 | (simp at c3 ⊢; omega)
  obtain rfl := Option.some.inj H
  go_enter Tryd.func15, Tryd.ntmps15
  go_wp2
  repeat (go_quiet (fail); try go_wp2)
  go_ret
  exact ⟨by first | rfl | (simp; done) | (simp [*]; done) | (simp [bne_nil]; done) | (simp [bne_nil, *]; done), by repeat (first | exact Drawn0.refl _ | apply Drawn0.step)⟩

/-! ### laws_mountsFrom: function 16 -/
def laws_mountsFrom.l0 : Nat → List (S23) → List (S62) → Int → Int → Option ((List (S23)))
 | 0, _, _, _, _ => none
 | k + 1, x3, x6, x7, x8 => if x8 < x7 then (if 0 ≤ x8 then (if x8 < (x6.length : Int) then (if x3.length < 977343669134 then (laws_mountsFrom.l0 k (x3 ++ [(⟨(rd_T62 x6 x8).f0, (rd_T62 x6 x8).f1, (rd_T62 x6 x8).f2, (rd_T62 x6 x8).f3, (rd_T62 x6 x8).f4, (rd_T62 x6 x8).f5, (rd_T62 x6 x8).f6, (rd_T62 x6 x8).f7, (rd_T62 x6 x8).f8, (rd_T62 x6 x8).f9, (rd_T62 x6 x8).f10⟩ : S23)]) x6 x7 (wrap64 (x8 + 1))) else (none)) else (none)) else (none)) else (some x3)
def laws_mountsFrom.f (k : Nat) (l0 : List (S62)) : Option ((List (S23))) := laws_mountsFrom.l0 k ([] : List (S23)) l0 (l0.length : Int) 0
theorem laws_mountsFrom.mono_l : ∀ k, (∀ y0 y1 y2 y3, LeO (laws_mountsFrom.l0 k y0 y1 y2 y3) (laws_mountsFrom.l0 (k + 1) y0 y1 y2 y3))
 | 0 => fun _ _ _ _ r h => by simp [laws_mountsFrom.l0] at h
 | k + 1 => by
  have ih0 := laws_mountsFrom.mono_l k
  ·intro y0 y1 y2 y3
   unfold laws_mountsFrom.l0
   repeat' first
   | (with_reducible exact ih0 _ _ _ _)
   | (with_reducible exact LeO.refl _)
   | (with_reducible exact LeO.none _)
   | (with_reducible refine LeO.ite ?_ ?_)
   | (with_reducible refine LeO.bind ?_ (fun _ => ?_))
   | exact ih0 _ _ _ _
   | exact LeO.none _
   | refine LeO.ite ?_ ?_
   | refine LeO.bind ?_ (fun _ => ?_)
theorem laws_mountsFrom.mono : ∀ a0 k, LeO (laws_mountsFrom.f k a0) (laws_mountsFrom.f (k + 1) a0) := by
 intro a0 k
 have ih0 := laws_mountsFrom.mono_l k
 unfold laws_mountsFrom.f
 repeat' first
   | (with_reducible exact ih0 _ _ _ _)
   | (with_reducible exact LeO.refl _)
   | (with_reducible exact LeO.none _)
   | (with_reducible refine LeO.ite ?_ ?_)
   | (with_reducible refine LeO.bind ?_ (fun _ => ?_))
   | exact ih0 _ _ _ _
   | exact LeO.none _
   | refine LeO.ite ?_ ?_
   | refine LeO.bind ?_ (fun _ => ?_)
set_option maxHeartbeats 8000000 in
set_option maxRecDepth 100000 in
theorem laws_mountsFrom.calls (k : Nat) (A0 : Option Addr) (c0 : Nat) (l0 : List (S62)) (r : List (S23)) (w : World) (hr0 : Kd.C k62 w A0 l0.length l0) (hc0 : l0.length ≤ c0) (h : laws_mountsFrom.f k l0 = some r) :
  Calls Tryd.prog 16 #[.slice A0 l0.length c0] w fun e w' => ∃ v0_ : Value, e = .returned (v0_) ∧ Kd.R k23 23 w' w.heap.size (fun _ => True) v0_ r ∧ Below w.heap.size w w' := by
 have hu62 := Tryd.underlying62
 have HR0 := Aside0.mk hr0
 have HC0 := Aside0.mk hc0
 clear hr0 hc0
 have HB := Aside0.mk (Below.refl w.heap.size w)
 have H : (laws_mountsFrom.l0 k ([] : List (S23)) l0 (l0.length : Int) 0) = some r := h
 clear h
 have H' := Aside0.mk H
 clear H
 go_enter Tryd.func16, Tryd.ntmps16
 go_wp2
 go_loopg [3, 8] k (fun kq v3 v8 w' => ∃ (x3_1 : List (S23)) (x8_1 : Int), v8 = .int .i64 x8_1 ∧ Aside0 (laws_mountsFrom.l0 kq x3_1 l0 (l0.length : Int) x8_1 = some r) ∧ Aside0 (kq ≤ k) ∧ Aside0 (Kd.R k23 23 w' w.heap.size (fun _ => True) v3 x3_1) ∧ Aside0 (Below w.heap.size w w'))
 case atStart => exact ⟨(([] : List (S23))), (0), (by first | rfl | (simp; done) | (simp [*]; done) | (simp [bne_nil]; done) | (simp [bne_nil, *]; done)), H', ⟨Nat.le_refl _⟩, ⟨by first | exact Kd.R_nil _ _ _ _ _ | exact Kd.N_nil _ _ _ _ _ | exact Kd.V_nil _ _ _ _ _ | exact Kd.Q_nil _ _ _ _ _ | exact Kd.S_nil _ _ _ _ _⟩, ⟨by repeat (first | (with_reducible first | exact HB.out | apply below_alloc | apply pw_below_drewN | apply below_drew1) | exact HB.out)⟩⟩
 case round =>
  clear H'
  try clear c1
  obtain ⟨x3_1, x8_1, rfl, HA, HK1, HO_3, HB⟩ := hrel
  cases gk with
  | zero => exact absurd HA.out (by simp [laws_mountsFrom.l0])
  | succ k1 =>
   have H := HA.out
   clear HA
   simp only [laws_mountsFrom.l0] at H
   by_cases c2 : x8_1 < (l0.length : Int)
   ·rw [if_pos c2] at H
    have c2b0 : decide (x8_1 < (l0.length : Int)) = true := decide_eq_true c2
    clear c2
    by_cases c3 : 0 ≤ x8_1
    ·rw [if_pos c3] at H
     have c3b0 : decide (0 ≤ x8_1) = true := decide_eq_true c3
     clear c3
     by_cases c4 : x8_1 < (l0.length : Int)
     ·rw [if_pos c4] at H
      have c4b0 : decide (x8_1 < (l0.length : Int)) = true := decide_eq_true c4
      clear c4
      by_cases c5 : x3_1.length < 977343669134
      ·rw [if_pos c5] at H
       have LMc5 := Aside0.mk c5
       clear c5
       obtain ⟨y191, hy191⟩ : ∃ y_ : List (S23), y_ = (x3_1 ++ [(⟨(rd_T62 l0 x8_1).f0, (rd_T62 l0 x8_1).f1, (rd_T62 l0 x8_1).f2, (rd_T62 l0 x8_1).f3, (rd_T62 l0 x8_1).f4, (rd_T62 l0 x8_1).f5, (rd_T62 l0 x8_1).f6, (rd_T62 l0 x8_1).f7, (rd_T62 l0 x8_1).f8, (rd_T62 l0 x8_1).f9, (rd_T62 l0 x8_1).f10⟩ : S23)]) := ⟨_, rfl⟩
       replace H : (laws_mountsFrom.l0 k1 y191 l0 (l0.length : Int) (wrap64 (x8_1 + 1))) = some r := by first | (rw [hy191]; with_reducible exact H) | (have H2_ := (Option.bind_some _ _).symm.trans H; rw [hy191]; with_reducible exact H2_) | (have H2_ := (Option.bind_some _ _).symm.trans H; with_reducible exact H2_) | with_reducible exact H | (rw [hy191]; exact H) | exact H
       have Ny191 := Aside0.mk hy191
       clear hy191
       have H' := Aside0.mk H
       clear H
       have p189 : 0 ≤ (x8_1 : Int) := of_decide_eq_true (by first | (with_reducible assumption) | assumption)
       have q189 : x8_1 < (l0.length : Int) := of_decide_eq_true (by first | (with_reducible assumption) | assumption)
       obtain ⟨ad189, e189, hx189_0, hx189_1, hx189_2, hx189_3, hx189_4, hx189_5, hx189_6, hx189_7, hx189_8, hx189_9, hx189_10⟩ := at_T62 HR0.out x8_1 p189 q189
       cases e189
       replace hx189_0 := (HB.out.cell (World.block_lt_of_cell? w _ hx189_0)).trans hx189_0
       replace hx189_1 := (HB.out.cell (World.block_lt_of_cell? w _ hx189_1)).trans hx189_1
       replace hx189_2 := (HB.out.cell (World.block_lt_of_cell? w _ hx189_2)).trans hx189_2
       replace hx189_3 := (HB.out.cell (World.block_lt_of_cell? w _ hx189_3)).trans hx189_3
       replace hx189_4 := (HB.out.cell (World.block_lt_of_cell? w _ hx189_4)).trans hx189_4
       replace hx189_5 := (HB.out.cell (World.block_lt_of_cell? w _ hx189_5)).trans hx189_5
       replace hx189_6 := (HB.out.cell (World.block_lt_of_cell? w _ hx189_6)).trans hx189_6
       replace hx189_7 := (HB.out.cell (World.block_lt_of_cell? w _ hx189_7)).trans hx189_7
       replace hx189_8 := (HB.out.cell (World.block_lt_of_cell? w _ hx189_8)).trans hx189_8
       replace hx189_9 := (HB.out.cell (World.block_lt_of_cell? w _ hx189_9)).trans hx189_9
       replace hx189_10 := (HB.out.cell (World.block_lt_of_cell? w _ hx189_10)).trans hx189_10
       replace p189 := eq_true p189
       replace q189 := eq_true q189
       go_wp2_with (first | ((with_reducible refine gate_dst (N := 5) rfl ?_); refine box_event ?hg (N := 5) ?hd (cs := #[.int .i64 0, .int .i64 0, .int .i64 0, .int .i64 0, .string (⟨#[]⟩ : ByteArray), .string (⟨#[]⟩ : ByteArray), .string (⟨#[]⟩ : ByteArray), .string (⟨#[]⟩ : ByteArray), .string (⟨#[]⟩ : ByteArray), .string (⟨#[]⟩ : ByteArray), .string (⟨#[]⟩ : ByteArray)]) (t := 62) ?hr ?_; (case hd => rfl); (case hg => rfl); (case hr => first | (go_simp; done) | (go_simp; rfl)); intro gb190 hg w6 hbox hb; have n0_ := Aside0.mk (Kd.R_below (by (with_reducible repeat (first | apply Kd.R_alloc | apply Kd.R_drewN | apply Kd.R_drew)); exact HO_3.out) hb); have n1_ := Aside0.mk (below_step belH hb); have n2_ := Aside0.mk (hbox); have n3_ := Aside0.mk ((by rw [hg]; exact (below_size belH) : w.heap.size ≤ gb190)); have n4_ := Aside0.mk ((by rw [hg]; exact (below_size belH) : w.heap.size ≤ gb190)); clear HO_3; clear HB; have HO_3 := n0_; have HB := n1_; have BK190 := n2_; have GW190 := n3_; have GE190 := n4_; clear n0_ n1_ n2_ n3_ n4_; clear hb hbox hg; obtain ⟨hcz7_0, hcz7_1, hcz7_2, hcz7_3, hcz7_4, hcz7_5, hcz7_6, hcz7_7, hcz7_8, hcz7_9, hcz7_10, hfz7_0, hfz7_1, hfz7_2, hfz7_3, hfz7_4, hfz7_5, hfz7_6, hfz7_7, hfz7_8, hfz7_9, hfz7_10⟩ := rows11 (w := w6) BK190) | ((with_reducible refine gate_builtin (b := .append) (xs := #[.tmp 12, .tmp 14]) rfl ?_); at_builtin; refine Kd.R_append k23 (w0 := w) w.heap.size rfl (.tmp 12) (.tmp 14) 28 23 (.agg #[(.int .i64 0), (.int .i64 0), (.int .i64 0), (.int .i64 0), (.string ⟨#[]⟩), (.string ⟨#[]⟩), (.string ⟨#[]⟩), (.string ⟨#[]⟩), (.string ⟨#[]⟩), (.string ⟨#[]⟩), (.string ⟨#[]⟩)]) 144 rfl Tryd.underlying28 info23 rfl (by decide) (by omega) u3 x3_1 (⟨(rd_T62 l0 x8_1).f0, (rd_T62 l0 x8_1).f1, (rd_T62 l0 x8_1).f2, (rd_T62 l0 x8_1).f3, (rd_T62 l0 x8_1).f4, (rd_T62 l0 x8_1).f5, (rd_T62 l0 x8_1).f6, (rd_T62 l0 x8_1).f7, (rd_T62 l0 x8_1).f8, (rd_T62 l0 x8_1).f9, (rd_T62 l0 x8_1).f10⟩ : S23) [.int .i64 ((rd_T62 l0 x8_1).f0), .int .i64 ((rd_T62 l0 x8_1).f1), .int .i64 ((rd_T62 l0 x8_1).f2), .int .i64 ((rd_T62 l0 x8_1).f3), .string ((rd_T62 l0 x8_1).f4), .string ((rd_T62 l0 x8_1).f5), .string ((rd_T62 l0 x8_1).f6), .string ((rd_T62 l0 x8_1).f7), .string ((rd_T62 l0 x8_1).f8), .string ((rd_T62 l0 x8_1).f9), .string ((rd_T62 l0 x8_1).f10)] (fun _ => True) (fun _ => False) rfl (by first | (go_simp; done) | (go_simp; rfl)) ?aP (fun _ hk => hk.elim) ?aF ?aO ?aB ?aS ?aL ?_; (case aP => exact k23_mkM _ _ _ (⟨(rd_T62 l0 x8_1).f0, (rd_T62 l0 x8_1).f1, (rd_T62 l0 x8_1).f2, (rd_T62 l0 x8_1).f3, (rd_T62 l0 x8_1).f4, (rd_T62 l0 x8_1).f5, (rd_T62 l0 x8_1).f6, (rd_T62 l0 x8_1).f7, (rd_T62 l0 x8_1).f8, (rd_T62 l0 x8_1).f9, (rd_T62 l0 x8_1).f10⟩ : S23)); (case aB => exact belS); (case aF => exact (fun _ _ => trivial)); (case aO => exact (by (with_reducible repeat (first | apply Kd.R_alloc | apply Kd.R_drewN | apply Kd.R_drew)); exact Kd.R_mono (Kd.R_far (p := ⟨gb190, 10, none⟩) (Kd.R_far (p := ⟨gb190, 9, none⟩) (Kd.R_far (p := ⟨gb190, 8, none⟩) (Kd.R_far8 (g := gb190) (Kd.R_types HO_3.out BK190.out (by decide)) (fun _ hk => hk.2) (.int .i64 ((rd_T62 l0 x8_1).f0)) (.int .i64 ((rd_T62 l0 x8_1).f1)) (.int .i64 ((rd_T62 l0 x8_1).f2)) (.int .i64 ((rd_T62 l0 x8_1).f3)) (.string ((rd_T62 l0 x8_1).f4)) (.string ((rd_T62 l0 x8_1).f5)) (.string ((rd_T62 l0 x8_1).f6)) (.string ((rd_T62 l0 x8_1).f7))) (fun _ hk => hk.2) (.string ((rd_T62 l0 x8_1).f8))) (fun _ hk => hk.2) (.string ((rd_T62 l0 x8_1).f9))) (fun _ hk => hk.2) (.string ((rd_T62 l0 x8_1).f10))) (fun _ hk => trivial))); (case aS => exact (below_size belS)); (case aL => have := LMc5.out; omega); intro v192 w8 ho hb hg hat; rw [← Ny191.out] at ho; have n0_ := Aside0.mk (blk_grown (g := gb190) (o := .cells #[.int .i64 ((rd_T62 l0 x8_1).f0), .int .i64 ((rd_T62 l0 x8_1).f1), .int .i64 ((rd_T62 l0 x8_1).f2), .int .i64 ((rd_T62 l0 x8_1).f3), .string ((rd_T62 l0 x8_1).f4), .string ((rd_T62 l0 x8_1).f5), .string ((rd_T62 l0 x8_1).f6), .string ((rd_T62 l0 x8_1).f7), .string ((rd_T62 l0 x8_1).f8), .string ((rd_T62 l0 x8_1).f9), .string ((rd_T62 l0 x8_1).f10)] 62 (0, 0)) (by refine bY ?_; refine blk_put (cs := #[.int .i64 ((rd_T62 l0 x8_1).f0), .int .i64 ((rd_T62 l0 x8_1).f1), .int .i64 ((rd_T62 l0 x8_1).f2), .int .i64 ((rd_T62 l0 x8_1).f3), .string ((rd_T62 l0 x8_1).f4), .string ((rd_T62 l0 x8_1).f5), .string ((rd_T62 l0 x8_1).f6), .string ((rd_T62 l0 x8_1).f7), .string ((rd_T62 l0 x8_1).f8), .string ((rd_T62 l0 x8_1).f9), .string (⟨#[]⟩ : ByteArray)]) ?_ 10 _ rfl; refine bY ?_; refine blk_put (cs := #[.int .i64 ((rd_T62 l0 x8_1).f0), .int .i64 ((rd_T62 l0 x8_1).f1), .int .i64 ((rd_T62 l0 x8_1).f2), .int .i64 ((rd_T62 l0 x8_1).f3), .string ((rd_T62 l0 x8_1).f4), .string ((rd_T62 l0 x8_1).f5), .string ((rd_T62 l0 x8_1).f6), .string ((rd_T62 l0 x8_1).f7), .string ((rd_T62 l0 x8_1).f8), .string (⟨#[]⟩ : ByteArray), .string (⟨#[]⟩ : ByteArray)]) ?_ 9 _ rfl; refine bY ?_; refine blk_put (cs := #[.int .i64 ((rd_T62 l0 x8_1).f0), .int .i64 ((rd_T62 l0 x8_1).f1), .int .i64 ((rd_T62 l0 x8_1).f2), .int .i64 ((rd_T62 l0 x8_1).f3), .string ((rd_T62 l0 x8_1).f4), .string ((rd_T62 l0 x8_1).f5), .string ((rd_T62 l0 x8_1).f6), .string ((rd_T62 l0 x8_1).f7), .string (⟨#[]⟩ : ByteArray), .string (⟨#[]⟩ : ByteArray), .string (⟨#[]⟩ : ByteArray)]) ?_ 8 _ rfl; refine bY ?_; refine blk_put (cs := #[.int .i64 ((rd_T62 l0 x8_1).f0), .int .i64 ((rd_T62 l0 x8_1).f1), .int .i64 ((rd_T62 l0 x8_1).f2), .int .i64 ((rd_T62 l0 x8_1).f3), .string ((rd_T62 l0 x8_1).f4), .string ((rd_T62 l0 x8_1).f5), .string ((rd_T62 l0 x8_1).f6), .string (⟨#[]⟩ : ByteArray), .string (⟨#[]⟩ : ByteArray), .string (⟨#[]⟩ : ByteArray), .string (⟨#[]⟩ : ByteArray)]) ?_ 7 _ rfl; refine bY ?_; refine blk_put (cs := #[.int .i64 ((rd_T62 l0 x8_1).f0), .int .i64 ((rd_T62 l0 x8_1).f1), .int .i64 ((rd_T62 l0 x8_1).f2), .int .i64 ((rd_T62 l0 x8_1).f3), .string ((rd_T62 l0 x8_1).f4), .string ((rd_T62 l0 x8_1).f5), .string (⟨#[]⟩ : ByteArray), .string (⟨#[]⟩ : ByteArray), .string (⟨#[]⟩ : ByteArray), .string (⟨#[]⟩ : ByteArray), .string (⟨#[]⟩ : ByteArray)]) ?_ 6 _ rfl; refine bY ?_; refine blk_put (cs := #[.int .i64 ((rd_T62 l0 x8_1).f0), .int .i64 ((rd_T62 l0 x8_1).f1), .int .i64 ((rd_T62 l0 x8_1).f2), .int .i64 ((rd_T62 l0 x8_1).f3), .string ((rd_T62 l0 x8_1).f4), .string (⟨#[]⟩ : ByteArray), .string (⟨#[]⟩ : ByteArray), .string (⟨#[]⟩ : ByteArray), .string (⟨#[]⟩ : ByteArray), .string (⟨#[]⟩ : ByteArray), .string (⟨#[]⟩ : ByteArray)]) ?_ 5 _ rfl; refine bY ?_; refine blk_put (cs := #[.int .i64 ((rd_T62 l0 x8_1).f0), .int .i64 ((rd_T62 l0 x8_1).f1), .int .i64 ((rd_T62 l0 x8_1).f2), .int .i64 ((rd_T62 l0 x8_1).f3), .string (⟨#[]⟩ : ByteArray), .string (⟨#[]⟩ : ByteArray), .string (⟨#[]⟩ : ByteArray), .string (⟨#[]⟩ : ByteArray), .string (⟨#[]⟩ : ByteArray), .string (⟨#[]⟩ : ByteArray), .string (⟨#[]⟩ : ByteArray)]) ?_ 4 _ rfl; refine bY ?_; refine blk_put (cs := #[.int .i64 ((rd_T62 l0 x8_1).f0), .int .i64 ((rd_T62 l0 x8_1).f1), .int .i64 ((rd_T62 l0 x8_1).f2), .int .i64 0, .string (⟨#[]⟩ : ByteArray), .string (⟨#[]⟩ : ByteArray), .string (⟨#[]⟩ : ByteArray), .string (⟨#[]⟩ : ByteArray), .string (⟨#[]⟩ : ByteArray), .string (⟨#[]⟩ : ByteArray), .string (⟨#[]⟩ : ByteArray)]) ?_ 3 _ rfl; refine bY ?_; refine blk_put (cs := #[.int .i64 ((rd_T62 l0 x8_1).f0), .int .i64 ((rd_T62 l0 x8_1).f1), .int .i64 0, .int .i64 0, .string (⟨#[]⟩ : ByteArray), .string (⟨#[]⟩ : ByteArray), .string (⟨#[]⟩ : ByteArray), .string (⟨#[]⟩ : ByteArray), .string (⟨#[]⟩ : ByteArray), .string (⟨#[]⟩ : ByteArray), .string (⟨#[]⟩ : ByteArray)]) ?_ 2 _ rfl; refine bY ?_; refine blk_put (cs := #[.int .i64 ((rd_T62 l0 x8_1).f0), .int .i64 0, .int .i64 0, .int .i64 0, .string (⟨#[]⟩ : ByteArray), .string (⟨#[]⟩ : ByteArray), .string (⟨#[]⟩ : ByteArray), .string (⟨#[]⟩ : ByteArray), .string (⟨#[]⟩ : ByteArray), .string (⟨#[]⟩ : ByteArray), .string (⟨#[]⟩ : ByteArray)]) ?_ 1 _ rfl; refine bY ?_; refine blk_put (cs := #[.int .i64 0, .int .i64 0, .int .i64 0, .int .i64 0, .string (⟨#[]⟩ : ByteArray), .string (⟨#[]⟩ : ByteArray), .string (⟨#[]⟩ : ByteArray), .string (⟨#[]⟩ : ByteArray), .string (⟨#[]⟩ : ByteArray), .string (⟨#[]⟩ : ByteArray), .string (⟨#[]⟩ : ByteArray)]) ?_ 0 _ rfl; refine bY ?_; exact BK190.out) hg (Kd.R_ne HO_3.out BK190.out (by decide))); have n1_ := Aside0.mk (hb); have n2_ := Aside0.mk (ho); clear BK190; clear HB; clear HO_3; have BK190 := n0_; have HB := n1_; have HO193 := n2_; clear n0_ n1_ n2_; clear ho hb hg hat))
       go_roundg k1
       case measure => have := HK1.out; omega
       case rel => exact ⟨(y191), (wrap64 (x8_1 + 1)), (by first | rfl | (simp; done) | (simp [*]; done) | (simp [bne_nil]; done) | (simp [bne_nil, *]; done)), H', ⟨by have := HK1.out; omega⟩, ⟨by (with_reducible repeat (first | apply Kd.R_alloc | apply Kd.R_drewN | apply Kd.R_drew)); exact HO193.out⟩, ⟨by repeat (first | (with_reducible first | exact HB.out | apply below_alloc | apply pw_below_drewN | apply below_drew1 | refine below_set ?_ GE190.out) | exact HB.out)⟩⟩
      ·rw [if_neg c5] at H
       exact absurd H (by simp)
     ·rw [if_neg c4] at H
      exact absurd H (by simp)
    ·rw [if_neg c3] at H
     exact absurd H (by simp)
   ·rw [if_neg c2] at H
    have c2b0 : decide (x8_1 < (l0.length : Int)) = false := decide_eq_false c2
    clear c2
    obtain rfl := Option.some.inj H
    go_wp2
    go_ret
    exact ⟨_, by first | rfl | (simp [errW_none, errW_some] <;> rfl) | (simp [*, errW_none, errW_some] <;> rfl), by (with_reducible repeat (first | apply Kd.R_alloc | apply Kd.R_drewN | apply Kd.R_drew)); exact HO_3.out, by repeat (first | (with_reducible first | exact HB.out | apply below_alloc | apply pw_below_drewN | apply below_drew1) | exact HB.out)⟩

/-! ### laws_FnMountsRead: function 5 -/
def laws_FnMountsRead.f (k : Nat) (a0 : ByteArray) : Option (Bool) := if (a0.size : Int) > 2147483647 then (some true) else (if (a0.size : Int) > 20000 then (some true) else ((laws_all.f).bind fun bt194 => ((impl_MountsE.f a0 bt194.1 bt194.2).bind fun bt198 => ((spec_MountsRead.f k a0).bind fun bt202 => (if bt202.2.2 = 1 then (if bt202.2.1 = true then (if bt198.2 = 0 then ((laws_mountsFrom.f k bt202.1).bind fun t208 => ((laws_sameMounts.f k bt198.1 t208).bind fun t211 => (if t211 = true then ((laws_mounts.f).bind fun t212 => (some t212)) else (some false)))) else (some false)) else (if bt198.2 = 1 then ((laws_mounts.f).bind fun t213 => (some t213)) else (some false))) else ((laws_mounts.f).bind fun t207 => (some t207)))))))
theorem laws_FnMountsRead.mono : ∀ a0 k, LeO (laws_FnMountsRead.f k a0) (laws_FnMountsRead.f (k + 1) a0) := by
 intro a0 k
 unfold laws_FnMountsRead.f
 repeat' first
   | (with_reducible exact laws_mountsFrom.mono _ _)
   | (with_reducible exact laws_sameMounts.mono _ _ _)
   | (with_reducible exact spec_MountsRead.mono _ _)
   | (with_reducible exact LeO.refl _)
   | (with_reducible exact LeO.none _)
   | (with_reducible refine LeO.ite ?_ ?_)
   | (with_reducible refine LeO.bind ?_ (fun _ => ?_))
   | exact laws_mountsFrom.mono _ _
   | exact laws_sameMounts.mono _ _ _
   | exact spec_MountsRead.mono _ _
   | exact LeO.none _
   | refine LeO.ite ?_ ?_
   | refine LeO.bind ?_ (fun _ => ?_)
set_option maxHeartbeats 8000000 in
set_option maxRecDepth 100000 in
theorem laws_FnMountsRead.calls (k : Nat) (a0 : ByteArray) (r : Bool) (w : World) (h : laws_FnMountsRead.f k a0 = some r) (hTabs : Tabs w := by first | exact hTabs | exact Tabs.below hTabs (by repeat (first | (with_reducible first | exact HB.out | apply below_alloc | apply pw_below_drewN | apply below_drew1 | refine below_set ?_ (Aside0.out (by assumption))) | exact HB.out))) :
  Calls Tryd.prog 5 #[.string a0] w fun e w' => e = .returned (.bool r) ∧ Below w.heap.size w w' := by
 have HB := Aside0.mk (Below.refl w.heap.size w)
 have H : (if (a0.size : Int) > 2147483647 then (some true) else (if (a0.size : Int) > 20000 then (some true) else ((laws_all.f).bind fun bt194 => ((impl_MountsE.f a0 bt194.1 bt194.2).bind fun bt198 => ((spec_MountsRead.f k a0).bind fun bt202 => (if bt202.2.2 = 1 then (if bt202.2.1 = true then (if bt198.2 = 0 then ((laws_mountsFrom.f k bt202.1).bind fun t208 => ((laws_sameMounts.f k bt198.1 t208).bind fun t211 => (if t211 = true then ((laws_mounts.f).bind fun t212 => (some t212)) else (some false)))) else (some false)) else (if bt198.2 = 1 then ((laws_mounts.f).bind fun t213 => (some t213)) else (some false))) else ((laws_mounts.f).bind fun t207 => (some t207)))))))) = some r := h
 clear h
 by_cases c2 : (a0.size : Int) > 2147483647
 ·rw [if_pos c2] at H
  have c2b0 : decide (2147483647 < (a0.size : Int)) = true := decide_eq_true c2
  have c2b1 : decide (2147483647 < a0.size) = true := decide_eq_true (by omega)
  clear c2
  obtain rfl := Option.some.inj H
  go_enter Tryd.func5, Tryd.ntmps5
  go_wp2
  go_ret
  exact ⟨by first | rfl | (simp [errW_none, errW_some] <;> rfl) | (simp [*, errW_none, errW_some] <;> rfl), by repeat (first | (with_reducible first | exact HB.out | apply below_alloc | apply pw_below_drewN | apply below_drew1) | exact HB.out)⟩
 ·rw [if_neg c2] at H
  have c2b0 : decide (2147483647 < (a0.size : Int)) = false := decide_eq_false c2
  have c2b1 : decide (2147483647 < a0.size) = false := decide_eq_false (by omega)
  clear c2
  by_cases c3 : (a0.size : Int) > 20000
  ·rw [if_pos c3] at H
   have c3b0 : decide (20000 < (a0.size : Int)) = true := decide_eq_true c3
   have c3b1 : decide (20000 < a0.size) = true := decide_eq_true (by omega)
   clear c3
   obtain rfl := Option.some.inj H
   go_enter Tryd.func5, Tryd.ntmps5
   go_wp2
   go_ret
   exact ⟨by first | rfl | (simp [errW_none, errW_some] <;> rfl) | (simp [*, errW_none, errW_some] <;> rfl), by repeat (first | (with_reducible first | exact HB.out | apply below_alloc | apply pw_below_drewN | apply below_drew1) | exact HB.out)⟩
  ·rw [if_neg c3] at H
   have c3b0 : decide (20000 < (a0.size : Int)) = false := decide_eq_false c3
   have c3b1 : decide (20000 < a0.size) = false := decide_eq_false (by omega)
   clear c3
   replace H := Option.bind_eq_some_iff.mp H
   obtain ⟨⟨t194, t195⟩, A40, H⟩ := H
   have A4 := Aside0.mk A40
   clear A40
   replace H := Option.bind_eq_some_iff.mp H
   obtain ⟨⟨t198, t201⟩, A50, H⟩ := H
   have A5 := Aside0.mk A50
   clear A50
   replace H := Option.bind_eq_some_iff.mp H
   obtain ⟨⟨t202, t203, t204⟩, A60, H⟩ := H
   have A6 := Aside0.mk A60
   clear A60
   by_cases c7 : t204 = 1
   ·rw [if_pos c7] at H
    have c7b0 : (t204 == 1) = true := beq_iff_eq.mpr c7
    have c7b1 : (t204 != 1) = false := bne_eq_false_iff_eq.mpr c7
    clear c7
    by_cases c8 : t203 = true
    ·subst c8
     have H1 : (if t201 = 0 then ((laws_mountsFrom.f k t202).bind fun t208 => ((laws_sameMounts.f k t198 t208).bind fun t211 => (if t211 = true then ((laws_mounts.f).bind fun t212 => (some t212)) else (some false)))) else (some false)) = some r := by rw [if_pos rfl] at H; exact H
     clear H
     have H := H1
     clear H1
     by_cases c9 : t201 = 0
     ·rw [if_pos c9] at H
      have c9b0 : (t201 == 0) = true := beq_iff_eq.mpr c9
      have c9b1 : (t201 != 0) = false := bne_eq_false_iff_eq.mpr c9
      clear c9
      replace H := Option.bind_eq_some_iff.mp H
      obtain ⟨t208, A100, H⟩ := H
      have A10 := Aside0.mk A100
      clear A100
      replace H := Option.bind_eq_some_iff.mp H
      obtain ⟨t211, A110, H⟩ := H
      have A11 := Aside0.mk A110
      clear A110
      by_cases c12 : t211 = true
      ·subst c12
       have H1 : ((laws_mounts.f).bind fun t212 => (some t212)) = some r := by rw [if_pos rfl] at H; exact H
       clear H
       have H := H1
       clear H1
       replace H := Option.bind_eq_some_iff.mp H
       obtain ⟨t212, A130, H⟩ := H
       have A13 := Aside0.mk A130
       clear A130
       obtain rfl := Option.some.inj H
       go_enter Tryd.func5, Tryd.ntmps5
       go_wp2_with (first | ((with_reducible refine gate_callee (f := 13) rfl ?_); refine goesL_ (some 16) rfl rfl Tryd.func13 (by kernel_rfl) rfl #[] rfl (by (try simp only [List.map_toArray, List.map_cons, List.map_nil]); first | done | rfl | (simp only [List.length_drop, List.length_take]; rfl)) ?_; (with_reducible refine (laws_all.calls  t194 t195 _ A4.out).mono ?_); rintro e w14 ⟨v196, rfl, ho0, hb⟩; refine ⟨_, rfl, ?_⟩; have n0_ := Aside0.mk (Kd.R_lower ho0 (below_size belH)); have n1_ := Aside0.mk (below_step belH hb); clear HB; have HO197 := n0_; have HB := n1_; clear n0_ n1_; (try clear hb); (try clear hb2); (try clear hk); (try clear hi); (try clear ho0); obtain ⟨Ao15, co15, eo15⟩ := Kd.R_slice HO197.out; subst eo15) | ((with_reducible refine gate_callee (f := 9) rfl ?_); refine goesL_ (some 17) rfl rfl Tryd.func9 (by kernel_rfl) rfl #[.string a0, .agg #[.int .i64 t194, .slice Ao15 t195.length co15]] rfl (by (try simp only [List.map_toArray, List.map_cons, List.map_nil]); first | done | rfl | (simp only [List.length_drop, List.length_take]; rfl)) ?_; (with_reducible refine (impl_MountsE.calls a0 t194 _ _ t195 t198 t201 _ ?side1 ?side2 A5.out).mono ?_); (case side1 => repeat (first | exact (Kd.R_reads' HO197.out).2.2 | (with_reducible refine Kd.C_alloc ?_ _) | (with_reducible refine Kd.C_drewN ?_ _) | (with_reducible refine Kd.C_drew ?_))); (case side2 => exact (Kd.R_reads' HO197.out).2.1); rintro e w16 ⟨v199, rfl, ho0, hb⟩; refine ⟨_, rfl, ?_⟩; have n0_ := Aside0.mk (Kd.R_below (by (with_reducible repeat (first | apply Kd.R_alloc | apply Kd.R_drewN | apply Kd.R_drew)); exact HO197.out) hb); have n1_ := Aside0.mk (Kd.R_lower ho0 (below_size belH)); have n2_ := Aside0.mk (below_step belH hb); clear HO197; clear HB; have HO197 := n0_; have HO200 := n1_; have HB := n2_; clear n0_ n1_ n2_; (try clear hb); (try clear hb2); (try clear hk); (try clear hi); (try clear ho0)) | ((with_reducible refine gate_callee (f := 14) rfl ?_); refine goesL_ (some 22) rfl rfl Tryd.func14 (by kernel_rfl) rfl #[.string a0] rfl (by (try simp only [List.map_toArray, List.map_cons, List.map_nil]); first | done | rfl | (simp only [List.length_drop, List.length_take]; rfl)) ?_; (with_reducible refine (spec_MountsRead.calls k a0 t202 true t204 _ A6.out).mono ?_); rintro e w17 ⟨v205, rfl, ho0, hb⟩; refine ⟨_, rfl, ?_⟩; have n0_ := Aside0.mk (Kd.R_below (by (with_reducible repeat (first | apply Kd.R_alloc | apply Kd.R_drewN | apply Kd.R_drew)); exact HO197.out) hb); have n1_ := Aside0.mk (Kd.R_below (by (with_reducible repeat (first | apply Kd.R_alloc | apply Kd.R_drewN | apply Kd.R_drew)); exact HO200.out) hb); have n2_ := Aside0.mk (Kd.R_lower ho0 (below_size belH)); have n3_ := Aside0.mk (below_step belH hb); clear HO197; clear HO200; clear HB; have HO197 := n0_; have HO200 := n1_; have HO206 := n2_; have HB := n3_; clear n0_ n1_ n2_ n3_; (try clear hb); (try clear hb2); (try clear hk); (try clear hi); (try clear ho0); obtain ⟨Ao18, co18, eo18⟩ := Kd.R_slice HO206.out; subst eo18) | (go_at_call 16; (with_reducible refine (laws_mountsFrom.calls k _ _ t202 t208 _ ?side1 ?side2 A10.out).mono ?_); (case side1 => repeat (first | exact (Kd.R_reads' HO206.out).2.2 | (with_reducible refine Kd.C_alloc ?_ _) | (with_reducible refine Kd.C_drewN ?_ _) | (with_reducible refine Kd.C_drew ?_))); (case side2 => exact (Kd.R_reads' HO206.out).2.1); rintro e w19 ⟨v209, rfl, ho0, hb⟩; have n0_ := Aside0.mk (Kd.R_below (by (with_reducible repeat (first | apply Kd.R_alloc | apply Kd.R_drewN | apply Kd.R_drew)); exact HO197.out) hb); have n1_ := Aside0.mk (Kd.R_elder' (by (with_reducible repeat (first | apply Kd.R_alloc | apply Kd.R_drewN | apply Kd.R_drew)); exact HO200.out) (Kd.R_base ho0) hb); have n2_ := Aside0.mk (Kd.R_below (by (with_reducible repeat (first | apply Kd.R_alloc | apply Kd.R_drewN | apply Kd.R_drew)); exact HO206.out) hb); have n3_ := Aside0.mk (Kd.R_lower (Kd.R_new' ho0 (Kd.R_lt (by (with_reducible repeat (first | apply Kd.R_alloc | apply Kd.R_drewN | apply Kd.R_drew)); exact HO200.out))) (below_size belH)); have n4_ := Aside0.mk (below_step belH hb); clear HO197; clear HO200; clear HO206; clear HB; have HO197 := n0_; have HO200 := n1_; have HO206 := n2_; have HO210 := n3_; have HB := n4_; clear n0_ n1_ n2_ n3_ n4_; (try clear hb); (try clear hb2); (try clear hk); (try clear hi); (try clear ho0); obtain ⟨Ao20, co20, eo20⟩ := Kd.R_slice HO200.out; subst eo20; obtain ⟨Ao21, co21, eo21⟩ := Kd.R_slice HO210.out; subst eo21) | (go_at_call 15; (with_reducible refine (laws_sameMounts.calls k _ _ t198 _ _ t208 true _ ?side1 ?side2 ?side3 ?side4 A11.out).mono ?_); (case side1 => repeat (first | exact (Kd.R_reads' HO200.out).2.2 | (with_reducible refine Kd.C_alloc ?_ _) | (with_reducible refine Kd.C_drewN ?_ _) | (with_reducible refine Kd.C_drew ?_))); (case side2 => exact (Kd.R_reads' HO200.out).2.1); (case side3 => repeat (first | exact (Kd.R_reads' HO210.out).2.2 | (with_reducible refine Kd.C_alloc ?_ _) | (with_reducible refine Kd.C_drewN ?_ _) | (with_reducible refine Kd.C_drew ?_))); (case side4 => exact (Kd.R_reads' HO210.out).2.1); rintro e w' ⟨rfl, ⟨nd, rfl⟩⟩) | (go_at_call 10; (with_reducible refine (laws_mounts.calls  t212 _ A13.out).mono ?_); rintro e w22 ⟨rfl, hb⟩; have n0_ := Aside0.mk (Kd.R_below (by (with_reducible repeat (first | apply Kd.R_alloc | apply Kd.R_drewN | apply Kd.R_drew)); exact HO197.out) hb); have n1_ := Aside0.mk (Kd.R_below (by (with_reducible repeat (first | apply Kd.R_alloc | apply Kd.R_drewN | apply Kd.R_drew)); exact HO200.out) hb); have n2_ := Aside0.mk (Kd.R_below (by (with_reducible repeat (first | apply Kd.R_alloc | apply Kd.R_drewN | apply Kd.R_drew)); exact HO206.out) hb); have n3_ := Aside0.mk (Kd.R_below (by (with_reducible repeat (first | apply Kd.R_alloc | apply Kd.R_drewN | apply Kd.R_drew)); exact HO210.out) hb); have n4_ := Aside0.mk (below_step belH hb); clear HO197; clear HO200; clear HO206; clear HO210; clear HB; have HO197 := n0_; have HO200 := n1_; have HO206 := n2_; have HO210 := n3_; have HB := n4_; clear n0_ n1_ n2_ n3_ n4_; (try clear hb); (try clear hb2); (try clear hk); (try clear hi)))
       go_ret
       exact ⟨by first | rfl | (simp [errW_none, errW_some] <;> rfl) | (simp [*, errW_none, errW_some] <;> rfl), by repeat (first | (with_reducible first | exact HB.out | apply below_alloc | apply pw_below_drewN | apply below_drew1) | exact HB.out)⟩
      ·replace c12 := Bool.eq_false_iff.mpr c12
       subst c12
       have H1 : (some false) = some r := by rw [if_neg (show ¬ (false = true) by decide)] at H; exact H
       clear H
       have H := H1
       clear H1
       obtain rfl := Option.some.inj H
       go_enter Tryd.func5, Tryd.ntmps5
       go_wp2_with (first | ((with_reducible refine gate_callee (f := 13) rfl ?_); refine goesL_ (some 16) rfl rfl Tryd.func13 (by kernel_rfl) rfl #[] rfl (by (try simp only [List.map_toArray, List.map_cons, List.map_nil]); first | done | rfl | (simp only [List.length_drop, List.length_take]; rfl)) ?_; (with_reducible refine (laws_all.calls  t194 t195 _ A4.out).mono ?_); rintro e w23 ⟨v196, rfl, ho0, hb⟩; refine ⟨_, rfl, ?_⟩; have n0_ := Aside0.mk (Kd.R_lower ho0 (below_size belH)); have n1_ := Aside0.mk (below_step belH hb); clear HB; have HO197 := n0_; have HB := n1_; clear n0_ n1_; (try clear hb); (try clear hb2); (try clear hk); (try clear hi); (try clear ho0); obtain ⟨Ao24, co24, eo24⟩ := Kd.R_slice HO197.out; subst eo24) | ((with_reducible refine gate_callee (f := 9) rfl ?_); refine goesL_ (some 17) rfl rfl Tryd.func9 (by kernel_rfl) rfl #[.string a0, .agg #[.int .i64 t194, .slice Ao24 t195.length co24]] rfl (by (try simp only [List.map_toArray, List.map_cons, List.map_nil]); first | done | rfl | (simp only [List.length_drop, List.length_take]; rfl)) ?_; (with_reducible refine (impl_MountsE.calls a0 t194 _ _ t195 t198 t201 _ ?side1 ?side2 A5.out).mono ?_); (case side1 => repeat (first | exact (Kd.R_reads' HO197.out).2.2 | (with_reducible refine Kd.C_alloc ?_ _) | (with_reducible refine Kd.C_drewN ?_ _) | (with_reducible refine Kd.C_drew ?_))); (case side2 => exact (Kd.R_reads' HO197.out).2.1); rintro e w25 ⟨v199, rfl, ho0, hb⟩; refine ⟨_, rfl, ?_⟩; have n0_ := Aside0.mk (Kd.R_below (by (with_reducible repeat (first | apply Kd.R_alloc | apply Kd.R_drewN | apply Kd.R_drew)); exact HO197.out) hb); have n1_ := Aside0.mk (Kd.R_lower ho0 (below_size belH)); have n2_ := Aside0.mk (below_step belH hb); clear HO197; clear HB; have HO197 := n0_; have HO200 := n1_; have HB := n2_; clear n0_ n1_ n2_; (try clear hb); (try clear hb2); (try clear hk); (try clear hi); (try clear ho0)) | ((with_reducible refine gate_callee (f := 14) rfl ?_); refine goesL_ (some 22) rfl rfl Tryd.func14 (by kernel_rfl) rfl #[.string a0] rfl (by (try simp only [List.map_toArray, List.map_cons, List.map_nil]); first | done | rfl | (simp only [List.length_drop, List.length_take]; rfl)) ?_; (with_reducible refine (spec_MountsRead.calls k a0 t202 true t204 _ A6.out).mono ?_); rintro e w26 ⟨v205, rfl, ho0, hb⟩; refine ⟨_, rfl, ?_⟩; have n0_ := Aside0.mk (Kd.R_below (by (with_reducible repeat (first | apply Kd.R_alloc | apply Kd.R_drewN | apply Kd.R_drew)); exact HO197.out) hb); have n1_ := Aside0.mk (Kd.R_below (by (with_reducible repeat (first | apply Kd.R_alloc | apply Kd.R_drewN | apply Kd.R_drew)); exact HO200.out) hb); have n2_ := Aside0.mk (Kd.R_lower ho0 (below_size belH)); have n3_ := Aside0.mk (below_step belH hb); clear HO197; clear HO200; clear HB; have HO197 := n0_; have HO200 := n1_; have HO206 := n2_; have HB := n3_; clear n0_ n1_ n2_ n3_; (try clear hb); (try clear hb2); (try clear hk); (try clear hi); (try clear ho0); obtain ⟨Ao27, co27, eo27⟩ := Kd.R_slice HO206.out; subst eo27) | (go_at_call 16; (with_reducible refine (laws_mountsFrom.calls k _ _ t202 t208 _ ?side1 ?side2 A10.out).mono ?_); (case side1 => repeat (first | exact (Kd.R_reads' HO206.out).2.2 | (with_reducible refine Kd.C_alloc ?_ _) | (with_reducible refine Kd.C_drewN ?_ _) | (with_reducible refine Kd.C_drew ?_))); (case side2 => exact (Kd.R_reads' HO206.out).2.1); rintro e w28 ⟨v209, rfl, ho0, hb⟩; have n0_ := Aside0.mk (Kd.R_below (by (with_reducible repeat (first | apply Kd.R_alloc | apply Kd.R_drewN | apply Kd.R_drew)); exact HO197.out) hb); have n1_ := Aside0.mk (Kd.R_elder' (by (with_reducible repeat (first | apply Kd.R_alloc | apply Kd.R_drewN | apply Kd.R_drew)); exact HO200.out) (Kd.R_base ho0) hb); have n2_ := Aside0.mk (Kd.R_below (by (with_reducible repeat (first | apply Kd.R_alloc | apply Kd.R_drewN | apply Kd.R_drew)); exact HO206.out) hb); have n3_ := Aside0.mk (Kd.R_lower (Kd.R_new' ho0 (Kd.R_lt (by (with_reducible repeat (first | apply Kd.R_alloc | apply Kd.R_drewN | apply Kd.R_drew)); exact HO200.out))) (below_size belH)); have n4_ := Aside0.mk (below_step belH hb); clear HO197; clear HO200; clear HO206; clear HB; have HO197 := n0_; have HO200 := n1_; have HO206 := n2_; have HO210 := n3_; have HB := n4_; clear n0_ n1_ n2_ n3_ n4_; (try clear hb); (try clear hb2); (try clear hk); (try clear hi); (try clear ho0); obtain ⟨Ao29, co29, eo29⟩ := Kd.R_slice HO200.out; subst eo29; obtain ⟨Ao30, co30, eo30⟩ := Kd.R_slice HO210.out; subst eo30) | (go_at_call 15; (with_reducible refine (laws_sameMounts.calls k _ _ t198 _ _ t208 false _ ?side1 ?side2 ?side3 ?side4 A11.out).mono ?_); (case side1 => repeat (first | exact (Kd.R_reads' HO200.out).2.2 | (with_reducible refine Kd.C_alloc ?_ _) | (with_reducible refine Kd.C_drewN ?_ _) | (with_reducible refine Kd.C_drew ?_))); (case side2 => exact (Kd.R_reads' HO200.out).2.1); (case side3 => repeat (first | exact (Kd.R_reads' HO210.out).2.2 | (with_reducible refine Kd.C_alloc ?_ _) | (with_reducible refine Kd.C_drewN ?_ _) | (with_reducible refine Kd.C_drew ?_))); (case side4 => exact (Kd.R_reads' HO210.out).2.1); rintro e w' ⟨rfl, ⟨nd, rfl⟩⟩))
       go_ret
       exact ⟨by first | rfl | (simp [errW_none, errW_some] <;> rfl) | (simp [*, errW_none, errW_some] <;> rfl), by repeat (first | (with_reducible first | exact HB.out | apply below_alloc | apply pw_below_drewN | apply below_drew1) | exact HB.out)⟩
     ·rw [if_neg c9] at H
      have c9b0 : (t201 == 0) = false := beq_eq_false_iff_ne.mpr c9
      have c9b1 : (t201 != 0) = true := bne_iff_ne.mpr c9
      obtain rfl := Option.some.inj H
      go_enter Tryd.func5, Tryd.ntmps5
      go_wp2_with (first | ((with_reducible refine gate_callee (f := 13) rfl ?_); refine goesL_ (some 16) rfl rfl Tryd.func13 (by kernel_rfl) rfl #[] rfl (by (try simp only [List.map_toArray, List.map_cons, List.map_nil]); first | done | rfl | (simp only [List.length_drop, List.length_take]; rfl)) ?_; (with_reducible refine (laws_all.calls  t194 t195 _ A4.out).mono ?_); rintro e w31 ⟨v196, rfl, ho0, hb⟩; refine ⟨_, rfl, ?_⟩; have n0_ := Aside0.mk (Kd.R_lower ho0 (below_size belH)); have n1_ := Aside0.mk (below_step belH hb); clear HB; have HO197 := n0_; have HB := n1_; clear n0_ n1_; (try clear hb); (try clear hb2); (try clear hk); (try clear hi); (try clear ho0); obtain ⟨Ao32, co32, eo32⟩ := Kd.R_slice HO197.out; subst eo32) | ((with_reducible refine gate_callee (f := 9) rfl ?_); refine goesL_ (some 17) rfl rfl Tryd.func9 (by kernel_rfl) rfl #[.string a0, .agg #[.int .i64 t194, .slice Ao32 t195.length co32]] rfl (by (try simp only [List.map_toArray, List.map_cons, List.map_nil]); first | done | rfl | (simp only [List.length_drop, List.length_take]; rfl)) ?_; (with_reducible refine (impl_MountsE.calls a0 t194 _ _ t195 t198 t201 _ ?side1 ?side2 A5.out).mono ?_); (case side1 => repeat (first | exact (Kd.R_reads' HO197.out).2.2 | (with_reducible refine Kd.C_alloc ?_ _) | (with_reducible refine Kd.C_drewN ?_ _) | (with_reducible refine Kd.C_drew ?_))); (case side2 => exact (Kd.R_reads' HO197.out).2.1); rintro e w33 ⟨v199, rfl, ho0, hb⟩; refine ⟨_, rfl, ?_⟩; have n0_ := Aside0.mk (Kd.R_below (by (with_reducible repeat (first | apply Kd.R_alloc | apply Kd.R_drewN | apply Kd.R_drew)); exact HO197.out) hb); have n1_ := Aside0.mk (Kd.R_lower ho0 (below_size belH)); have n2_ := Aside0.mk (below_step belH hb); clear HO197; clear HB; have HO197 := n0_; have HO200 := n1_; have HB := n2_; clear n0_ n1_ n2_; (try clear hb); (try clear hb2); (try clear hk); (try clear hi); (try clear ho0)) | ((with_reducible refine gate_callee (f := 14) rfl ?_); refine goesL_ (some 22) rfl rfl Tryd.func14 (by kernel_rfl) rfl #[.string a0] rfl (by (try simp only [List.map_toArray, List.map_cons, List.map_nil]); first | done | rfl | (simp only [List.length_drop, List.length_take]; rfl)) ?_; (with_reducible refine (spec_MountsRead.calls k a0 t202 true t204 _ A6.out).mono ?_); rintro e w34 ⟨v205, rfl, ho0, hb⟩; refine ⟨_, rfl, ?_⟩; have n0_ := Aside0.mk (Kd.R_below (by (with_reducible repeat (first | apply Kd.R_alloc | apply Kd.R_drewN | apply Kd.R_drew)); exact HO197.out) hb); have n1_ := Aside0.mk (Kd.R_below (by (with_reducible repeat (first | apply Kd.R_alloc | apply Kd.R_drewN | apply Kd.R_drew)); exact HO200.out) hb); have n2_ := Aside0.mk (Kd.R_lower ho0 (below_size belH)); have n3_ := Aside0.mk (below_step belH hb); clear HO197; clear HO200; clear HB; have HO197 := n0_; have HO200 := n1_; have HO206 := n2_; have HB := n3_; clear n0_ n1_ n2_ n3_; (try clear hb); (try clear hb2); (try clear hk); (try clear hi); (try clear ho0)))
      go_ret
      exact ⟨by first | rfl | (simp [errW_none, errW_some] <;> rfl) | (simp [*, errW_none, errW_some] <;> rfl), by repeat (first | (with_reducible first | exact HB.out | apply below_alloc | apply pw_below_drewN | apply below_drew1) | exact HB.out)⟩
    ·replace c8 := Bool.eq_false_iff.mpr c8
     subst c8
     have H1 : (if t201 = 1 then ((laws_mounts.f).bind fun t213 => (some t213)) else (some false)) = some r := by rw [if_neg (show ¬ (false = true) by decide)] at H; exact H
     clear H
     have H := H1
     clear H1
     by_cases c35 : t201 = 1
     ·rw [if_pos c35] at H
      have c35b0 : (t201 == 1) = true := beq_iff_eq.mpr c35
      have c35b1 : (t201 != 1) = false := bne_eq_false_iff_eq.mpr c35
      clear c35
      replace H := Option.bind_eq_some_iff.mp H
      obtain ⟨t213, A360, H⟩ := H
      have A36 := Aside0.mk A360
      clear A360
      obtain rfl := Option.some.inj H
      go_enter Tryd.func5, Tryd.ntmps5
      go_wp2_with (first | ((with_reducible refine gate_callee (f := 13) rfl ?_); refine goesL_ (some 16) rfl rfl Tryd.func13 (by kernel_rfl) rfl #[] rfl (by (try simp only [List.map_toArray, List.map_cons, List.map_nil]); first | done | rfl | (simp only [List.length_drop, List.length_take]; rfl)) ?_; (with_reducible refine (laws_all.calls  t194 t195 _ A4.out).mono ?_); rintro e w37 ⟨v196, rfl, ho0, hb⟩; refine ⟨_, rfl, ?_⟩; have n0_ := Aside0.mk (Kd.R_lower ho0 (below_size belH)); have n1_ := Aside0.mk (below_step belH hb); clear HB; have HO197 := n0_; have HB := n1_; clear n0_ n1_; (try clear hb); (try clear hb2); (try clear hk); (try clear hi); (try clear ho0); obtain ⟨Ao38, co38, eo38⟩ := Kd.R_slice HO197.out; subst eo38) | ((with_reducible refine gate_callee (f := 9) rfl ?_); refine goesL_ (some 17) rfl rfl Tryd.func9 (by kernel_rfl) rfl #[.string a0, .agg #[.int .i64 t194, .slice Ao38 t195.length co38]] rfl (by (try simp only [List.map_toArray, List.map_cons, List.map_nil]); first | done | rfl | (simp only [List.length_drop, List.length_take]; rfl)) ?_; (with_reducible refine (impl_MountsE.calls a0 t194 _ _ t195 t198 t201 _ ?side1 ?side2 A5.out).mono ?_); (case side1 => repeat (first | exact (Kd.R_reads' HO197.out).2.2 | (with_reducible refine Kd.C_alloc ?_ _) | (with_reducible refine Kd.C_drewN ?_ _) | (with_reducible refine Kd.C_drew ?_))); (case side2 => exact (Kd.R_reads' HO197.out).2.1); rintro e w39 ⟨v199, rfl, ho0, hb⟩; refine ⟨_, rfl, ?_⟩; have n0_ := Aside0.mk (Kd.R_below (by (with_reducible repeat (first | apply Kd.R_alloc | apply Kd.R_drewN | apply Kd.R_drew)); exact HO197.out) hb); have n1_ := Aside0.mk (Kd.R_lower ho0 (below_size belH)); have n2_ := Aside0.mk (below_step belH hb); clear HO197; clear HB; have HO197 := n0_; have HO200 := n1_; have HB := n2_; clear n0_ n1_ n2_; (try clear hb); (try clear hb2); (try clear hk); (try clear hi); (try clear ho0)) | ((with_reducible refine gate_callee (f := 14) rfl ?_); refine goesL_ (some 22) rfl rfl Tryd.func14 (by kernel_rfl) rfl #[.string a0] rfl (by (try simp only [List.map_toArray, List.map_cons, List.map_nil]); first | done | rfl | (simp only [List.length_drop, List.length_take]; rfl)) ?_; (with_reducible refine (spec_MountsRead.calls k a0 t202 false t204 _ A6.out).mono ?_); rintro e w40 ⟨v205, rfl, ho0, hb⟩; refine ⟨_, rfl, ?_⟩; have n0_ := Aside0.mk (Kd.R_below (by (with_reducible repeat (first | apply Kd.R_alloc | apply Kd.R_drewN | apply Kd.R_drew)); exact HO197.out) hb); have n1_ := Aside0.mk (Kd.R_below (by (with_reducible repeat (first | apply Kd.R_alloc | apply Kd.R_drewN | apply Kd.R_drew)); exact HO200.out) hb); have n2_ := Aside0.mk (Kd.R_lower ho0 (below_size belH)); have n3_ := Aside0.mk (below_step belH hb); clear HO197; clear HO200; clear HB; have HO197 := n0_; have HO200 := n1_; have HO206 := n2_; have HB := n3_; clear n0_ n1_ n2_ n3_; (try clear hb); (try clear hb2); (try clear hk); (try clear hi); (try clear ho0)) | (go_at_call 10; (with_reducible refine (laws_mounts.calls  t213 _ A36.out).mono ?_); rintro e w41 ⟨rfl, hb⟩; have n0_ := Aside0.mk (Kd.R_below (by (with_reducible repeat (first | apply Kd.R_alloc | apply Kd.R_drewN | apply Kd.R_drew)); exact HO197.out) hb); have n1_ := Aside0.mk (Kd.R_below (by (with_reducible repeat (first | apply Kd.R_alloc | apply Kd.R_drewN | apply Kd.R_drew)); exact HO200.out) hb); have n2_ := Aside0.mk (Kd.R_below (by (with_reducible repeat (first | apply Kd.R_alloc | apply Kd.R_drewN | apply Kd.R_drew)); exact HO206.out) hb); have n3_ := Aside0.mk (below_step belH hb); clear HO197; clear HO200; clear HO206; clear HB; have HO197 := n0_; have HO200 := n1_; have HO206 := n2_; have HB := n3_; clear n0_ n1_ n2_ n3_; (try clear hb); (try clear hb2); (try clear hk); (try clear hi)))
      go_ret
      exact ⟨by first | rfl | (simp [errW_none, errW_some] <;> rfl) | (simp [*, errW_none, errW_some] <;> rfl), by repeat (first | (with_reducible first | exact HB.out | apply below_alloc | apply pw_below_drewN | apply below_drew1) | exact HB.out)⟩
     ·rw [if_neg c35] at H
      have c35b0 : (t201 == 1) = false := beq_eq_false_iff_ne.mpr c35
      have c35b1 : (t201 != 1) = true := bne_iff_ne.mpr c35
      obtain rfl := Option.some.inj H
      go_enter Tryd.func5, Tryd.ntmps5
      go_wp2_with (first | ((with_reducible refine gate_callee (f := 13) rfl ?_); refine goesL_ (some 16) rfl rfl Tryd.func13 (by kernel_rfl) rfl #[] rfl (by (try simp only [List.map_toArray, List.map_cons, List.map_nil]); first | done | rfl | (simp only [List.length_drop, List.length_take]; rfl)) ?_; (with_reducible refine (laws_all.calls  t194 t195 _ A4.out).mono ?_); rintro e w42 ⟨v196, rfl, ho0, hb⟩; refine ⟨_, rfl, ?_⟩; have n0_ := Aside0.mk (Kd.R_lower ho0 (below_size belH)); have n1_ := Aside0.mk (below_step belH hb); clear HB; have HO197 := n0_; have HB := n1_; clear n0_ n1_; (try clear hb); (try clear hb2); (try clear hk); (try clear hi); (try clear ho0); obtain ⟨Ao43, co43, eo43⟩ := Kd.R_slice HO197.out; subst eo43) | ((with_reducible refine gate_callee (f := 9) rfl ?_); refine goesL_ (some 17) rfl rfl Tryd.func9 (by kernel_rfl) rfl #[.string a0, .agg #[.int .i64 t194, .slice Ao43 t195.length co43]] rfl (by (try simp only [List.map_toArray, List.map_cons, List.map_nil]); first | done | rfl | (simp only [List.length_drop, List.length_take]; rfl)) ?_; (with_reducible refine (impl_MountsE.calls a0 t194 _ _ t195 t198 t201 _ ?side1 ?side2 A5.out).mono ?_); (case side1 => repeat (first | exact (Kd.R_reads' HO197.out).2.2 | (with_reducible refine Kd.C_alloc ?_ _) | (with_reducible refine Kd.C_drewN ?_ _) | (with_reducible refine Kd.C_drew ?_))); (case side2 => exact (Kd.R_reads' HO197.out).2.1); rintro e w44 ⟨v199, rfl, ho0, hb⟩; refine ⟨_, rfl, ?_⟩; have n0_ := Aside0.mk (Kd.R_below (by (with_reducible repeat (first | apply Kd.R_alloc | apply Kd.R_drewN | apply Kd.R_drew)); exact HO197.out) hb); have n1_ := Aside0.mk (Kd.R_lower ho0 (below_size belH)); have n2_ := Aside0.mk (below_step belH hb); clear HO197; clear HB; have HO197 := n0_; have HO200 := n1_; have HB := n2_; clear n0_ n1_ n2_; (try clear hb); (try clear hb2); (try clear hk); (try clear hi); (try clear ho0)) | ((with_reducible refine gate_callee (f := 14) rfl ?_); refine goesL_ (some 22) rfl rfl Tryd.func14 (by kernel_rfl) rfl #[.string a0] rfl (by (try simp only [List.map_toArray, List.map_cons, List.map_nil]); first | done | rfl | (simp only [List.length_drop, List.length_take]; rfl)) ?_; (with_reducible refine (spec_MountsRead.calls k a0 t202 false t204 _ A6.out).mono ?_); rintro e w45 ⟨v205, rfl, ho0, hb⟩; refine ⟨_, rfl, ?_⟩; have n0_ := Aside0.mk (Kd.R_below (by (with_reducible repeat (first | apply Kd.R_alloc | apply Kd.R_drewN | apply Kd.R_drew)); exact HO197.out) hb); have n1_ := Aside0.mk (Kd.R_below (by (with_reducible repeat (first | apply Kd.R_alloc | apply Kd.R_drewN | apply Kd.R_drew)); exact HO200.out) hb); have n2_ := Aside0.mk (Kd.R_lower ho0 (below_size belH)); have n3_ := Aside0.mk (below_step belH hb); clear HO197; clear HO200; clear HB; have HO197 := n0_; have HO200 := n1_; have HO206 := n2_; have HB := n3_; clear n0_ n1_ n2_ n3_; (try clear hb); (try clear hb2); (try clear hk); (try clear hi); (try clear ho0)))
      go_ret
      exact ⟨by first | rfl | (simp [errW_none, errW_some] <;> rfl) | (simp [*, errW_none, errW_some] <;> rfl), by repeat (first | (with_reducible first | exact HB.out | apply below_alloc | apply pw_below_drewN | apply below_drew1) | exact HB.out)⟩
   ·rw [if_neg c7] at H
    have c7b0 : (t204 == 1) = false := beq_eq_false_iff_ne.mpr c7
    have c7b1 : (t204 != 1) = true := bne_iff_ne.mpr c7
    replace H := Option.bind_eq_some_iff.mp H
    obtain ⟨t207, A460, H⟩ := H
    have A46 := Aside0.mk A460
    clear A460
    obtain rfl := Option.some.inj H
    go_enter Tryd.func5, Tryd.ntmps5
    go_wp2_with (first | ((with_reducible refine gate_callee (f := 13) rfl ?_); refine goesL_ (some 16) rfl rfl Tryd.func13 (by kernel_rfl) rfl #[] rfl (by (try simp only [List.map_toArray, List.map_cons, List.map_nil]); first | done | rfl | (simp only [List.length_drop, List.length_take]; rfl)) ?_; (with_reducible refine (laws_all.calls  t194 t195 _ A4.out).mono ?_); rintro e w47 ⟨v196, rfl, ho0, hb⟩; refine ⟨_, rfl, ?_⟩; have n0_ := Aside0.mk (Kd.R_lower ho0 (below_size belH)); have n1_ := Aside0.mk (below_step belH hb); clear HB; have HO197 := n0_; have HB := n1_; clear n0_ n1_; (try clear hb); (try clear hb2); (try clear hk); (try clear hi); (try clear ho0); obtain ⟨Ao48, co48, eo48⟩ := Kd.R_slice HO197.out; subst eo48) | ((with_reducible refine gate_callee (f := 9) rfl ?_); refine goesL_ (some 17) rfl rfl Tryd.func9 (by kernel_rfl) rfl #[.string a0, .agg #[.int .i64 t194, .slice Ao48 t195.length co48]] rfl (by (try simp only [List.map_toArray, List.map_cons, List.map_nil]); first | done | rfl | (simp only [List.length_drop, List.length_take]; rfl)) ?_; (with_reducible refine (impl_MountsE.calls a0 t194 _ _ t195 t198 t201 _ ?side1 ?side2 A5.out).mono ?_); (case side1 => repeat (first | exact (Kd.R_reads' HO197.out).2.2 | (with_reducible refine Kd.C_alloc ?_ _) | (with_reducible refine Kd.C_drewN ?_ _) | (with_reducible refine Kd.C_drew ?_))); (case side2 => exact (Kd.R_reads' HO197.out).2.1); rintro e w49 ⟨v199, rfl, ho0, hb⟩; refine ⟨_, rfl, ?_⟩; have n0_ := Aside0.mk (Kd.R_below (by (with_reducible repeat (first | apply Kd.R_alloc | apply Kd.R_drewN | apply Kd.R_drew)); exact HO197.out) hb); have n1_ := Aside0.mk (Kd.R_lower ho0 (below_size belH)); have n2_ := Aside0.mk (below_step belH hb); clear HO197; clear HB; have HO197 := n0_; have HO200 := n1_; have HB := n2_; clear n0_ n1_ n2_; (try clear hb); (try clear hb2); (try clear hk); (try clear hi); (try clear ho0)) | ((with_reducible refine gate_callee (f := 14) rfl ?_); refine goesL_ (some 22) rfl rfl Tryd.func14 (by kernel_rfl) rfl #[.string a0] rfl (by (try simp only [List.map_toArray, List.map_cons, List.map_nil]); first | done | rfl | (simp only [List.length_drop, List.length_take]; rfl)) ?_; (with_reducible refine (spec_MountsRead.calls k a0 t202 t203 t204 _ A6.out).mono ?_); rintro e w50 ⟨v205, rfl, ho0, hb⟩; refine ⟨_, rfl, ?_⟩; have n0_ := Aside0.mk (Kd.R_below (by (with_reducible repeat (first | apply Kd.R_alloc | apply Kd.R_drewN | apply Kd.R_drew)); exact HO197.out) hb); have n1_ := Aside0.mk (Kd.R_below (by (with_reducible repeat (first | apply Kd.R_alloc | apply Kd.R_drewN | apply Kd.R_drew)); exact HO200.out) hb); have n2_ := Aside0.mk (Kd.R_lower ho0 (below_size belH)); have n3_ := Aside0.mk (below_step belH hb); clear HO197; clear HO200; clear HB; have HO197 := n0_; have HO200 := n1_; have HO206 := n2_; have HB := n3_; clear n0_ n1_ n2_ n3_; (try clear hb); (try clear hb2); (try clear hk); (try clear hi); (try clear ho0)) | ((with_reducible refine gate_callee (f := 10) rfl ?_); refine goesL_ (some 28) rfl rfl Tryd.func10 (by kernel_rfl) rfl #[] rfl (by (try simp only [List.map_toArray, List.map_cons, List.map_nil]); first | done | rfl | (simp only [List.length_drop, List.length_take]; rfl)) ?_; (with_reducible refine (laws_mounts.calls  t207 _ A46.out).mono ?_); rintro e w51 ⟨rfl, hb⟩; refine ⟨_, rfl, ?_⟩; have n0_ := Aside0.mk (Kd.R_below (by (with_reducible repeat (first | apply Kd.R_alloc | apply Kd.R_drewN | apply Kd.R_drew)); exact HO197.out) hb); have n1_ := Aside0.mk (Kd.R_below (by (with_reducible repeat (first | apply Kd.R_alloc | apply Kd.R_drewN | apply Kd.R_drew)); exact HO200.out) hb); have n2_ := Aside0.mk (Kd.R_below (by (with_reducible repeat (first | apply Kd.R_alloc | apply Kd.R_drewN | apply Kd.R_drew)); exact HO206.out) hb); have n3_ := Aside0.mk (below_step belH hb); clear HO197; clear HO200; clear HO206; clear HB; have HO197 := n0_; have HO200 := n1_; have HO206 := n2_; have HB := n3_; clear n0_ n1_ n2_ n3_; (try clear hb); (try clear hb2); (try clear hk); (try clear hi)))
    go_ret
    exact ⟨by first | rfl | (simp [errW_none, errW_some] <;> rfl) | (simp [*, errW_none, errW_some] <;> rfl), by repeat (first | (with_reducible first | exact HB.out | apply below_alloc | apply pw_below_drewN | apply below_drew1) | exact HB.out)⟩

/-- THE ONE PURE STATEMENT of laws_FnMountsRead: yours. -/
def laws_FnMountsRead.Pure : Prop := ∀ (a0 : ByteArray), a0.size ≤ 140737488351232 → ∃ k, laws_FnMountsRead.f k a0 = some true
theorem laws_FnMountsRead.walk (P : laws_FnMountsRead.Pure) (a0 : ByteArray) (w : World) (w0 : a0.size ≤ 140737488351232) (hTabs : Tabs w := by first | exact hTabs | exact Tabs.below hTabs (by repeat (first | (with_reducible first | exact HB.out | apply below_alloc | apply pw_below_drewN | apply below_drew1 | refine below_set ?_ (Aside0.out (by assumption))) | exact HB.out))) :
  Calls Tryd.prog 5 #[.string a0] w fun e w' => e = .returned (.bool true) ∧ Below w.heap.size w w' := by
 obtain ⟨k, h⟩ := P a0 w0
 refine (laws_FnMountsRead.calls k a0 true w h).mono ?_
 rintro e w' ⟨rfl, hd⟩
 exact ⟨rfl, hd⟩

end Go.Proofs.YtokojamaigebaaaDoor.K
