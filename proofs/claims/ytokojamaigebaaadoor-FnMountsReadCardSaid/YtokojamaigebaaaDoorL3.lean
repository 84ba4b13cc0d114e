-- written by a program of this session (wip/tools/pp.py)
import Derived.Test.YtokojamaigebaaaDoorL0
namespace Go.Proofs.YtokojamaigebaaaDoor.L
open Go.RowKit Go.Proofs.YtokojamaigebaaaDoorW.PrintWords Go.Proofs.YtokojamaigebaaaDoorW.PrintLast Go.Proofs.YtokojamaigebaaaDoor.M Go.Proofs.YtokojamaigebaaaDoor.MtDoor Go.Proofs.YtokojamaigebaaaDoorW.PrintMore
attribute [local go_sem] max2_int min2_int max_two min_two max_three min_three max_four min_four   -- for this text's walks alone
set_option linter.unusedVariables false
set_option linter.unusedSimpArgs false

/-! ### spec_fields: function 28 -/
def spec_fields.l0 : Nat → ByteArray → List ByteArray → Int → Int → Int → Option (List ByteArray)
 | 0, _, _, _, _, _ => none
 | k + 1, x0, x3, x4, x7, x8 => if x8 < x7 then (if 0 ≤ x8 then (if x8 < (x0.size : Int) then (if (bt x0 x8) = 32 then (if 0 ≤ x4 then (if x4 ≤ x8 then (if x8 ≤ (x0.size : Int) then (if x3.length < 8796093022208 then (spec_fields.l0 k x0 (x3 ++ [x0.extract (x4 : Int).toNat (x8 : Int).toNat]) (wrap64 (x8 + 1)) x7 (wrap64 (x8 + 1))) else (none)) else (none)) else (none)) else (none)) else (spec_fields.l0 k x0 x3 x4 x7 (wrap64 (x8 + 1)))) else (none)) else (none)) else (if 0 ≤ x4 then (if x4 ≤ (x0.size : Int) then (if x3.length < 8796093022208 then (some (x3 ++ [x0.extract (x4 : Int).toNat x0.size])) else (none)) else (none)) else (none))
def spec_fields.f (k : Nat) (a0 : ByteArray) : Option (List ByteArray) := spec_fields.l0 k a0 ([] : List ByteArray) 0 (a0.size : Int) 0
theorem spec_fields.mono_l : ∀ k, (∀ y0 y1 y2 y3 y4, LeO (spec_fields.l0 k y0 y1 y2 y3 y4) (spec_fields.l0 (k + 1) y0 y1 y2 y3 y4))
 | 0 => fun _ _ _ _ _ r h => by simp [spec_fields.l0] at h
 | k + 1 => by
  have ih0 := spec_fields.mono_l k
  ·intro y0 y1 y2 y3 y4
   unfold spec_fields.l0
   repeat' first
   | (with_reducible exact ih0 _ _ _ _ _)
   | (with_reducible exact LeO.refl _)
   | (with_reducible exact LeO.none _)
   | (with_reducible refine LeO.ite ?_ ?_)
   | (with_reducible refine LeO.bind ?_ (fun _ => ?_))
   | exact ih0 _ _ _ _ _
   | exact LeO.none _
   | refine LeO.ite ?_ ?_
   | refine LeO.bind ?_ (fun _ => ?_)
theorem spec_fields.mono : ∀ a0 k, LeO (spec_fields.f k a0) (spec_fields.f (k + 1) a0) := by
 intro a0 k
 have ih0 := spec_fields.mono_l k
 unfold spec_fields.f
 repeat' first
   | (with_reducible exact ih0 _ _ _ _ _)
   | (with_reducible exact LeO.refl _)
   | (with_reducible exact LeO.none _)
   | (with_reducible refine LeO.ite ?_ ?_)
   | (with_reducible refine LeO.bind ?_ (fun _ => ?_))
   | exact ih0 _ _ _ _ _
   | exact LeO.none _
   | refine LeO.ite ?_ ?_
   | refine LeO.bind ?_ (fun _ => ?_)
set_option maxHeartbeats 8000000 in
set_option maxRecDepth 100000 in
theorem spec_fields.calls (k : Nat) (a0 : ByteArray) (r : List ByteArray) (w : World) (h : spec_fields.f k a0 = some r) :
  Calls Tryd.prog 28 #[.string a0] w fun e w' => ∃ v0_ : Value, e = .returned (v0_) ∧ Kd.R Kd.string 9 w' w.heap.size (fun _ => True) v0_ r ∧ Below w.heap.size w w' := by
 have HB := Aside0.mk (Below.refl w.heap.size w)
 have H : (spec_fields.l0 k a0 ([] : List ByteArray) 0 (a0.size : Int) 0) = some r := h
 clear h
 have H' := Aside0.mk H
 clear H
 go_enter Tryd.func28, Tryd.ntmps28
 go_wp2
 go_loopg [3, 4, 8] k (fun kq v3 v4 v8 w' => ∃ (x3_1 : List ByteArray) (x4_1 : Int) (x8_1 : Int), v4 = .int .i64 x4_1 ∧ v8 = .int .i64 x8_1 ∧ Aside0 (spec_fields.l0 kq a0 x3_1 x4_1 (a0.size : Int) x8_1 = some r) ∧ Aside0 (kq ≤ k) ∧ Aside0 (Kd.R Kd.string 9 w' w.heap.size (fun _ => True) v3 x3_1) ∧ Aside0 (Below w.heap.size w w'))
 case atStart => exact ⟨(([] : List ByteArray)), (0), (0), (by first | rfl | (simp; done) | (simp [*]; done) | (simp [bne_nil]; done) | (simp [bne_nil, *]; done)), (by first | rfl | (simp; done) | (simp [*]; done) | (simp [bne_nil]; done) | (simp [bne_nil, *]; done)), H', ⟨Nat.le_refl _⟩, ⟨by first | exact Kd.R_nil _ _ _ _ _ | exact Kd.N_nil _ _ _ _ _ | exact Kd.V_nil _ _ _ _ _ | exact Kd.Q_nil _ _ _ _ _ | exact Kd.S_nil _ _ _ _ _⟩, ⟨by repeat (first | (with_reducible first | exact HB.out | apply below_alloc | apply pw_below_drewN | apply below_drew1) | exact HB.out)⟩⟩
 case round =>
  clear H'
  obtain ⟨x3_1, x4_1, x8_1, rfl, rfl, HA, HK1, HO_3, HB⟩ := hrel
  cases gk with
  | zero => exact absurd HA.out (by simp [spec_fields.l0])
  | succ k1 =>
   have H := HA.out
   clear HA
   simp only [spec_fields.l0] at H
   by_cases c2 : x8_1 < (a0.size : Int)
   ·rw [if_pos c2] at H
    have c2b0 : decide (x8_1 < (a0.size : Int)) = true := decide_eq_true c2
    clear c2
    by_cases c3 : 0 ≤ x8_1
    ·rw [if_pos c3] at H
     have c3b0 : decide (0 ≤ x8_1) = true := decide_eq_true c3
     clear c3
     by_cases c4 : x8_1 < (a0.size : Int)
     ·rw [if_pos c4] at H
      have c4b0 : decide (x8_1 < (a0.size : Int)) = true := decide_eq_true c4
      clear c4
      by_cases c6 : (bt a0 x8_1) = 32
      ·rw [if_pos c6] at H
       have c6b0 : ((bt a0 x8_1) == 32) = true := beq_iff_eq.mpr c6
       have c6b1 : ((bt a0 x8_1) != 32) = false := bne_eq_false_iff_eq.mpr c6
       clear c6
       by_cases c7 : 0 ≤ x4_1
       ·rw [if_pos c7] at H
        have c7b0 := eq_true c7
        have c7b1 : decide (0 ≤ x4_1) = true := decide_eq_true c7
        clear c7
        by_cases c8 : x4_1 ≤ x8_1
        ·rw [if_pos c8] at H
         have c8b0 := eq_true c8
         have c8b1 : decide (x4_1 ≤ x8_1) = true := decide_eq_true c8
         clear c8
         by_cases c9 : x8_1 ≤ (a0.size : Int)
         ·rw [if_pos c9] at H
          have c9b0 := eq_true c9
          have c9b1 : decide (x8_1 ≤ (a0.size : Int)) = true := decide_eq_true c9
          clear c9
          by_cases c10 : x3_1.length < 8796093022208
          ·rw [if_pos c10] at H
           have LMc10 := Aside0.mk c10
           clear c10
           obtain ⟨y103, hy103⟩ : ∃ y_ : List ByteArray, y_ = (x3_1 ++ [a0.extract (x4_1 : Int).toNat (x8_1 : Int).toNat]) := ⟨_, rfl⟩
           replace H : (spec_fields.l0 k1 a0 y103 (wrap64 (x8_1 + 1)) (a0.size : Int) (wrap64 (x8_1 + 1))) = some r := by first | (rw [hy103]; with_reducible exact H) | (have H2_ := (Option.bind_some _ _).symm.trans H; rw [hy103]; with_reducible exact H2_) | (have H2_ := (Option.bind_some _ _).symm.trans H; with_reducible exact H2_) | with_reducible exact H | (rw [hy103]; exact H) | exact H
           have Ny103 := Aside0.mk hy103
           clear hy103
           have H' := Aside0.mk H
           clear H
           have p5 : 0 ≤ (x8_1 : Int) := of_decide_eq_true (by first | (with_reducible assumption) | assumption)
           have q5 : x8_1 < (a0.size : Int) := of_decide_eq_true (by first | (with_reducible assumption) | assumption)
           have hx5 := bt_at a0 x8_1
           replace p5 := eq_true p5
           replace q5 := eq_true q5
           go_wp2_with (first | ((with_reducible refine gate_builtin (b := .append) (xs := #[.tmp 15, .tmp 20]) rfl ?_); at_builtin; refine Kd.R_append Kd.string (w0 := w) w.heap.size rfl (.tmp 15) (.tmp 20) 31 9 (.string ⟨#[]⟩) 16 rfl Tryd.underlying31 info9 rfl (by decide) (by omega) u3 x3_1 (a0.extract (x4_1 : Int).toNat (x8_1 : Int).toNat) [.string (a0.extract (x4_1 : Int).toNat (x8_1 : Int).toNat)] (fun _ => True) (fun _ => False) rfl rfl ?aP (fun _ hk => hk.elim) ?aF ?aO ?aB ?aS ?aL ?_; (case aP => exact rfl); (case aB => exact belH); (case aF => exact (fun _ _ => trivial)); (case aO => exact (by (with_reducible repeat (first | apply Kd.R_alloc | apply Kd.R_drewN | apply Kd.R_drew)); exact HO_3.out)); (case aS => exact (below_size belH)); (case aL => have := LMc10.out; omega); intro v104 w11 ho hb hg hat; rw [← Ny103.out] at ho; have n0_ := Aside0.mk (hb); have n1_ := Aside0.mk (ho); clear HB; clear HO_3; have HB := n0_; have HO105 := n1_; clear n0_ n1_; clear ho hb hg hat))
           go_roundg k1
           case measure => have := HK1.out; omega
           case rel => exact ⟨(y103), (wrap64 (x8_1 + 1)), (wrap64 (x8_1 + 1)), (by first | rfl | (simp; done) | (simp [*]; done) | (simp [bne_nil]; done) | (simp [bne_nil, *]; done)), (by first | rfl | (simp; done) | (simp [*]; done) | (simp [bne_nil]; done) | (simp [bne_nil, *]; done)), H', ⟨by have := HK1.out; omega⟩, ⟨by (with_reducible repeat (first | apply Kd.R_alloc | apply Kd.R_drewN | apply Kd.R_drew)); exact HO105.out⟩, ⟨by repeat (first | (with_reducible first | exact HB.out | apply below_alloc | apply pw_below_drewN | apply below_drew1) | exact HB.out)⟩⟩
          ·rw [if_neg c10] at H
           exact absurd H (by simp)
         ·rw [if_neg c9] at H
          exact absurd H (by simp)
        ·rw [if_neg c8] at H
         exact absurd H (by simp)
       ·rw [if_neg c7] at H
        exact absurd H (by simp)
      ·rw [if_neg c6] at H
       have c6b0 : ((bt a0 x8_1) == 32) = false := beq_eq_false_iff_ne.mpr c6
       have c6b1 : ((bt a0 x8_1) != 32) = true := bne_iff_ne.mpr c6
       have H' := Aside0.mk H
       clear H
       have p5 : 0 ≤ (x8_1 : Int) := of_decide_eq_true (by first | (with_reducible assumption) | assumption)
       have q5 : x8_1 < (a0.size : Int) := of_decide_eq_true (by first | (with_reducible assumption) | assumption)
       have hx5 := bt_at a0 x8_1
       replace p5 := eq_true p5
       replace q5 := eq_true q5
       go_wp2
       go_roundg k1
       case measure => have := HK1.out; omega
       case rel => exact ⟨(x3_1), (x4_1), (wrap64 (x8_1 + 1)), (by first | rfl | (simp; done) | (simp [*]; done) | (simp [bne_nil]; done) | (simp [bne_nil, *]; done)), (by first | rfl | (simp; done) | (simp [*]; done) | (simp [bne_nil]; done) | (simp [bne_nil, *]; done)), H', ⟨by have := HK1.out; omega⟩, ⟨by (with_reducible repeat (first | apply Kd.R_alloc | apply Kd.R_drewN | apply Kd.R_drew)); exact HO_3.out⟩, ⟨by repeat (first | (with_reducible first | exact HB.out | apply below_alloc | apply pw_below_drewN | apply below_drew1) | exact HB.out)⟩⟩
     ·rw [if_neg c4] at H
      exact absurd H (by simp)
    ·rw [if_neg c3] at H
     exact absurd H (by simp)
   ·rw [if_neg c2] at H
    have c2b0 : decide (x8_1 < (a0.size : Int)) = false := decide_eq_false c2
    clear c2
    by_cases c12 : 0 ≤ x4_1
    ·rw [if_pos c12] at H
     have c12b0 := eq_true c12
     have c12b1 : decide (0 ≤ x4_1) = true := decide_eq_true c12
     clear c12
     by_cases c13 : x4_1 ≤ (a0.size : Int)
     ·rw [if_pos c13] at H
      have c13b0 := eq_true c13
      have c13b1 : decide (x4_1 ≤ (a0.size : Int)) = true := decide_eq_true c13
      clear c13
      by_cases c14 : x3_1.length < 8796093022208
      ·rw [if_pos c14] at H
       have LMc14 := Aside0.mk c14
       clear c14
       obtain ⟨y106, hy106⟩ : ∃ y_ : List ByteArray, y_ = (x3_1 ++ [a0.extract (x4_1 : Int).toNat a0.size]) := ⟨_, rfl⟩
       replace H : (some y106) = some r := by first | (rw [hy106]; with_reducible exact H) | (have H2_ := (Option.bind_some _ _).symm.trans H; rw [hy106]; with_reducible exact H2_) | (have H2_ := (Option.bind_some _ _).symm.trans H; with_reducible exact H2_) | with_reducible exact H | (rw [hy106]; exact H) | exact H
       have Ny106 := Aside0.mk hy106
       clear hy106
       obtain rfl := Option.some.inj H
       go_wp2_with (first | ((with_reducible refine gate_builtin (b := .append) (xs := #[.tmp 25, .tmp 29]) rfl ?_); at_builtin; refine Kd.R_append Kd.string (w0 := w) w.heap.size rfl (.tmp 25) (.tmp 29) 31 9 (.string ⟨#[]⟩) 16 rfl Tryd.underlying31 info9 rfl (by decide) (by omega) u3 x3_1 (a0.extract (x4_1 : Int).toNat a0.size) [.string (a0.extract (x4_1 : Int).toNat a0.size)] (fun _ => True) (fun _ => False) rfl rfl ?aP (fun _ hk => hk.elim) ?aF ?aO ?aB ?aS ?aL ?_; (case aP => exact rfl); (case aB => exact belH); (case aF => exact (fun _ _ => trivial)); (case aO => exact (by (with_reducible repeat (first | apply Kd.R_alloc | apply Kd.R_drewN | apply Kd.R_drew)); exact HO_3.out)); (case aS => exact (below_size belH)); (case aL => have := LMc14.out; omega); intro v107 w15 ho hb hg hat; rw [← Ny106.out] at ho; have n0_ := Aside0.mk (hb); have n1_ := Aside0.mk (ho); clear HB; clear HO_3; have HB := n0_; have HO108 := n1_; clear n0_ n1_; clear ho hb hg hat))
       go_ret
       exact ⟨_, by first | rfl | (simp [errW_none, errW_some] <;> rfl) | (simp [*, errW_none, errW_some] <;> rfl), by (with_reducible repeat (first | apply Kd.R_alloc | apply Kd.R_drewN | apply Kd.R_drew)); exact HO108.out, by repeat (first | (with_reducible first | exact HB.out | apply below_alloc | apply pw_below_drewN | apply below_drew1) | exact HB.out)⟩
      ·rw [if_neg c14] at H
       exact absurd H (by simp)
     ·rw [if_neg c13] at H
      exact absurd H (by simp)
    ·rw [if_neg c12] at H
     exact absurd H (by simp)

/-! ### spec_printable: function 49 -/
def spec_printable.l0 : Nat → ByteArray → Bool → Int → Int → Option (Bool)
 | 0, _, _, _, _ => none
 | k + 1, x0, x1, x8, x9 => if x9 < x8 then (if 0 ≤ x9 then (if x9 < (x0.size : Int) then (if (bt x0 x9) > 32 then (if (bt x0 x9) < 127 then (spec_printable.l0 k x0 x1 x8 (wrap64 (x9 + 1))) else (if x1 = true then (if (bt x0 x9) = 32 then (spec_printable.l0 k x0 x1 x8 (wrap64 (x9 + 1))) else (if (bt x0 x9) = 9 then (spec_printable.l0 k x0 x1 x8 (wrap64 (x9 + 1))) else (if (bt x0 x9) = 10 then (spec_printable.l0 k x0 x1 x8 (wrap64 (x9 + 1))) else (some false)))) else (some false))) else (if x1 = true then (if (bt x0 x9) = 32 then (spec_printable.l0 k x0 x1 x8 (wrap64 (x9 + 1))) else (if (bt x0 x9) = 9 then (spec_printable.l0 k x0 x1 x8 (wrap64 (x9 + 1))) else (if (bt x0 x9) = 10 then (spec_printable.l0 k x0 x1 x8 (wrap64 (x9 + 1))) else (some false)))) else (some false))) else (none)) else (none)) else (some true)
def spec_printable.f (k : Nat) (a0 : ByteArray) (a1 : Bool) : Option (Bool) := spec_printable.l0 k a0 a1 (a0.size : Int) 0
theorem spec_printable.mono_l : ∀ k, (∀ y0 y1 y2 y3, LeO (spec_printable.l0 k y0 y1 y2 y3) (spec_printable.l0 (k + 1) y0 y1 y2 y3))
 | 0 => fun _ _ _ _ r h => by simp [spec_printable.l0] at h
 | k + 1 => by
  have ih0 := spec_printable.mono_l k
  ·intro y0 y1 y2 y3
   unfold spec_printable.l0
   repeat' first
   | (with_reducible exact ih0 _ _ _ _)
   | (with_reducible exact LeO.refl _)
   | (with_reducible exact LeO.none _)
   | (with_reducible refine LeO.ite ?_ ?_)
   | (with_reducible refine LeO.bind ?_ (fun _ => ?_))
   | exact ih0 _ _ _ _
   | exact LeO.none _
   | refine LeO.ite ?_ ?_
   | refine LeO.bind ?_ (fun _ => ?_)
theorem spec_printable.mono : ∀ a0 a1 k, LeO (spec_printable.f k a0 a1) (spec_printable.f (k + 1) a0 a1) := by
 intro a0 a1 k
 have ih0 := spec_printable.mono_l k
 unfold spec_printable.f
 repeat' first
   | (with_reducible exact ih0 _ _ _ _)
   | (with_reducible exact LeO.refl _)
   | (with_reducible exact LeO.none _)
   | (with_reducible refine LeO.ite ?_ ?_)
   | (with_reducible refine LeO.bind ?_ (fun _ => ?_))
   | exact ih0 _ _ _ _
   | exact LeO.none _
   | refine LeO.ite ?_ ?_
   | refine LeO.bind ?_ (fun _ => ?_)
set_option maxHeartbeats 8000000 in
set_option maxRecDepth 100000 in
theorem spec_printable.calls (k : Nat) (a0 : ByteArray) (a1 : Bool) (r : Bool) (w : World) (h : spec_printable.f k a0 a1 = some r) :
  Calls Tryd.prog 49 #[.string a0, .bool a1] w fun e w' => e = .returned (.bool r) ∧ Drawn0 w w' := by
 have H : (spec_printable.l0 k a0 a1 (a0.size : Int) 0) = some r := h
 clear h
 have H' := Aside0.mk H
 clear H
 go_enter Tryd.func49, Tryd.ntmps49
 go_wp2
 go_loopg [9] k (fun kq v9 w' => ∃ (x9_1 : Int), v9 = .int .i64 x9_1 ∧ Aside0 (spec_printable.l0 kq a0 a1 (a0.size : Int) x9_1 = some r) ∧ Aside0 (kq ≤ k) ∧ Drawn0 w w')
 case atStart => exact ⟨(0), (by first | rfl | (simp; done) | (simp [*]; done) | (simp [bne_nil]; done) | (simp [bne_nil, *]; done)), H', ⟨Nat.le_refl _⟩, by repeat (first | exact Drawn0.refl _ | apply Drawn0.step)⟩
 case round =>
  clear H'
  try clear p2
  obtain ⟨x9_1, rfl, HA, HK1, ⟨m1, rfl⟩⟩ := hrel
  cases gk with
  | zero => exact absurd HA.out (by simp [spec_printable.l0])
  | succ k1 =>
   have H := HA.out
   clear HA
   simp only [spec_printable.l0] at H
   by_cases c3 : x9_1 < (a0.size : Int)
   ·rw [if_pos c3] at H
    have c3b0 : decide (x9_1 < (a0.size : Int)) = true := decide_eq_true c3
    clear c3
    by_cases c4 : 0 ≤ x9_1
    ·rw [if_pos c4] at H
     have c4b0 : decide (0 ≤ x9_1) = true := decide_eq_true c4
     clear c4
     by_cases c5 : x9_1 < (a0.size : Int)
     ·rw [if_pos c5] at H
      have c5b0 : decide (x9_1 < (a0.size : Int)) = true := decide_eq_true c5
      clear c5
      by_cases c7 : (bt a0 x9_1) > 32
      ·rw [if_pos c7] at H
       have c7b0 : decide (32 < (bt a0 x9_1)) = true := decide_eq_true c7
       clear c7
       by_cases c8 : (bt a0 x9_1) < 127
       ·rw [if_pos c8] at H
        have c8b0 : decide ((bt a0 x9_1) < 127) = true := decide_eq_true c8
        clear c8
        have H' := Aside0.mk H
        clear H
        have p6 : 0 ≤ (x9_1 : Int) := of_decide_eq_true (by first | (with_reducible assumption) | assumption)
        have q6 : x9_1 < (a0.size : Int) := of_decide_eq_true (by first | (with_reducible assumption) | assumption)
        have hx6 := bt_at a0 x9_1
        replace p6 := eq_true p6
        replace q6 := eq_true q6
        go_wp2
        go_roundg k1
        case measure => have := HK1.out; omega
        case rel => exact ⟨(wrap64 (x9_1 + 1)), (by first | rfl | (simp; done) | (simp [*]; done) | (simp [bne_nil]; done) | (simp [bne_nil, *]; done)), H', ⟨by have := HK1.out; omega⟩, by repeat (first | exact Drawn0.refl _ | apply Drawn0.step)⟩
       ·rw [if_neg c8] at H
        have c8b0 : decide ((bt a0 x9_1) < 127) = false := decide_eq_false c8
        clear c8
        by_cases c9 : a1 = true
        ·subst c9
         have H1 : (if (bt a0 x9_1) = 32 then (spec_printable.l0 k1 a0 true (a0.size : Int) (wrap64 (x9_1 + 1))) else (if (bt a0 x9_1) = 9 then (spec_printable.l0 k1 a0 true (a0.size : Int) (wrap64 (x9_1 + 1))) else (if (bt a0 x9_1) = 10 then (spec_printable.l0 k1 a0 true (a0.size : Int) (wrap64 (x9_1 + 1))) else (some false)))) = some r := by rw [if_pos rfl] at H; exact H
         clear H
         have H := H1
         clear H1
         by_cases c10 : (bt a0 x9_1) = 32
         ·rw [if_pos c10] at H
          have c10b0 : ((bt a0 x9_1) == 32) = true := beq_iff_eq.mpr c10
          have c10b1 : ((bt a0 x9_1) != 32) = false := bne_eq_false_iff_eq.mpr c10
          clear c10
          have H' := Aside0.mk H
          clear H
          have p6 : 0 ≤ (x9_1 : Int) := of_decide_eq_true (by first | (with_reducible assumption) | assumption)
          have q6 : x9_1 < (a0.size : Int) := of_decide_eq_true (by first | (with_reducible assumption) | assumption)
          have hx6 := bt_at a0 x9_1
          replace p6 := eq_true p6
          replace q6 := eq_true q6
          go_wp2
          go_roundg k1
          case measure => have := HK1.out; omega
          case rel => exact ⟨(wrap64 (x9_1 + 1)), (by first | rfl | (simp; done) | (simp [*]; done) | (simp [bne_nil]; done) | (simp [bne_nil, *]; done)), H', ⟨by have := HK1.out; omega⟩, by repeat (first | exact Drawn0.refl _ | apply Drawn0.step)⟩
         ·rw [if_neg c10] at H
          have c10b0 : ((bt a0 x9_1) == 32) = false := beq_eq_false_iff_ne.mpr c10
          have c10b1 : ((bt a0 x9_1) != 32) = true := bne_iff_ne.mpr c10
          by_cases c11 : (bt a0 x9_1) = 9
          ·rw [if_pos c11] at H
           have c11b0 : ((bt a0 x9_1) == 9) = true := beq_iff_eq.mpr c11
           have c11b1 : ((bt a0 x9_1) != 9) = false := bne_eq_false_iff_eq.mpr c11
           clear c11
           have H' := Aside0.mk H
           clear H
           have p6 : 0 ≤ (x9_1 : Int) := of_decide_eq_true (by first | (with_reducible assumption) | assumption)
           have q6 : x9_1 < (a0.size : Int) := of_decide_eq_true (by first | (with_reducible assumption) | assumption)
           have hx6 := bt_at a0 x9_1
           replace p6 := eq_true p6
           replace q6 := eq_true q6
           go_wp2
           go_roundg k1
           case measure => have := HK1.out; omega
           case rel => exact ⟨(wrap64 (x9_1 + 1)), (by first | rfl | (simp; done) | (simp [*]; done) | (simp [bne_nil]; done) | (simp [bne_nil, *]; done)), H', ⟨by have := HK1.out; omega⟩, by repeat (first | exact Drawn0.refl _ | apply Drawn0.step)⟩
          ·rw [if_neg c11] at H
           have c11b0 : ((bt a0 x9_1) == 9) = false := beq_eq_false_iff_ne.mpr c11
           have c11b1 : ((bt a0 x9_1) != 9) = true := bne_iff_ne.mpr c11
           by_cases c12 : (bt a0 x9_1) = 10
           ·rw [if_pos c12] at H
            have c12b0 : ((bt a0 x9_1) == 10) = true := beq_iff_eq.mpr c12
            have c12b1 : ((bt a0 x9_1) != 10) = false := bne_eq_false_iff_eq.mpr c12
            clear c12
            have H' := Aside0.mk H
            clear H
            have p6 : 0 ≤ (x9_1 : Int) := of_decide_eq_true (by first | (with_reducible assumption) | assumption)
            have q6 : x9_1 < (a0.size : Int) := of_decide_eq_true (by first | (with_reducible assumption) | assumption)
            have hx6 := bt_at a0 x9_1
            replace p6 := eq_true p6
            replace q6 := eq_true q6
            go_wp2
            go_roundg k1
            case measure => have := HK1.out; omega
            case rel => exact ⟨(wrap64 (x9_1 + 1)), (by first | rfl | (simp; done) | (simp [*]; done) | (simp [bne_nil]; done) | (simp [bne_nil, *]; done)), H', ⟨by have := HK1.out; omega⟩, by repeat (first | exact Drawn0.refl _ | apply Drawn0.step)⟩
           ·rw [if_neg c12] at H
            have c12b0 : ((bt a0 x9_1) == 10) = false := beq_eq_false_iff_ne.mpr c12
            have c12b1 : ((bt a0 x9_1) != 10) = true := bne_iff_ne.mpr c12
            obtain rfl := Option.some.inj H
            have p6 : 0 ≤ (x9_1 : Int) := of_decide_eq_true (by first | (with_reducible assumption) | assumption)
            have q6 : x9_1 < (a0.size : Int) := of_decide_eq_true (by first | (with_reducible assumption) | assumption)
            have hx6 := bt_at a0 x9_1
            replace p6 := eq_true p6
            replace q6 := eq_true q6
            go_wp2
            go_ret
            exact ⟨by first | rfl | (simp; done) | (simp [*]; done) | (simp [bne_nil]; done) | (simp [bne_nil, *]; done), by repeat (first | exact Drawn0.refl _ | apply Drawn0.step)⟩
        ·replace c9 := Bool.eq_false_iff.mpr c9
         subst c9
         have H1 : (some false) = some r := by rw [if_neg (show ¬ (false = true) by decide)] at H; exact H
         clear H
         have H := H1
         clear H1
         obtain rfl := Option.some.inj H
         have p6 : 0 ≤ (x9_1 : Int) := of_decide_eq_true (by first | (with_reducible assumption) | assumption)
         have q6 : x9_1 < (a0.size : Int) := of_decide_eq_true (by first | (with_reducible assumption) | assumption)
         have hx6 := bt_at a0 x9_1
         replace p6 := eq_true p6
         replace q6 := eq_true q6
         go_wp2
         go_ret
         exact ⟨by first | rfl | (simp; done) | (simp [*]; done) | (simp [bne_nil]; done) | (simp [bne_nil, *]; done), by repeat (first | exact Drawn0.refl _ | apply Drawn0.step)⟩
      ·rw [if_neg c7] at H
       have c7b0 : decide (32 < (bt a0 x9_1)) = false := decide_eq_false c7
       clear c7
       by_cases c13 : a1 = true
       ·subst c13
        have H1 : (if (bt a0 x9_1) = 32 then (spec_printable.l0 k1 a0 true (a0.size : Int) (wrap64 (x9_1 + 1))) else (if (bt a0 x9_1) = 9 then (spec_printable.l0 k1 a0 true (a0.size : Int) (wrap64 (x9_1 + 1))) else (if (bt a0 x9_1) = 10 then (spec_printable.l0 k1 a0 true (a0.size : Int) (wrap64 (x9_1 + 1))) else (some false)))) = some r := by rw [if_pos rfl] at H; exact H
        clear H
        have H := H1
        clear H1
        by_cases c14 : (bt a0 x9_1) = 32
        ·rw [if_pos c14] at H
         have c14b0 : ((bt a0 x9_1) == 32) = true := beq_iff_eq.mpr c14
         have c14b1 : ((bt a0 x9_1) != 32) = false := bne_eq_false_iff_eq.mpr c14
         clear c14
         have H' := Aside0.mk H
         clear H
         have p6 : 0 ≤ (x9_1 : Int) := of_decide_eq_true (by first | (with_reducible assumption) | assumption)
         have q6 : x9_1 < (a0.size : Int) := of_decide_eq_true (by first | (with_reducible assumption) | assumption)
         have hx6 := bt_at a0 x9_1
         replace p6 := eq_true p6
         replace q6 := eq_true q6
         go_wp2
         go_roundg k1
         case measure => have := HK1.out; omega
         case rel => exact ⟨(wrap64 (x9_1 + 1)), (by first | rfl | (simp; done) | (simp [*]; done) | (simp [bne_nil]; done) | (simp [bne_nil, *]; done)), H', ⟨by have := HK1.out; omega⟩, by repeat (first | exact Drawn0.refl _ | apply Drawn0.step)⟩
        ·rw [if_neg c14] at H
         have c14b0 : ((bt a0 x9_1) == 32) = false := beq_eq_false_iff_ne.mpr c14
         have c14b1 : ((bt a0 x9_1) != 32) = true := bne_iff_ne.mpr c14
         by_cases c15 : (bt a0 x9_1) = 9
         ·rw [if_pos c15] at H
          have c15b0 : ((bt a0 x9_1) == 9) = true := beq_iff_eq.mpr c15
          have c15b1 : ((bt a0 x9_1) != 9) = false := bne_eq_false_iff_eq.mpr c15
          clear c15
          have H' := Aside0.mk H
          clear H
          have p6 : 0 ≤ (x9_1 : Int) := of_decide_eq_true (by first | (with_reducible assumption) | assumption)
          have q6 : x9_1 < (a0.size : Int) := of_decide_eq_true (by first | (with_reducible assumption) | assumption)
          have hx6 := bt_at a0 x9_1
          replace p6 := eq_true p6
          replace q6 := eq_true q6
          go_wp2
          go_roundg k1
          case measure => have := HK1.out; omega
          case rel => exact ⟨(wrap64 (x9_1 + 1)), (by first | rfl | (simp; done) | (simp [*]; done) | (simp [bne_nil]; done) | (simp [bne_nil, *]; done)), H', ⟨by have := HK1.out; omega⟩, by repeat (first | exact Drawn0.refl _ | apply Drawn0.step)⟩
         ·rw [if_neg c15] at H
          have c15b0 : ((bt a0 x9_1) == 9) = false := beq_eq_false_iff_ne.mpr c15
          have c15b1 : ((bt a0 x9_1) != 9) = true := bne_iff_ne.mpr c15
          by_cases c16 : (bt a0 x9_1) = 10
          ·rw [if_pos c16] at H
           have c16b0 : ((bt a0 x9_1) == 10) = true := beq_iff_eq.mpr c16
           have c16b1 : ((bt a0 x9_1) != 10) = false := bne_eq_false_iff_eq.mpr c16
           clear c16
           have H' := Aside0.mk H
           clear H
           have p6 : 0 ≤ (x9_1 : Int) := of_decide_eq_true (by first | (with_reducible assumption) | assumption)
           have q6 : x9_1 < (a0.size : Int) := of_decide_eq_true (by first | (with_reducible assumption) | assumption)
           have hx6 := bt_at a0 x9_1
           replace p6 := eq_true p6
           replace q6 := eq_true q6
           go_wp2
           go_roundg k1
           case measure => have := HK1.out; omega
           case rel => exact ⟨(wrap64 (x9_1 + 1)), (by first | rfl | (simp; done) | (simp [*]; done) | (simp [bne_nil]; done) | (simp [bne_nil, *]; done)), H', ⟨by have := HK1.out; omega⟩, by repeat (first | exact Drawn0.refl _ | apply Drawn0.step)⟩
          ·rw [if_neg c16] at H
           have c16b0 : ((bt a0 x9_1) == 10) = false := beq_eq_false_iff_ne.mpr c16
           have c16b1 : ((bt a0 x9_1) != 10) = true := bne_iff_ne.mpr c16
           obtain rfl := Option.some.inj H
           have p6 : 0 ≤ (x9_1 : Int) := of_decide_eq_true (by first | (with_reducible assumption) | assumption)
           have q6 : x9_1 < (a0.size : Int) := of_decide_eq_true (by first | (with_reducible assumption) | assumption)
           have hx6 := bt_at a0 x9_1
           replace p6 := eq_true p6
           replace q6 := eq_true q6
           go_wp2
           go_ret
           exact ⟨by first | rfl | (simp; done) | (simp [*]; done) | (simp [bne_nil]; done) | (simp [bne_nil, *]; done), by repeat (first | exact Drawn0.refl _ | apply Drawn0.step)⟩
       ·replace c13 := Bool.eq_false_iff.mpr c13
        subst c13
        have H1 : (some false) = some r := by rw [if_neg (show ¬ (false = true) by decide)] at H; exact H
        clear H
        have H := H1
        clear H1
        obtain rfl := Option.some.inj H
        have p6 : 0 ≤ (x9_1 : Int) := of_decide_eq_true (by first | (with_reducible assumption) | assumption)
        have q6 : x9_1 < (a0.size : Int) := of_decide_eq_true (by first | (with_reducible assumption) | assumption)
        have hx6 := bt_at a0 x9_1
        replace p6 := eq_true p6
        replace q6 := eq_true q6
        go_wp2
        go_ret
        exact ⟨by first | rfl | (simp; done) | (simp [*]; done) | (simp [bne_nil]; done) | (simp [bne_nil, *]; done), by repeat (first | exact Drawn0.refl _ | apply Drawn0.step)⟩
     ·rw [if_neg c5] at H
      exact absurd H (by simp)
    ·rw [if_neg c4] at H
     exact absurd H (by simp)
   ·rw [if_neg c3] at H
    have c3b0 : decide (x9_1 < (a0.size : Int)) = false := decide_eq_false c3
    clear c3
    obtain rfl := Option.some.inj H
    go_wp2
    go_ret
    exact ⟨by first | rfl | (simp; done) | (simp [*]; done) | (simp [bne_nil]; done) | (simp [bne_nil, *]; done), by repeat (first | exact Drawn0.refl _ | apply Drawn0.step)⟩

/-! ### spec_word: function 50 -/
def spec_word.l0 : Nat → ByteArray → Int → Int → Option (Bool)
 | 0, _, _, _ => none
 | k + 1, x0, x5, x6 => if x6 < x5 then (if 0 ≤ x6 then (if x6 < (x0.size : Int) then (if (bt x0 x6) = 92 then (some false) else (spec_word.l0 k x0 x5 (wrap64 (x6 + 1)))) else (none)) else (none)) else (if x0.toList = ([] : List UInt8) then (some false) else ((spec_printable.f k x0 false).bind fun t109 => (some t109)))
def spec_word.f (k : Nat) (a0 : ByteArray) : Option (Bool) := spec_word.l0 k a0 (a0.size : Int) 0
theorem spec_word.mono_l : ∀ k, (∀ y0 y1 y2, LeO (spec_word.l0 k y0 y1 y2) (spec_word.l0 (k + 1) y0 y1 y2))
 | 0 => fun _ _ _ r h => by simp [spec_word.l0] at h
 | k + 1 => by
  have ih0 := spec_word.mono_l k
  ·intro y0 y1 y2
   unfold spec_word.l0
   repeat' first
   | (with_reducible exact ih0 _ _ _)
   | (with_reducible exact spec_printable.mono _ _ _)
   | (with_reducible exact LeO.refl _)
   | (with_reducible exact LeO.none _)
   | (with_reducible refine LeO.ite ?_ ?_)
   | (with_reducible refine LeO.bind ?_ (fun _ => ?_))
   | exact ih0 _ _ _
   | exact spec_printable.mono _ _ _
   | exact LeO.none _
   | refine LeO.ite ?_ ?_
   | refine LeO.bind ?_ (fun _ => ?_)
theorem spec_word.mono : ∀ a0 k, LeO (spec_word.f k a0) (spec_word.f (k + 1) a0) := by
 intro a0 k
 have ih0 := spec_word.mono_l k
 unfold spec_word.f
 repeat' first
   | (with_reducible exact ih0 _ _ _)
   | (with_reducible exact spec_printable.mono _ _ _)
   | (with_reducible exact LeO.refl _)
   | (with_reducible exact LeO.none _)
   | (with_reducible refine LeO.ite ?_ ?_)
   | (with_reducible refine LeO.bind ?_ (fun _ => ?_))
   | exact ih0 _ _ _
   | exact spec_printable.mono _ _ _
   | exact LeO.none _
   | refine LeO.ite ?_ ?_
   | refine LeO.bind ?_ (fun _ => ?_)
set_option maxHeartbeats 8000000 in
set_option maxRecDepth 100000 in
theorem spec_word.calls (k : Nat) (a0 : ByteArray) (r : Bool) (w : World) (h : spec_word.f k a0 = some r) :
  Calls Tryd.prog 50 #[.string a0] w fun e w' => e = .returned (.bool r) ∧ Drawn0 w w' := by
 have H : (spec_word.l0 k a0 (a0.size : Int) 0) = some r := h
 clear h
 have H' := Aside0.mk H
 clear H
 go_enter Tryd.func50, Tryd.ntmps50
 go_wp2
 go_loopg [6] k (fun kq v6 w' => ∃ (x6_1 : Int), v6 = .int .i64 x6_1 ∧ Aside0 (spec_word.l0 kq a0 (a0.size : Int) x6_1 = some r) ∧ Aside0 (kq ≤ k) ∧ Drawn0 w w')
 case atStart => exact ⟨(0), (by first | rfl | (simp; done) | (simp [*]; done) | (simp [bne_nil]; done) | (simp [bne_nil, *]; done)), H', ⟨Nat.le_refl _⟩, by repeat (first | exact Drawn0.refl _ | apply Drawn0.step)⟩
 case round =>
  clear H'
  obtain ⟨x6_1, rfl, HA, HK1, ⟨m1, rfl⟩⟩ := hrel
  cases gk with
  | zero => exact absurd HA.out (by simp [spec_word.l0])
  | succ k1 =>
   have H := HA.out
   clear HA
   simp only [spec_word.l0] at H
   by_cases c2 : x6_1 < (a0.size : Int)
   ·rw [if_pos c2] at H
    have c2b0 : decide (x6_1 < (a0.size : Int)) = true := decide_eq_true c2
    clear c2
    by_cases c3 : 0 ≤ x6_1
    ·rw [if_pos c3] at H
     have c3b0 : decide (0 ≤ x6_1) = true := decide_eq_true c3
     clear c3
     by_cases c4 : x6_1 < (a0.size : Int)
     ·rw [if_pos c4] at H
      have c4b0 : decide (x6_1 < (a0.size : Int)) = true := decide_eq_true c4
      clear c4
      by_cases c6 : (bt a0 x6_1) = 92
      ·rw [if_pos c6] at H
       have c6b0 : ((bt a0 x6_1) == 92) = true := beq_iff_eq.mpr c6
       have c6b1 : ((bt a0 x6_1) != 92) = false := bne_eq_false_iff_eq.mpr c6
       clear c6
       obtain rfl := Option.some.inj H
       have p5 : 0 ≤ (x6_1 : Int) := of_decide_eq_true (by first | (with_reducible assumption) | assumption)
       have q5 : x6_1 < (a0.size : Int) := of_decide_eq_true (by first | (with_reducible assumption) | assumption)
       have hx5 := bt_at a0 x6_1
       replace p5 := eq_true p5
       replace q5 := eq_true q5
       go_wp2
       go_ret
       exact ⟨by first | rfl | (simp; done) | (simp [*]; done) | (simp [bne_nil]; done) | (simp [bne_nil, *]; done), by repeat (first | exact Drawn0.refl _ | apply Drawn0.step)⟩
      ·rw [if_neg c6] at H
       have c6b0 : ((bt a0 x6_1) == 92) = false := beq_eq_false_iff_ne.mpr c6
       have c6b1 : ((bt a0 x6_1) != 92) = true := bne_iff_ne.mpr c6
       have H' := Aside0.mk H
       clear H
       have p5 : 0 ≤ (x6_1 : Int) := of_decide_eq_true (by first | (with_reducible assumption) | assumption)
       have q5 : x6_1 < (a0.size : Int) := of_decide_eq_true (by first | (with_reducible assumption) | assumption)
       have hx5 := bt_at a0 x6_1
       replace p5 := eq_true p5
       replace q5 := eq_true q5
       go_wp2
       go_roundg k1
       case measure => have := HK1.out; omega
       case rel => exact ⟨(wrap64 (x6_1 + 1)), (by first | rfl | (simp; done) | (simp [*]; done) | (simp [bne_nil]; done) | (simp [bne_nil, *]; done)), H', ⟨by have := HK1.out; omega⟩, by repeat (first | exact Drawn0.refl _ | apply Drawn0.step)⟩
     ·rw [if_neg c4] at H
      exact absurd H (by simp)
    ·rw [if_neg c3] at H
     exact absurd H (by simp)
   ·rw [if_neg c2] at H
    have c2b0 : decide (x6_1 < (a0.size : Int)) = false := decide_eq_false c2
    clear c2
    by_cases c7 : a0.toList = ([] : List UInt8)
    ·rw [if_pos c7] at H
     have c7b0 : (a0.toList == ([] : List UInt8)) = true := beq_iff_eq.mpr c7
     have c7b1 : (a0.toList != ([] : List UInt8)) = false := bne_eq_false_iff_eq.mpr c7
     clear c7
     obtain rfl := Option.some.inj H
     go_wp2
     go_ret
     exact ⟨by first | rfl | (simp; done) | (simp [*]; done) | (simp [bne_nil]; done) | (simp [bne_nil, *]; done), by repeat (first | exact Drawn0.refl _ | apply Drawn0.step)⟩
    ·rw [if_neg c7] at H
     have c7b0 : (a0.toList == ([] : List UInt8)) = false := beq_eq_false_iff_ne.mpr c7
     have c7b1 : (a0.toList != ([] : List UInt8)) = true := bne_iff_ne.mpr c7
     replace H := Option.bind_eq_some_iff.mp H
     obtain ⟨t109, A80, H⟩ := H
     have A8 := Aside0.mk A80
     clear A80
     obtain rfl := Option.some.inj H
     go_wp2_with (first | (go_at_call 49; (with_reducible refine (spec_printable.calls k1 a0 false t109 _ A8.out).mono ?_); rintro e w' ⟨rfl, ⟨nd, rfl⟩⟩))
     go_ret
     exact ⟨by first | rfl | (simp; done) | (simp [*]; done) | (simp [bne_nil]; done) | (simp [bne_nil, *]; done), by repeat (first | exact Drawn0.refl _ | apply Drawn0.step)⟩

end Go.Proofs.YtokojamaigebaaaDoor.L
