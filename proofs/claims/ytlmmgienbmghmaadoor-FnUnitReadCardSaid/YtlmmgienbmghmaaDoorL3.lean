-- written by a program of this session (wip/tools/pp.py)
import Derived.Test.YtlmmgienbmghmaaDoorL1
import Derived.Test.YtlmmgienbmghmaaDoorL2
namespace Go.Proofs.YtlmmgienbmghmaaDoor.L
open Go.RowKit Go.Proofs.YtlmmgienbmghmaaDoorW.PrintWords Go.Proofs.YtlmmgienbmghmaaDoorW.PrintLast Go.Proofs.YtlmmgienbmghmaaDoor.M Go.Proofs.YtlmmgienbmghmaaDoor.UDoor Go.Proofs.YtlmmgienbmghmaaDoorW.PrintMore
attribute [local go_sem] max2_int min2_int max_two min_two max_three min_three max_four min_four   -- for this text's walks alone
set_option linter.unusedVariables false
theorem bne_nil (l : List UInt8) : (l != []) = !l.isEmpty := by cases l <;> rfl
set_option linter.unusedSimpArgs false

/-! ### spec_trimmed: function 24 -/
mutual
def spec_trimmed.j1 : Nat → ByteArray → Option (ByteArray)
 | 0, _ => none
 | k + 1, x0 => spec_trimmed.l1 k x0
def spec_trimmed.l1 : Nat → ByteArray → Option (ByteArray)
 | 0, _ => none
 | k + 1, x0 => if x0.toList = ([] : List UInt8) then (some x0) else (if 0 ≤ (wrap64 ((x0.size : Int) - 1)) then (if (wrap64 ((x0.size : Int) - 1)) < (x0.size : Int) then ((spec_blank.f (bt x0 (wrap64 ((x0.size : Int) - 1)))).bind fun t131 => (if t131 = true then (if (wrap64 ((x0.size : Int) - 1)) ≤ (x0.size : Int) then (spec_trimmed.l1 k (x0.extract 0 ((wrap64 ((x0.size : Int) - 1)) : Int).toNat)) else (none)) else (some x0))) else (none)) else (none))
def spec_trimmed.l0 : Nat → ByteArray → Option (ByteArray)
 | 0, _ => none
 | k + 1, x0 => if x0.toList = ([] : List UInt8) then (spec_trimmed.j1 k x0) else (if 0 < (x0.size : Int) then ((spec_blank.f (bt x0 0)).bind fun t130 => (if t130 = true then (if 1 ≤ (x0.size : Int) then (spec_trimmed.l0 k (x0.extract 1 x0.size)) else (none)) else (spec_trimmed.j1 k x0))) else (none))
end
def spec_trimmed.f (k : Nat) (a0 : ByteArray) : Option (ByteArray) := spec_trimmed.l0 k a0
theorem spec_trimmed.mono_l : ∀ k, (∀ y0, LeO (spec_trimmed.j1 k y0) (spec_trimmed.j1 (k + 1) y0)) ∧ (∀ y0, LeO (spec_trimmed.l1 k y0) (spec_trimmed.l1 (k + 1) y0)) ∧ (∀ y0, LeO (spec_trimmed.l0 k y0) (spec_trimmed.l0 (k + 1) y0))
 | 0 => ⟨fun _ r h => by simp [spec_trimmed.j1] at h, fun _ r h => by simp [spec_trimmed.l1] at h, fun _ r h => by simp [spec_trimmed.l0] at h⟩
 | k + 1 => by
  obtain ⟨ih0, ih1, ih2⟩ := spec_trimmed.mono_l k
  refine ⟨?_, ?_, ?_⟩
  ·intro y0
   unfold spec_trimmed.j1
   repeat' first
   | (with_reducible exact ih0 _)
   | (with_reducible exact ih1 _)
   | (with_reducible exact ih2 _)
   | (with_reducible exact LeO.refl _)
   | (with_reducible exact LeO.none _)
   | (with_reducible refine LeO.ite ?_ ?_)
   | (with_reducible refine LeO.bind ?_ (fun _ => ?_))
   | exact ih0 _
   | exact ih1 _
   | exact ih2 _
   | exact LeO.none _
   | refine LeO.ite ?_ ?_
   | refine LeO.bind ?_ (fun _ => ?_)
  ·intro y0
   unfold spec_trimmed.l1
   repeat' first
   | (with_reducible exact ih0 _)
   | (with_reducible exact ih1 _)
   | (with_reducible exact ih2 _)
   | (with_reducible exact LeO.refl _)
   | (with_reducible exact LeO.none _)
   | (with_reducible refine LeO.ite ?_ ?_)
   | (with_reducible refine LeO.bind ?_ (fun _ => ?_))
   | exact ih0 _
   | exact ih1 _
   | exact ih2 _
   | exact LeO.none _
   | refine LeO.ite ?_ ?_
   | refine LeO.bind ?_ (fun _ => ?_)
  ·intro y0
   unfold spec_trimmed.l0
   repeat' first
   | (with_reducible exact ih0 _)
   | (with_reducible exact ih1 _)
   | (with_reducible exact ih2 _)
   | (with_reducible exact LeO.refl _)
   | (with_reducible exact LeO.none _)
   | (with_reducible refine LeO.ite ?_ ?_)
   | (with_reducible refine LeO.bind ?_ (fun _ => ?_))
   | exact ih0 _
   | exact ih1 _
   | exact ih2 _
   | exact LeO.none _
   | refine LeO.ite ?_ ?_
   | refine LeO.bind ?_ (fun _ => ?_)
theorem spec_trimmed.mono : ∀ a0 k, LeO (spec_trimmed.f k a0) (spec_trimmed.f (k + 1) a0) := by
 intro a0 k
 obtain ⟨ih0, ih1, ih2⟩ := spec_trimmed.mono_l k
 unfold spec_trimmed.f
 repeat' first
   | (with_reducible exact ih0 _)
   | (with_reducible exact ih1 _)
   | (with_reducible exact ih2 _)
   | (with_reducible exact LeO.refl _)
   | (with_reducible exact LeO.none _)
   | (with_reducible refine LeO.ite ?_ ?_)
   | (with_reducible refine LeO.bind ?_ (fun _ => ?_))
   | exact ih0 _
   | exact ih1 _
   | exact ih2 _
   | exact LeO.none _
   | refine LeO.ite ?_ ?_
   | refine LeO.bind ?_ (fun _ => ?_)
set_option maxHeartbeats 8000000 in
set_option maxRecDepth 100000 in
theorem spec_trimmed.calls (k : Nat) (a0 : ByteArray) (r : ByteArray) (w : World) (h : spec_trimmed.f k a0 = some r) :
  Calls Tryd.prog 24 #[.string a0] w fun e w' => e = .returned (.string r) ∧ Drawn0 w w' := by
 have H : (spec_trimmed.l0 k a0) = some r := h
 clear h
 have HC2 := Aside0.mk H
 clear H
 go_enter Tryd.func24, Tryd.ntmps24
 go_upto_block 0 with (fail)
 go_cut [0] (fun v0 wc => ∃ (kq : Nat) (x0_1 : ByteArray), v0 = .string x0_1 ∧ Aside0 (spec_trimmed.j1 kq x0_1 = some r) ∧ Aside0 (kq ≤ k) ∧ Drawn0 w wc)
 case first =>
  have H := HC2.out
  clear HC2
  have H' := Aside0.mk H
  clear H
  go_wp2
  go_loopg [0] k (fun kq v0 w' => ∃ (x0_1 : ByteArray), v0 = .string x0_1 ∧ Aside0 (spec_trimmed.l0 kq x0_1 = some r) ∧ Aside0 (kq ≤ k) ∧ Drawn0 w w')
  case atStart => exact ⟨(a0), (by first | rfl | (simp; done) | (simp [*]; done) | (simp [bne_nil]; done) | (simp [bne_nil, *]; done)), H', ⟨Nat.le_refl _⟩, by repeat (first | exact Drawn0.refl _ | apply Drawn0.step)⟩
  case round =>
   clear H'
   try clear c2
   try clear p2
   obtain ⟨x0_1, rfl, HA, HK1, ⟨m1, rfl⟩⟩ := hrel
   cases gk with
   | zero => exact absurd HA.out (by simp [spec_trimmed.l0])
   | succ k1 =>
    have H := HA.out
    clear HA
    simp only [spec_trimmed.l0] at H
    by_cases c3 : x0_1.toList = ([] : List UInt8)
    ·rw [if_pos c3] at H
     have c3b0 : (x0_1.toList == ([] : List UInt8)) = true := beq_iff_eq.mpr c3
     have c3b1 : (x0_1.toList != ([] : List UInt8)) = false := bne_eq_false_iff_eq.mpr c3
     clear c3
     (first | rw [c3b0] | (simp only [i64_w, i32_w]; rw [c3b0]) | skip)
     have H' := Aside0.mk H
     clear H
     go_wp2
     go_meet
     case rel => exact ⟨_, (x0_1), (by first | rfl | (simp; done) | (simp [*]; done) | (simp [bne_nil]; done) | (simp [bne_nil, *]; done)), H', ⟨by have := HK1.out; first | omega | exact Nat.le_refl _⟩, by repeat (first | exact Drawn0.refl _ | apply Drawn0.step)⟩
    ·rw [if_neg c3] at H
     have c3b0 : (x0_1.toList == ([] : List UInt8)) = false := beq_eq_false_iff_ne.mpr c3
     have c3b1 : (x0_1.toList != ([] : List UInt8)) = true := bne_iff_ne.mpr c3
     (first | rw [c3b0] | (simp only [i64_w, i32_w]; rw [c3b0]) | skip)
     by_cases c4 : 0 < (x0_1.size : Int)
     ·rw [if_pos c4] at H
      have c4b0 : decide (0 < (x0_1.size : Int)) = true := decide_eq_true c4
      have c4b1 : decide (0 < x0_1.size) = true := decide_eq_true (by omega)
      clear c4
      replace H := Option.bind_eq_some_iff.mp H
      obtain ⟨t130, A60, H⟩ := H
      have A6 := Aside0.mk A60
      clear A60
      by_cases c7 : t130 = true
      ·subst c7
       have H1 : (if 1 ≤ (x0_1.size : Int) then (spec_trimmed.l0 k1 (x0_1.extract 1 x0_1.size)) else (none)) = some r := by rw [if_pos rfl] at H; exact H
       clear H
       have H := H1
       clear H1
       by_cases c8 : 1 ≤ (x0_1.size : Int)
       ·rw [if_pos c8] at H
        have c8b0 := eq_true c8
        have c8b1 : decide (1 ≤ (x0_1.size : Int)) = true := decide_eq_true c8
        clear c8
        have H' := Aside0.mk H
        clear H
        have p5 : 0 ≤ (0 : Int) := (by omega)
        have q5 : 0 < x0_1.size := (by have : (0 : Int) < (x0_1.size : Int) := of_decide_eq_true (by first | (with_reducible assumption) | assumption); omega)
        have hx5 : ∀ h : 0 < x0_1.size, ((x0_1[0]'h).toNat : Int) = bt x0_1 0 := bt_at x0_1 0
        clear p5
        have qi5 : (0 < (x0_1.size : Int)) = True := eq_true (of_decide_eq_true (by first | (with_reducible assumption) | assumption))
        replace q5 := eq_true q5
        go_wp2_with (first | (go_at_call 25; (with_reducible refine (spec_blank.calls (bt x0_1 0) true _ A6.out).mono ?_); rintro e w' ⟨rfl, ⟨nd, rfl⟩⟩))
        go_roundg k1
        case measure => have := HK1.out; omega
        case rel => exact ⟨(x0_1.extract 1 x0_1.size), (by first | rfl | (simp; done) | (simp [*]; done) | (simp [bne_nil]; done) | (simp [bne_nil, *]; done)), H', ⟨by have := HK1.out; omega⟩, by repeat (first | exact Drawn0.refl _ | apply Drawn0.step)⟩
       ·rw [if_neg c8] at H
        exact absurd H (by simp)
      ·replace c7 := Bool.eq_false_iff.mpr c7
       subst c7
       have H1 : (spec_trimmed.j1 k1 x0_1) = some r := by rw [if_neg (show ¬ (false = true) by decide)] at H; exact H
       clear H
       have H := H1
       clear H1
       have H' := Aside0.mk H
       clear H
       have p5 : 0 ≤ (0 : Int) := (by omega)
       have q5 : 0 < x0_1.size := (by have : (0 : Int) < (x0_1.size : Int) := of_decide_eq_true (by first | (with_reducible assumption) | assumption); omega)
       have hx5 : ∀ h : 0 < x0_1.size, ((x0_1[0]'h).toNat : Int) = bt x0_1 0 := bt_at x0_1 0
       clear p5
       have qi5 : (0 < (x0_1.size : Int)) = True := eq_true (of_decide_eq_true (by first | (with_reducible assumption) | assumption))
       replace q5 := eq_true q5
       go_wp2_with (first | (go_at_call 25; (with_reducible refine (spec_blank.calls (bt x0_1 0) false _ A6.out).mono ?_); rintro e w' ⟨rfl, ⟨nd, rfl⟩⟩))
       go_meet
       case rel => exact ⟨_, (x0_1), (by first | rfl | (simp; done) | (simp [*]; done) | (simp [bne_nil]; done) | (simp [bne_nil, *]; done)), H', ⟨by have := HK1.out; first | omega | exact Nat.le_refl _⟩, by repeat (first | exact Drawn0.refl _ | apply Drawn0.step)⟩
     ·rw [if_neg c4] at H
      exact absurd H (by simp)
 case rest =>
  clear HC2
  try clear c2
  try clear p2
  try clear c3
  try clear c3b0
  try clear c3b1
  try clear c4
  try clear c4b0
  try clear c4b1
  try clear p5
  try clear q5
  try clear hx5
  try clear qi5
  try clear c7
  try clear c8
  try clear c8b0
  try clear c8b1
  try clear p2
  try clear p5
  try clear q5
  obtain ⟨kq, x0_1, rfl, HA, HJ1, ⟨mc1, rfl⟩⟩ := hcut
  cases kq with
  | zero => exact absurd HA.out (by simp [spec_trimmed.j1])
  | succ kj1 =>
   have H := HA.out
   clear HA
   simp only [spec_trimmed.j1] at H
   have H' := Aside0.mk H
   clear H
   go_wp2
   go_loopg [0] kj1 (fun kq v0 w' => ∃ (x0_2 : ByteArray), v0 = .string x0_2 ∧ Aside0 (spec_trimmed.l1 kq x0_2 = some r) ∧ Aside0 (kq ≤ kj1) ∧ Drawn0 w w')
   case atStart => exact ⟨(x0_1), (by first | rfl | (simp; done) | (simp [*]; done) | (simp [bne_nil]; done) | (simp [bne_nil, *]; done)), H', ⟨Nat.le_refl _⟩, by repeat (first | exact Drawn0.refl _ | apply Drawn0.step)⟩
   case round =>
    clear H'
    try clear c1
    try clear c2
    try clear p2
    try clear c3
    try clear c3b0
    try clear c3b1
    try clear c4
    try clear c4b0
    try clear c4b1
    try clear p5
    try clear q5
    try clear hx5
    try clear qi5
    try clear c7
    try clear c8
    try clear c8b0
    try clear c8b1
    try clear p2
    try clear p5
    try clear q5
    obtain ⟨x0_2, rfl, HA, HK2, ⟨m2, rfl⟩⟩ := hrel
    cases gk with
    | zero => exact absurd HA.out (by simp [spec_trimmed.l1])
    | succ k2 =>
     have H := HA.out
     clear HA
     simp only [spec_trimmed.l1] at H
     by_cases c9 : x0_2.toList = ([] : List UInt8)
     ·rw [if_pos c9] at H
      have c9b0 : (x0_2.toList == ([] : List UInt8)) = true := beq_iff_eq.mpr c9
      have c9b1 : (x0_2.toList != ([] : List UInt8)) = false := bne_eq_false_iff_eq.mpr c9
      clear c9
      obtain rfl := Option.some.inj H
      go_wp2
      go_ret
      exact ⟨by first | rfl | (simp; done) | (simp [*]; done) | (simp [bne_nil]; done) | (simp [bne_nil, *]; done), by repeat (first | exact Drawn0.refl _ | apply Drawn0.step)⟩
     ·rw [if_neg c9] at H
      have c9b0 : (x0_2.toList == ([] : List UInt8)) = false := beq_eq_false_iff_ne.mpr c9
      have c9b1 : (x0_2.toList != ([] : List UInt8)) = true := bne_iff_ne.mpr c9
      obtain ⟨ji10, hji10⟩ : ∃ j_ : Int, (wrap64 ((x0_2.size : Int) - 1)) = j_ := ⟨_, rfl⟩
      replace H : (if 0 ≤ (ji10) then (if (ji10) < (x0_2.size : Int) then ((spec_blank.f (bt x0_2 (ji10))).bind fun t131 => (if t131 = true then (if (ji10) ≤ (x0_2.size : Int) then (spec_trimmed.l1 k2 (x0_2.extract 0 ((ji10) : Int).toNat)) else (none)) else (some x0_2))) else (none)) else (none)) = some r := by first | (rw [hji10] at H; exact H) | (simp only [hji10] at H ⊢; exact H)
      have hji10w : (IntKind.i64.wrap ((x0_2.size : Int) - 1)) = ji10 := (i64_w _).trans hji10
      by_cases c11 : 0 ≤ (ji10)
      ·rw [if_pos c11] at H
       have c11b0 : decide (0 ≤ (ji10)) = true := decide_eq_true c11
       clear c11
       by_cases c12 : (ji10) < (x0_2.size : Int)
       ·rw [if_pos c12] at H
        have c12b0 : decide ((ji10) < (x0_2.size : Int)) = true := decide_eq_true c12
        clear c12
        replace H := Option.bind_eq_some_iff.mp H
        obtain ⟨t131, A140, H⟩ := H
        have A14 := Aside0.mk A140
        clear A140
        by_cases c15 : t131 = true
        ·subst c15
         have H1 : (if (ji10) ≤ (x0_2.size : Int) then (spec_trimmed.l1 k2 (x0_2.extract 0 ((ji10) : Int).toNat)) else (none)) = some r := by rw [if_pos rfl] at H; exact H
         clear H
         have H := H1
         clear H1
         have c16b0 := eq_true (of_decide_eq_true (by first | (with_reducible assumption) | assumption) : 0 ≤ (ji10))
         by_cases c17 : (ji10) ≤ (x0_2.size : Int)
         ·rw [if_pos c17] at H
          have c17b0 := eq_true c17
          have c17b1 : decide ((ji10) ≤ (x0_2.size : Int)) = true := decide_eq_true c17
          clear c17
          have H' := Aside0.mk H
          clear H
          have p13 : 0 ≤ ((ji10) : Int) := of_decide_eq_true (by first | (with_reducible assumption) | assumption)
          have q13 : (ji10) < (x0_2.size : Int) := of_decide_eq_true (by first | (with_reducible assumption) | assumption)
          have hx13 := bt_at x0_2 (ji10)
          replace p13 := eq_true p13
          replace q13 := eq_true q13
          go_wp2_with (first | (go_at_call 25; (with_reducible refine (spec_blank.calls (bt x0_2 (ji10)) true _ A14.out).mono ?_); rintro e w' ⟨rfl, ⟨nd, rfl⟩⟩))
          go_roundg k2
          case measure => have := HJ1.out; have := HK2.out; omega
          case rel => exact ⟨(x0_2.extract 0 ((ji10) : Int).toNat), (by first | rfl | (simp; done) | (simp only [← hji10] <;> (first | rfl | simp)) | (simp [*]; done)), H', ⟨by have := HJ1.out; have := HK2.out; omega⟩, by repeat (first | exact Drawn0.refl _ | apply Drawn0.step)⟩
         ·rw [if_neg c17] at H
          exact absurd H (by simp)
        ·replace c15 := Bool.eq_false_iff.mpr c15
         subst c15
         have H1 : (some x0_2) = some r := by rw [if_neg (show ¬ (false = true) by decide)] at H; exact H
         clear H
         have H := H1
         clear H1
         obtain rfl := Option.some.inj H
         have p13 : 0 ≤ ((ji10) : Int) := of_decide_eq_true (by first | (with_reducible assumption) | assumption)
         have q13 : (ji10) < (x0_2.size : Int) := of_decide_eq_true (by first | (with_reducible assumption) | assumption)
         have hx13 := bt_at x0_2 (ji10)
         replace p13 := eq_true p13
         replace q13 := eq_true q13
         go_wp2_with (first | (go_at_call 25; (with_reducible refine (spec_blank.calls (bt x0_2 (ji10)) false _ A14.out).mono ?_); rintro e w' ⟨rfl, ⟨nd, rfl⟩⟩))
         go_ret
         exact ⟨by first | rfl | (simp; done) | (simp only [← hji10] <;> (first | rfl | simp)) | (simp [*]; done), by repeat (first | exact Drawn0.refl _ | apply Drawn0.step)⟩
       ·rw [if_neg c12] at H
        exact absurd H (by simp)
      ·rw [if_neg c11] at H
       exact absurd H (by simp)

/-! ### spec_sectionName: function 26 -/
def spec_sectionName.l0 : Nat → ByteArray → Int → Int → Option (Bool)
 | 0, _, _, _ => none
 | k + 1, x0, x5, x6 => if x6 < x5 then (if 0 ≤ x6 then (if x6 < (x0.size : Int) then (if (bt x0 x6) ≤ 32 then (some false) else (if (bt x0 x6) ≥ 127 then (some false) else (if (bt x0 x6) = 91 then (some false) else (if (bt x0 x6) = 93 then (some false) else (spec_sectionName.l0 k x0 x5 (wrap64 (x6 + 1))))))) else (none)) else (none)) else (some (x0.toList != ([] : List UInt8)))
def spec_sectionName.f (k : Nat) (a0 : ByteArray) : Option (Bool) := spec_sectionName.l0 k a0 (a0.size : Int) 0
theorem spec_sectionName.mono_l : ∀ k, (∀ y0 y1 y2, LeO (spec_sectionName.l0 k y0 y1 y2) (spec_sectionName.l0 (k + 1) y0 y1 y2))
 | 0 => fun _ _ _ r h => by simp [spec_sectionName.l0] at h
 | k + 1 => by
  have ih0 := spec_sectionName.mono_l k
  ·intro y0 y1 y2
   unfold spec_sectionName.l0
   repeat' first
   | (with_reducible exact ih0 _ _ _)
   | (with_reducible exact LeO.refl _)
   | (with_reducible exact LeO.none _)
   | (with_reducible refine LeO.ite ?_ ?_)
   | (with_reducible refine LeO.bind ?_ (fun _ => ?_))
   | exact ih0 _ _ _
   | exact LeO.none _
   | refine LeO.ite ?_ ?_
   | refine LeO.bind ?_ (fun _ => ?_)
theorem spec_sectionName.mono : ∀ a0 k, LeO (spec_sectionName.f k a0) (spec_sectionName.f (k + 1) a0) := by
 intro a0 k
 have ih0 := spec_sectionName.mono_l k
 unfold spec_sectionName.f
 repeat' first
   | (with_reducible exact ih0 _ _ _)
   | (with_reducible exact LeO.refl _)
   | (with_reducible exact LeO.none _)
   | (with_reducible refine LeO.ite ?_ ?_)
   | (with_reducible refine LeO.bind ?_ (fun _ => ?_))
   | exact ih0 _ _ _
   | exact LeO.none _
   | refine LeO.ite ?_ ?_
   | refine LeO.bind ?_ (fun _ => ?_)
set_option maxHeartbeats 8000000 in
set_option maxRecDepth 100000 in
theorem spec_sectionName.calls (k : Nat) (a0 : ByteArray) (r : Bool) (w : World) (h : spec_sectionName.f k a0 = some r) :
  Calls Tryd.prog 26 #[.string a0] w fun e w' => e = .returned (.bool r) ∧ Drawn0 w w' := by
 have H : (spec_sectionName.l0 k a0 (a0.size : Int) 0) = some r := h
 clear h
 have H' := Aside0.mk H
 clear H
 go_enter Tryd.func26, Tryd.ntmps26
 go_wp2
 go_loopg [6] k (fun kq v6 w' => ∃ (x6_1 : Int), v6 = .int .i64 x6_1 ∧ Aside0 (spec_sectionName.l0 kq a0 (a0.size : Int) x6_1 = some r) ∧ Aside0 (kq ≤ k) ∧ Drawn0 w w')
 case atStart => exact ⟨(0), (by first | rfl | (simp; done) | (simp [*]; done) | (simp [bne_nil]; done) | (simp [bne_nil, *]; done)), H', ⟨Nat.le_refl _⟩, by repeat (first | exact Drawn0.refl _ | apply Drawn0.step)⟩
 case round =>
  clear H'
  obtain ⟨x6_1, rfl, HA, HK1, ⟨m1, rfl⟩⟩ := hrel
  cases gk with
  | zero => exact absurd HA.out (by simp [spec_sectionName.l0])
  | succ k1 =>
   have H := HA.out
   clear HA
   simp only [spec_sectionName.l0] at H
   by_cases c2 : x6_1 < (a0.size : Int)
   ·rw [if_pos c2] at H
    have c2b0 : decide (x6_1 < (a0.size : Int)) = true := decide_eq_true c2
    clear c2
    by_cases c3 : 0 ≤ x6_1
    ·rw [if_pos c3] at H
     have c3b0 : decide (0 ≤ x6_1) = true := decide_eq_true c3
     clear c3
     by_cases c4 : x6_1 < (a0.size : Int)
     ·rw [if_pos c4] at H
      have c4b0 : decide (x6_1 < (a0.size : Int)) = true := decide_eq_true c4
      clear c4
      by_cases c6 : (bt a0 x6_1) ≤ 32
      ·rw [if_pos c6] at H
       have c6b0 : decide ((bt a0 x6_1) ≤ 32) = true := decide_eq_true c6
       clear c6
       obtain rfl := Option.some.inj H
       have p5 : 0 ≤ (x6_1 : Int) := of_decide_eq_true (by first | (with_reducible assumption) | assumption)
       have q5 : x6_1 < (a0.size : Int) := of_decide_eq_true (by first | (with_reducible assumption) | assumption)
       have hx5 := bt_at a0 x6_1
       replace p5 := eq_true p5
       replace q5 := eq_true q5
       go_wp2
       go_ret
       exact ⟨by first | rfl | (simp; done) | (simp [*]; done) | (simp [bne_nil]; done) | (simp [bne_nil, *]; done), by repeat (first | exact Drawn0.refl _ | apply Drawn0.step)⟩
      ·rw [if_neg c6] at H
       have c6b0 : decide ((bt a0 x6_1) ≤ 32) = false := decide_eq_false c6
       clear c6
       by_cases c8 : (bt a0 x6_1) ≥ 127
       ·rw [if_pos c8] at H
        have c8b0 : decide (127 ≤ (bt a0 x6_1)) = true := decide_eq_true c8
        clear c8
        obtain rfl := Option.some.inj H
        have p5 : 0 ≤ (x6_1 : Int) := of_decide_eq_true (by first | (with_reducible assumption) | assumption)
        have q5 : x6_1 < (a0.size : Int) := of_decide_eq_true (by first | (with_reducible assumption) | assumption)
        have hx5 := bt_at a0 x6_1
        replace p5 := eq_true p5
        replace q5 := eq_true q5
        have p7 : 0 ≤ (x6_1 : Int) := of_decide_eq_true (by first | (with_reducible assumption) | assumption)
        have q7 : x6_1 < (a0.size : Int) := of_decide_eq_true (by first | (with_reducible assumption) | assumption)
        have hx7 := bt_at a0 x6_1
        replace p7 := eq_true p7
        replace q7 := eq_true q7
        go_wp2
        go_ret
        exact ⟨by first | rfl | (simp; done) | (simp [*]; done) | (simp [bne_nil]; done) | (simp [bne_nil, *]; done), by repeat (first | exact Drawn0.refl _ | apply Drawn0.step)⟩
       ·rw [if_neg c8] at H
        have c8b0 : decide (127 ≤ (bt a0 x6_1)) = false := decide_eq_false c8
        clear c8
        by_cases c10 : (bt a0 x6_1) = 91
        ·rw [if_pos c10] at H
         have c10b0 : ((bt a0 x6_1) == 91) = true := beq_iff_eq.mpr c10
         have c10b1 : ((bt a0 x6_1) != 91) = false := bne_eq_false_iff_eq.mpr c10
         clear c10
         obtain rfl := Option.some.inj H
         have p5 : 0 ≤ (x6_1 : Int) := of_decide_eq_true (by first | (with_reducible assumption) | assumption)
         have q5 : x6_1 < (a0.size : Int) := of_decide_eq_true (by first | (with_reducible assumption) | assumption)
         have hx5 := bt_at a0 x6_1
         replace p5 := eq_true p5
         replace q5 := eq_true q5
         have p7 : 0 ≤ (x6_1 : Int) := of_decide_eq_true (by first | (with_reducible assumption) | assumption)
         have q7 : x6_1 < (a0.size : Int) := of_decide_eq_true (by first | (with_reducible assumption) | assumption)
         have hx7 := bt_at a0 x6_1
         replace p7 := eq_true p7
         replace q7 := eq_true q7
         have p9 : 0 ≤ (x6_1 : Int) := of_decide_eq_true (by first | (with_reducible assumption) | assumption)
         have q9 : x6_1 < (a0.size : Int) := of_decide_eq_true (by first | (with_reducible assumption) | assumption)
         have hx9 := bt_at a0 x6_1
         replace p9 := eq_true p9
         replace q9 := eq_true q9
         go_wp2
         go_ret
         exact ⟨by first | rfl | (simp; done) | (simp [*]; done) | (simp [bne_nil]; done) | (simp [bne_nil, *]; done), by repeat (first | exact Drawn0.refl _ | apply Drawn0.step)⟩
        ·rw [if_neg c10] at H
         have c10b0 : ((bt a0 x6_1) == 91) = false := beq_eq_false_iff_ne.mpr c10
         have c10b1 : ((bt a0 x6_1) != 91) = true := bne_iff_ne.mpr c10
         by_cases c12 : (bt a0 x6_1) = 93
         ·rw [if_pos c12] at H
          have c12b0 : ((bt a0 x6_1) == 93) = true := beq_iff_eq.mpr c12
          have c12b1 : ((bt a0 x6_1) != 93) = false := bne_eq_false_iff_eq.mpr c12
          clear c12
          obtain rfl := Option.some.inj H
          have p5 : 0 ≤ (x6_1 : Int) := of_decide_eq_true (by first | (with_reducible assumption) | assumption)
          have q5 : x6_1 < (a0.size : Int) := of_decide_eq_true (by first | (with_reducible assumption) | assumption)
          have hx5 := bt_at a0 x6_1
          replace p5 := eq_true p5
          replace q5 := eq_true q5
          have p7 : 0 ≤ (x6_1 : Int) := of_decide_eq_true (by first | (with_reducible assumption) | assumption)
          have q7 : x6_1 < (a0.size : Int) := of_decide_eq_true (by first | (with_reducible assumption) | assumption)
          have hx7 := bt_at a0 x6_1
          replace p7 := eq_true p7
          replace q7 := eq_true q7
          have p9 : 0 ≤ (x6_1 : Int) := of_decide_eq_true (by first | (with_reducible assumption) | assumption)
          have q9 : x6_1 < (a0.size : Int) := of_decide_eq_true (by first | (with_reducible assumption) | assumption)
          have hx9 := bt_at a0 x6_1
          replace p9 := eq_true p9
          replace q9 := eq_true q9
          have p11 : 0 ≤ (x6_1 : Int) := of_decide_eq_true (by first | (with_reducible assumption) | assumption)
          have q11 : x6_1 < (a0.size : Int) := of_decide_eq_true (by first | (with_reducible assumption) | assumption)
          have hx11 := bt_at a0 x6_1
          replace p11 := eq_true p11
          replace q11 := eq_true q11
          go_wp2
          go_ret
          exact ⟨by first | rfl | (simp; done) | (simp [*]; done) | (simp [bne_nil]; done) | (simp [bne_nil, *]; done), by repeat (first | exact Drawn0.refl _ | apply Drawn0.step)⟩
         ·rw [if_neg c12] at H
          have c12b0 : ((bt a0 x6_1) == 93) = false := beq_eq_false_iff_ne.mpr c12
          have c12b1 : ((bt a0 x6_1) != 93) = true := bne_iff_ne.mpr c12
          have H' := Aside0.mk H
          clear H
          have p5 : 0 ≤ (x6_1 : Int) := of_decide_eq_true (by first | (with_reducible assumption) | assumption)
          have q5 : x6_1 < (a0.size : Int) := of_decide_eq_true (by first | (with_reducible assumption) | assumption)
          have hx5 := bt_at a0 x6_1
          replace p5 := eq_true p5
          replace q5 := eq_true q5
          have p7 : 0 ≤ (x6_1 : Int) := of_decide_eq_true (by first | (with_reducible assumption) | assumption)
          have q7 : x6_1 < (a0.size : Int) := of_decide_eq_true (by first | (with_reducible assumption) | assumption)
          have hx7 := bt_at a0 x6_1
          replace p7 := eq_true p7
          replace q7 := eq_true q7
          have p9 : 0 ≤ (x6_1 : Int) := of_decide_eq_true (by first | (with_reducible assumption) | assumption)
          have q9 : x6_1 < (a0.size : Int) := of_decide_eq_true (by first | (with_reducible assumption) | assumption)
          have hx9 := bt_at a0 x6_1
          replace p9 := eq_true p9
          replace q9 := eq_true q9
          have p11 : 0 ≤ (x6_1 : Int) := of_decide_eq_true (by first | (with_reducible assumption) | assumption)
          have q11 : x6_1 < (a0.size : Int) := of_decide_eq_true (by first | (with_reducible assumption) | assumption)
          have hx11 := bt_at a0 x6_1
          replace p11 := eq_true p11
          replace q11 := eq_true q11
          go_wp2
          go_roundg k1
          case measure => have := HK1.out; omega
          case rel => exact ⟨(wrap64 (x6_1 + 1)), (by first | rfl | (simp; done) | (simp [*]; done) | (simp [bne_nil]; done) | (simp [bne_nil, *]; done)), H', ⟨by have := HK1.out; omega⟩, by repeat (first | exact Drawn0.refl _ | apply Drawn0.step)⟩
     ·rw [if_neg c4] at H
      exact absurd H (by simp)
    ·rw [if_neg c3] at H
     exact absurd H (by simp)
   ·rw [if_neg c2] at H
    have c2b0 : decide (x6_1 < (a0.size : Int)) = false := decide_eq_false c2
    clear c2
    obtain rfl := Option.some.inj H
    go_wp2
    go_ret
    exact ⟨by first | rfl | (simp; done) | (simp [*]; done) | (simp [bne_nil]; done) | (simp [bne_nil, *]; done), by repeat (first | exact Drawn0.refl _ | apply Drawn0.step)⟩

/-! ### spec_optionName: function 27 -/
def spec_optionName.l0 : Nat → ByteArray → Int → Int → Option (Bool)
 | 0, _, _, _ => none
 | k + 1, x0, x5, x6 => if x6 < x5 then (if 0 ≤ x6 then (if x6 < (x0.size : Int) then (if (bt x0 x6) ≤ 32 then (some false) else (if (bt x0 x6) ≥ 127 then (some false) else (if (bt x0 x6) = 61 then (some false) else (if (bt x0 x6) = 92 then (some false) else (spec_optionName.l0 k x0 x5 (wrap64 (x6 + 1))))))) else (none)) else (none)) else (if x0.toList = ([] : List UInt8) then (some false) else (if 0 < (x0.size : Int) then (if (bt x0 0) = 35 then (some false) else (if (bt x0 0) = 59 then (some false) else (some ((bt x0 0) != 91)))) else (none)))
def spec_optionName.f (k : Nat) (a0 : ByteArray) : Option (Bool) := spec_optionName.l0 k a0 (a0.size : Int) 0
theorem spec_optionName.mono_l : ∀ k, (∀ y0 y1 y2, LeO (spec_optionName.l0 k y0 y1 y2) (spec_optionName.l0 (k + 1) y0 y1 y2))
 | 0 => fun _ _ _ r h => by simp [spec_optionName.l0] at h
 | k + 1 => by
  have ih0 := spec_optionName.mono_l k
  ·intro y0 y1 y2
   unfold spec_optionName.l0
   repeat' first
   | (with_reducible exact ih0 _ _ _)
   | (with_reducible exact LeO.refl _)
   | (with_reducible exact LeO.none _)
   | (with_reducible refine LeO.ite ?_ ?_)
   | (with_reducible refine LeO.bind ?_ (fun _ => ?_))
   | exact ih0 _ _ _
   | exact LeO.none _
   | refine LeO.ite ?_ ?_
   | refine LeO.bind ?_ (fun _ => ?_)
theorem spec_optionName.mono : ∀ a0 k, LeO (spec_optionName.f k a0) (spec_optionName.f (k + 1) a0) := by
 intro a0 k
 have ih0 := spec_optionName.mono_l k
 unfold spec_optionName.f
 repeat' first
   | (with_reducible exact ih0 _ _ _)
   | (with_reducible exact LeO.refl _)
   | (with_reducible exact LeO.none _)
   | (with_reducible refine LeO.ite ?_ ?_)
   | (with_reducible refine LeO.bind ?_ (fun _ => ?_))
   | exact ih0 _ _ _
   | exact LeO.none _
   | refine LeO.ite ?_ ?_
   | refine LeO.bind ?_ (fun _ => ?_)
set_option maxHeartbeats 8000000 in
set_option maxRecDepth 100000 in
theorem spec_optionName.calls (k : Nat) (a0 : ByteArray) (r : Bool) (w : World) (h : spec_optionName.f k a0 = some r) :
  Calls Tryd.prog 27 #[.string a0] w fun e w' => e = .returned (.bool r) ∧ Drawn0 w w' := by
 have H : (spec_optionName.l0 k a0 (a0.size : Int) 0) = some r := h
 clear h
 have H' := Aside0.mk H
 clear H
 go_enter Tryd.func27, Tryd.ntmps27
 go_wp2
 go_loopg [6] k (fun kq v6 w' => ∃ (x6_1 : Int), v6 = .int .i64 x6_1 ∧ Aside0 (spec_optionName.l0 kq a0 (a0.size : Int) x6_1 = some r) ∧ Aside0 (kq ≤ k) ∧ Drawn0 w w')
 case atStart => exact ⟨(0), (by first | rfl | (simp; done) | (simp [*]; done) | (simp [bne_nil]; done) | (simp [bne_nil, *]; done)), H', ⟨Nat.le_refl _⟩, by repeat (first | exact Drawn0.refl _ | apply Drawn0.step)⟩
 case round =>
  clear H'
  obtain ⟨x6_1, rfl, HA, HK1, ⟨m1, rfl⟩⟩ := hrel
  cases gk with
  | zero => exact absurd HA.out (by simp [spec_optionName.l0])
  | succ k1 =>
   have H := HA.out
   clear HA
   simp only [spec_optionName.l0] at H
   by_cases c2 : x6_1 < (a0.size : Int)
   ·rw [if_pos c2] at H
    have c2b0 : decide (x6_1 < (a0.size : Int)) = true := decide_eq_true c2
    clear c2
    by_cases c3 : 0 ≤ x6_1
    ·rw [if_pos c3] at H
     have c3b0 : decide (0 ≤ x6_1) = true := decide_eq_true c3
     clear c3
     by_cases c4 : x6_1 < (a0.size : Int)
     ·rw [if_pos c4] at H
      have c4b0 : decide (x6_1 < (a0.size : Int)) = true := decide_eq_true c4
      clear c4
      by_cases c6 : (bt a0 x6_1) ≤ 32
      ·rw [if_pos c6] at H
       have c6b0 : decide ((bt a0 x6_1) ≤ 32) = true := decide_eq_true c6
       clear c6
       obtain rfl := Option.some.inj H
       have p5 : 0 ≤ (x6_1 : Int) := of_decide_eq_true (by first | (with_reducible assumption) | assumption)
       have q5 : x6_1 < (a0.size : Int) := of_decide_eq_true (by first | (with_reducible assumption) | assumption)
       have hx5 := bt_at a0 x6_1
       replace p5 := eq_true p5
       replace q5 := eq_true q5
       go_wp2
       go_ret
       exact ⟨by first | rfl | (simp; done) | (simp [*]; done) | (simp [bne_nil]; done) | (simp [bne_nil, *]; done), by repeat (first | exact Drawn0.refl _ | apply Drawn0.step)⟩
      ·rw [if_neg c6] at H
       have c6b0 : decide ((bt a0 x6_1) ≤ 32) = false := decide_eq_false c6
       clear c6
       by_cases c8 : (bt a0 x6_1) ≥ 127
       ·rw [if_pos c8] at H
        have c8b0 : decide (127 ≤ (bt a0 x6_1)) = true := decide_eq_true c8
        clear c8
        obtain rfl := Option.some.inj H
        have p5 : 0 ≤ (x6_1 : Int) := of_decide_eq_true (by first | (with_reducible assumption) | assumption)
        have q5 : x6_1 < (a0.size : Int) := of_decide_eq_true (by first | (with_reducible assumption) | assumption)
        have hx5 := bt_at a0 x6_1
        replace p5 := eq_true p5
        replace q5 := eq_true q5
        have p7 : 0 ≤ (x6_1 : Int) := of_decide_eq_true (by first | (with_reducible assumption) | assumption)
        have q7 : x6_1 < (a0.size : Int) := of_decide_eq_true (by first | (with_reducible assumption) | assumption)
        have hx7 := bt_at a0 x6_1
        replace p7 := eq_true p7
        replace q7 := eq_true q7
        go_wp2
        go_ret
        exact ⟨by first | rfl | (simp; done) | (simp [*]; done) | (simp [bne_nil]; done) | (simp [bne_nil, *]; done), by repeat (first | exact Drawn0.refl _ | apply Drawn0.step)⟩
       ·rw [if_neg c8] at H
        have c8b0 : decide (127 ≤ (bt a0 x6_1)) = false := decide_eq_false c8
        clear c8
        by_cases c10 : (bt a0 x6_1) = 61
        ·rw [if_pos c10] at H
         have c10b0 : ((bt a0 x6_1) == 61) = true := beq_iff_eq.mpr c10
         have c10b1 : ((bt a0 x6_1) != 61) = false := bne_eq_false_iff_eq.mpr c10
         clear c10
         obtain rfl := Option.some.inj H
         have p5 : 0 ≤ (x6_1 : Int) := of_decide_eq_true (by first | (with_reducible assumption) | assumption)
         have q5 : x6_1 < (a0.size : Int) := of_decide_eq_true (by first | (with_reducible assumption) | assumption)
         have hx5 := bt_at a0 x6_1
         replace p5 := eq_true p5
         replace q5 := eq_true q5
         have p7 : 0 ≤ (x6_1 : Int) := of_decide_eq_true (by first | (with_reducible assumption) | assumption)
         have q7 : x6_1 < (a0.size : Int) := of_decide_eq_true (by first | (with_reducible assumption) | assumption)
         have hx7 := bt_at a0 x6_1
         replace p7 := eq_true p7
         replace q7 := eq_true q7
         have p9 : 0 ≤ (x6_1 : Int) := of_decide_eq_true (by first | (with_reducible assumption) | assumption)
         have q9 : x6_1 < (a0.size : Int) := of_decide_eq_true (by first | (with_reducible assumption) | assumption)
         have hx9 := bt_at a0 x6_1
         replace p9 := eq_true p9
         replace q9 := eq_true q9
         go_wp2
         go_ret
         exact ⟨by first | rfl | (simp; done) | (simp [*]; done) | (simp [bne_nil]; done) | (simp [bne_nil, *]; done), by repeat (first | exact Drawn0.refl _ | apply Drawn0.step)⟩
        ·rw [if_neg c10] at H
         have c10b0 : ((bt a0 x6_1) == 61) = false := beq_eq_false_iff_ne.mpr c10
         have c10b1 : ((bt a0 x6_1) != 61) = true := bne_iff_ne.mpr c10
         by_cases c12 : (bt a0 x6_1) = 92
         ·rw [if_pos c12] at H
          have c12b0 : ((bt a0 x6_1) == 92) = true := beq_iff_eq.mpr c12
          have c12b1 : ((bt a0 x6_1) != 92) = false := bne_eq_false_iff_eq.mpr c12
          clear c12
          obtain rfl := Option.some.inj H
          have p5 : 0 ≤ (x6_1 : Int) := of_decide_eq_true (by first | (with_reducible assumption) | assumption)
          have q5 : x6_1 < (a0.size : Int) := of_decide_eq_true (by first | (with_reducible assumption) | assumption)
          have hx5 := bt_at a0 x6_1
          replace p5 := eq_true p5
          replace q5 := eq_true q5
          have p7 : 0 ≤ (x6_1 : Int) := of_decide_eq_true (by first | (with_reducible assumption) | assumption)
          have q7 : x6_1 < (a0.size : Int) := of_decide_eq_true (by first | (with_reducible assumption) | assumption)
          have hx7 := bt_at a0 x6_1
          replace p7 := eq_true p7
          replace q7 := eq_true q7
          have p9 : 0 ≤ (x6_1 : Int) := of_decide_eq_true (by first | (with_reducible assumption) | assumption)
          have q9 : x6_1 < (a0.size : Int) := of_decide_eq_true (by first | (with_reducible assumption) | assumption)
          have hx9 := bt_at a0 x6_1
          replace p9 := eq_true p9
          replace q9 := eq_true q9
          have p11 : 0 ≤ (x6_1 : Int) := of_decide_eq_true (by first | (with_reducible assumption) | assumption)
          have q11 : x6_1 < (a0.size : Int) := of_decide_eq_true (by first | (with_reducible assumption) | assumption)
          have hx11 := bt_at a0 x6_1
          replace p11 := eq_true p11
          replace q11 := eq_true q11
          go_wp2
          go_ret
          exact ⟨by first | rfl | (simp; done) | (simp [*]; done) | (simp [bne_nil]; done) | (simp [bne_nil, *]; done), by repeat (first | exact Drawn0.refl _ | apply Drawn0.step)⟩
         ·rw [if_neg c12] at H
          have c12b0 : ((bt a0 x6_1) == 92) = false := beq_eq_false_iff_ne.mpr c12
          have c12b1 : ((bt a0 x6_1) != 92) = true := bne_iff_ne.mpr c12
          have H' := Aside0.mk H
          clear H
          have p5 : 0 ≤ (x6_1 : Int) := of_decide_eq_true (by first | (with_reducible assumption) | assumption)
          have q5 : x6_1 < (a0.size : Int) := of_decide_eq_true (by first | (with_reducible assumption) | assumption)
          have hx5 := bt_at a0 x6_1
          replace p5 := eq_true p5
          replace q5 := eq_true q5
          have p7 : 0 ≤ (x6_1 : Int) := of_decide_eq_true (by first | (with_reducible assumption) | assumption)
          have q7 : x6_1 < (a0.size : Int) := of_decide_eq_true (by first | (with_reducible assumption) | assumption)
          have hx7 := bt_at a0 x6_1
          replace p7 := eq_true p7
          replace q7 := eq_true q7
          have p9 : 0 ≤ (x6_1 : Int) := of_decide_eq_true (by first | (with_reducible assumption) | assumption)
          have q9 : x6_1 < (a0.size : Int) := of_decide_eq_true (by first | (with_reducible assumption) | assumption)
          have hx9 := bt_at a0 x6_1
          replace p9 := eq_true p9
          replace q9 := eq_true q9
          have p11 : 0 ≤ (x6_1 : Int) := of_decide_eq_true (by first | (with_reducible assumption) | assumption)
          have q11 : x6_1 < (a0.size : Int) := of_decide_eq_true (by first | (with_reducible assumption) | assumption)
          have hx11 := bt_at a0 x6_1
          replace p11 := eq_true p11
          replace q11 := eq_true q11
          go_wp2
          go_roundg k1
          case measure => have := HK1.out; omega
          case rel => exact ⟨(wrap64 (x6_1 + 1)), (by first | rfl | (simp; done) | (simp [*]; done) | (simp [bne_nil]; done) | (simp [bne_nil, *]; done)), H', ⟨by have := HK1.out; omega⟩, by repeat (first | exact Drawn0.refl _ | apply Drawn0.step)⟩
     ·rw [if_neg c4] at H
      exact absurd H (by simp)
    ·rw [if_neg c3] at H
     exact absurd H (by simp)
   ·rw [if_neg c2] at H
    have c2b0 : decide (x6_1 < (a0.size : Int)) = false := decide_eq_false c2
    clear c2
    by_cases c13 : a0.toList = ([] : List UInt8)
    ·rw [if_pos c13] at H
     have c13b0 : (a0.toList == ([] : List UInt8)) = true := beq_iff_eq.mpr c13
     have c13b1 : (a0.toList != ([] : List UInt8)) = false := bne_eq_false_iff_eq.mpr c13
     clear c13
     obtain rfl := Option.some.inj H
     go_wp2
     go_ret
     exact ⟨by first | rfl | (simp; done) | (simp [*]; done) | (simp [bne_nil]; done) | (simp [bne_nil, *]; done), by repeat (first | exact Drawn0.refl _ | apply Drawn0.step)⟩
    ·rw [if_neg c13] at H
     have c13b0 : (a0.toList == ([] : List UInt8)) = false := beq_eq_false_iff_ne.mpr c13
     have c13b1 : (a0.toList != ([] : List UInt8)) = true := bne_iff_ne.mpr c13
     by_cases c14 : 0 < (a0.size : Int)
     ·rw [if_pos c14] at H
      have c14b0 : decide (0 < (a0.size : Int)) = true := decide_eq_true c14
      have c14b1 : decide (0 < a0.size) = true := decide_eq_true (by omega)
      clear c14
      by_cases c16 : (bt a0 0) = 35
      ·rw [if_pos c16] at H
       have c16b0 : ((bt a0 0) == 35) = true := beq_iff_eq.mpr c16
       have c16b1 : ((bt a0 0) != 35) = false := bne_eq_false_iff_eq.mpr c16
       clear c16
       obtain rfl := Option.some.inj H
       have p15 : 0 ≤ (0 : Int) := (by omega)
       have q15 : 0 < a0.size := (by have : (0 : Int) < (a0.size : Int) := of_decide_eq_true (by first | (with_reducible assumption) | assumption); omega)
       have hx15 : ∀ h : 0 < a0.size, ((a0[0]'h).toNat : Int) = bt a0 0 := bt_at a0 0
       clear p15
       have qi15 : (0 < (a0.size : Int)) = True := eq_true (of_decide_eq_true (by first | (with_reducible assumption) | assumption))
       replace q15 := eq_true q15
       go_wp2
       go_ret
       exact ⟨by first | rfl | (simp; done) | (simp [*]; done) | (simp [bne_nil]; done) | (simp [bne_nil, *]; done), by repeat (first | exact Drawn0.refl _ | apply Drawn0.step)⟩
      ·rw [if_neg c16] at H
       have c16b0 : ((bt a0 0) == 35) = false := beq_eq_false_iff_ne.mpr c16
       have c16b1 : ((bt a0 0) != 35) = true := bne_iff_ne.mpr c16
       by_cases c18 : (bt a0 0) = 59
       ·rw [if_pos c18] at H
        have c18b0 : ((bt a0 0) == 59) = true := beq_iff_eq.mpr c18
        have c18b1 : ((bt a0 0) != 59) = false := bne_eq_false_iff_eq.mpr c18
        clear c18
        obtain rfl := Option.some.inj H
        have p15 : 0 ≤ (0 : Int) := (by omega)
        have q15 : 0 < a0.size := (by have : (0 : Int) < (a0.size : Int) := of_decide_eq_true (by first | (with_reducible assumption) | assumption); omega)
        have hx15 : ∀ h : 0 < a0.size, ((a0[0]'h).toNat : Int) = bt a0 0 := bt_at a0 0
        clear p15
        have qi15 : (0 < (a0.size : Int)) = True := eq_true (of_decide_eq_true (by first | (with_reducible assumption) | assumption))
        replace q15 := eq_true q15
        have p17 : 0 ≤ (0 : Int) := (by omega)
        have q17 : 0 < a0.size := (by have : (0 : Int) < (a0.size : Int) := of_decide_eq_true (by first | (with_reducible assumption) | assumption); omega)
        have hx17 : ∀ h : 0 < a0.size, ((a0[0]'h).toNat : Int) = bt a0 0 := bt_at a0 0
        clear p17
        have qi17 : (0 < (a0.size : Int)) = True := eq_true (of_decide_eq_true (by first | (with_reducible assumption) | assumption))
        replace q17 := eq_true q17
        go_wp2
        go_ret
        exact ⟨by first | rfl | (simp; done) | (simp [*]; done) | (simp [bne_nil]; done) | (simp [bne_nil, *]; done), by repeat (first | exact Drawn0.refl _ | apply Drawn0.step)⟩
       ·rw [if_neg c18] at H
        have c18b0 : ((bt a0 0) == 59) = false := beq_eq_false_iff_ne.mpr c18
        have c18b1 : ((bt a0 0) != 59) = true := bne_iff_ne.mpr c18
        obtain rfl := Option.some.inj H
        have p15 : 0 ≤ (0 : Int) := (by omega)
        have q15 : 0 < a0.size := (by have : (0 : Int) < (a0.size : Int) := of_decide_eq_true (by first | (with_reducible assumption) | assumption); omega)
        have hx15 : ∀ h : 0 < a0.size, ((a0[0]'h).toNat : Int) = bt a0 0 := bt_at a0 0
        clear p15
        have qi15 : (0 < (a0.size : Int)) = True := eq_true (of_decide_eq_true (by first | (with_reducible assumption) | assumption))
        replace q15 := eq_true q15
        have p17 : 0 ≤ (0 : Int) := (by omega)
        have q17 : 0 < a0.size := (by have : (0 : Int) < (a0.size : Int) := of_decide_eq_true (by first | (with_reducible assumption) | assumption); omega)
        have hx17 : ∀ h : 0 < a0.size, ((a0[0]'h).toNat : Int) = bt a0 0 := bt_at a0 0
        clear p17
        have qi17 : (0 < (a0.size : Int)) = True := eq_true (of_decide_eq_true (by first | (with_reducible assumption) | assumption))
        replace q17 := eq_true q17
        have p19 : 0 ≤ (0 : Int) := (by omega)
        have q19 : 0 < a0.size := (by have : (0 : Int) < (a0.size : Int) := of_decide_eq_true (by first | (with_reducible assumption) | assumption); omega)
        have hx19 : ∀ h : 0 < a0.size, ((a0[0]'h).toNat : Int) = bt a0 0 := bt_at a0 0
        clear p19
        have qi19 : (0 < (a0.size : Int)) = True := eq_true (of_decide_eq_true (by first | (with_reducible assumption) | assumption))
        replace q19 := eq_true q19
        go_wp2
        go_ret
        exact ⟨by first | rfl | (simp; done) | (simp [*]; done) | (simp [bne_nil]; done) | (simp [bne_nil, *]; done), by repeat (first | exact Drawn0.refl _ | apply Drawn0.step)⟩
     ·rw [if_neg c14] at H
      exact absurd H (by simp)

end Go.Proofs.YtlmmgienbmghmaaDoor.L
