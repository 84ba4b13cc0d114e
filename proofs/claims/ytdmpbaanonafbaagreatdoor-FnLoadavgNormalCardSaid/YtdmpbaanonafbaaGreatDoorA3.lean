-- written by a program of this session (wip/tools/pp.py)
import Derived.Test.YtdmpbaanonafbaaGreatDoorA0
import Derived.Test.YtdmpbaanonafbaaGreatDoorA2
namespace Go.Proofs.YtdmpbaanonafbaaGreatDoor.A
open Go.RowKit Go.Proofs.YtdmpbaanonafbaaGreatDoorW.PrintWords Go.Proofs.YtdmpbaanonafbaaGreatDoorW.PrintLast Go.Proofs.YtdmpbaanonafbaaGreatDoor.Flt Go.Proofs.YtdmpbaanonafbaaGreatDoor.GivZ Go.Proofs.YtdmpbaanonafbaaGreatDoor.E Go.Proofs.YtdmpbaanonafbaaGreatDoor.L Go.Proofs.YtdmpbaanonafbaaGreatDoor.V Go.Proofs.YtdmpbaanonafbaaGreatDoor.DoorLoad Go.Proofs.YtdmpbaanonafbaaGreatDoor.Lives Go.Proofs.YtdmpbaanonafbaaGreatDoor.R Go.Proofs.YtdmpbaanonafbaaGreatDoorW.PrintMore
attribute [local go_sem] max2_int min2_int max_two min_two max_three min_three max_four min_four   -- for this text's walks alone
set_option linter.unusedVariables false
set_option linter.unusedSimpArgs false

/-! ### spec_hundreds: function 42 -/
def spec_hundreds.j0 : Nat → ByteArray → Int → Bool → Option (Int × Bool)
 | 0, _, _, _ => none
 | k + 1, x0, x4, x19 => if x19 = true then (some (0, false)) else (if 0 ≤ x4 then (if x4 ≤ (x0.size : Int) then ((spec_Dec.f k (x0.extract 0 (x4 : Int).toNat)).bind fun bt121 => (if 0 ≤ (wrap64 (x4 + 1)) then (if (wrap64 (x4 + 1)) ≤ (x0.size : Int) then ((spec_Dec.f k (x0.extract ((wrap64 (x4 + 1)) : Int).toNat x0.size)).bind fun bt123 => (if bt121.2 = true then (if bt123.2 = true then (some (IntKind.u64.wrap ((IntKind.u64.wrap (100 * bt121.1)) + bt123.1), decide (bt121.1 < 1099511627776))) else (some (IntKind.u64.wrap ((IntKind.u64.wrap (100 * bt121.1)) + bt123.1), false))) else (some (IntKind.u64.wrap ((IntKind.u64.wrap (100 * bt121.1)) + bt123.1), false)))) else (none)) else (none))) else (none)) else (none))
def spec_hundreds.f (k : Nat) (a0 : ByteArray) : Option (Int × Bool) := (spec_Where.f k a0 46).bind fun t120 => (if t120 < 1 then (spec_hundreds.j0 k a0 t120 true) else (spec_hundreds.j0 k a0 t120 ((a0.size : Int) != (wrap64 (t120 + 3)))))
theorem spec_hundreds.mono_l : ∀ k, (∀ y0 y1 y2, LeO (spec_hundreds.j0 k y0 y1 y2) (spec_hundreds.j0 (k + 1) y0 y1 y2))
 | 0 => fun _ _ _ r h => by simp [spec_hundreds.j0] at h
 | k + 1 => by
  have ih0 := spec_hundreds.mono_l k
  ·intro y0 y1 y2
   unfold spec_hundreds.j0
   repeat' first
   | (with_reducible exact ih0 _ _ _)
   | (with_reducible exact spec_Dec.mono _ _)
   | (with_reducible exact spec_Where.mono _ _ _)
   | (with_reducible exact LeO.refl _)
   | (with_reducible exact LeO.none _)
   | (with_reducible refine LeO.ite ?_ ?_)
   | (with_reducible refine LeO.bind ?_ (fun _ => ?_))
   | exact ih0 _ _ _
   | exact spec_Dec.mono _ _
   | exact spec_Where.mono _ _ _
   | exact LeO.none _
   | refine LeO.ite ?_ ?_
   | refine LeO.bind ?_ (fun _ => ?_)
theorem spec_hundreds.mono : ∀ a0 k, LeO (spec_hundreds.f k a0) (spec_hundreds.f (k + 1) a0) := by
 intro a0 k
 have ih0 := spec_hundreds.mono_l k
 unfold spec_hundreds.f
 repeat' first
   | (with_reducible exact ih0 _ _ _)
   | (with_reducible exact spec_Dec.mono _ _)
   | (with_reducible exact spec_Where.mono _ _ _)
   | (with_reducible exact LeO.refl _)
   | (with_reducible exact LeO.none _)
   | (with_reducible refine LeO.ite ?_ ?_)
   | (with_reducible refine LeO.bind ?_ (fun _ => ?_))
   | exact ih0 _ _ _
   | exact spec_Dec.mono _ _
   | exact spec_Where.mono _ _ _
   | exact LeO.none _
   | refine LeO.ite ?_ ?_
   | refine LeO.bind ?_ (fun _ => ?_)
set_option maxHeartbeats 8000000 in
set_option maxRecDepth 100000 in
theorem spec_hundreds.calls (k : Nat) (a0 : ByteArray) (r1 : Int) (r2 : Bool) (w : World) (h : spec_hundreds.f k a0 = some (r1, r2)) :
  Calls Tryz.prog 42 #[.string a0] w fun e w' => e = .returned (.tuple #[.int .u64 r1, .bool r2]) ∧ Drawn0 w w' := by
 have H : ((spec_Where.f k a0 46).bind fun t120 => (if t120 < 1 then (spec_hundreds.j0 k a0 t120 true) else (spec_hundreds.j0 k a0 t120 ((a0.size : Int) != (wrap64 (t120 + 3)))))) = some (r1, r2) := h
 clear h
 replace H := Option.bind_eq_some_iff.mp H
 obtain ⟨t120, A20, H⟩ := H
 have A2 := Aside0.mk A20
 clear A20
 have HC3 := Aside0.mk H
 clear H
 go_enter Tryz.func42, Tryz.ntmps42
 go_upto_region 2 with (first | ((with_reducible refine gate_callee (f := 58) rfl ?_); refine goesL_ (some 10) rfl rfl Tryz.func58 (by kernel_rfl) rfl #[.string a0, .int .u8 46] rfl (by (try simp only [List.map_toArray, List.map_cons, List.map_nil]); first | done | rfl | (simp only [List.length_drop, List.length_take]; rfl)) ?_; (with_reducible refine (spec_Where.calls k a0 46 t120 _ A2.out).mono ?_); rintro e w' ⟨rfl, ⟨nd, rfl⟩⟩; refine ⟨_, rfl, ?_⟩))
 (try simp only [Act.put, List.setIfInBounds_toArray, List.set_cons_zero, List.set_cons_succ])
 go_cut [19] (fun v19 wc => ∃ (kq : Nat) (x19_2 : Bool), v19 = .bool x19_2 ∧ Aside0 (spec_hundreds.j0 kq a0 t120 x19_2 = some (r1, r2)) ∧ Aside0 (kq ≤ k) ∧ Drawn0 w wc)
 case first =>
  have H := HC3.out
  clear HC3
  by_cases c4 : t120 < 1
  ·rw [if_pos c4] at H
   have c4b0 : decide (t120 < 1) = true := decide_eq_true c4
   clear c4
   (first | rw [c4b0] | (simp only [i64_w, i32_w]; rw [c4b0]) | skip)
   have H' := Aside0.mk H
   clear H
   go_wp2
   go_meet
   case rel => exact ⟨_, (true), (by first | rfl | (simp; done) | (simp [*]; done) | (simp [bne_nil]; done) | (simp [bne_nil, *]; done)), H', ⟨by first | omega | exact Nat.le_refl _⟩, by repeat (first | exact Drawn0.refl _ | apply Drawn0.step)⟩
  ·rw [if_neg c4] at H
   have c4b0 : decide (t120 < 1) = false := decide_eq_false c4
   clear c4
   (first | rw [c4b0] | (simp only [i64_w, i32_w]; rw [c4b0]) | skip)
   have H' := Aside0.mk H
   clear H
   go_wp2
   go_meet
   case rel => exact ⟨_, (((a0.size : Int) != (wrap64 (t120 + 3)))), (by first | rfl | (simp; done) | (simp [*]; done) | (simp [bne_nil]; done) | (simp [bne_nil, *]; done)), H', ⟨by first | omega | exact Nat.le_refl _⟩, by repeat (first | exact Drawn0.refl _ | apply Drawn0.step)⟩
 case rest =>
  clear HC3
  try clear p2
  try clear c4
  try clear c4b0
  obtain ⟨kq, x19_2, rfl, HA, HJ2, ⟨mc2, rfl⟩⟩ := hcut
  cases kq with
  | zero => exact absurd HA.out (by simp [spec_hundreds.j0])
  | succ kj2 =>
   have H := HA.out
   clear HA
   simp only [spec_hundreds.j0] at H
   by_cases c5 : x19_2 = true
   ·subst c5
    have H1 : (some (0, false)) = some (r1, r2) := by rw [if_pos rfl] at H; exact H
    clear H
    have H := H1
    clear H1
    simp only [Option.some.injEq, Prod.mk.injEq] at H
    obtain ⟨rfl, rfl⟩ := H
    go_wp2
    go_ret2
    exact ⟨by first | rfl | (simp; done) | (simp [*]; done) | (simp [bne_nil]; done) | (simp [bne_nil, *]; done), by repeat (first | exact Drawn0.refl _ | apply Drawn0.step)⟩
   ·replace c5 := Bool.eq_false_iff.mpr c5
    subst c5
    have H1 : (if 0 ≤ t120 then (if t120 ≤ (a0.size : Int) then ((spec_Dec.f kj2 (a0.extract 0 (t120 : Int).toNat)).bind fun bt121 => (if 0 ≤ (wrap64 (t120 + 1)) then (if (wrap64 (t120 + 1)) ≤ (a0.size : Int) then ((spec_Dec.f kj2 (a0.extract ((wrap64 (t120 + 1)) : Int).toNat a0.size)).bind fun bt123 => (if bt121.2 = true then (if bt123.2 = true then (some (IntKind.u64.wrap ((IntKind.u64.wrap (100 * bt121.1)) + bt123.1), decide (bt121.1 < 1099511627776))) else (some (IntKind.u64.wrap ((IntKind.u64.wrap (100 * bt121.1)) + bt123.1), false))) else (some (IntKind.u64.wrap ((IntKind.u64.wrap (100 * bt121.1)) + bt123.1), false)))) else (none)) else (none))) else (none)) else (none)) = some (r1, r2) := by rw [if_neg (show ¬ (false = true) by decide)] at H; exact H
    clear H
    have H := H1
    clear H1
    by_cases c6 : 0 ≤ t120
    ·rw [if_pos c6] at H
     have c6b0 := eq_true c6
     have c6b1 : decide (0 ≤ t120) = true := decide_eq_true c6
     clear c6
     by_cases c7 : t120 ≤ (a0.size : Int)
     ·rw [if_pos c7] at H
      have c7b0 := eq_true c7
      have c7b1 : decide (t120 ≤ (a0.size : Int)) = true := decide_eq_true c7
      clear c7
      replace H := Option.bind_eq_some_iff.mp H
      obtain ⟨⟨t121, t122⟩, A80, H⟩ := H
      have A8 := Aside0.mk A80
      clear A80
      obtain ⟨ji9, hji9⟩ : ∃ j_ : Int, (wrap64 (t120 + 1)) = j_ := ⟨_, rfl⟩
      replace H : (if 0 ≤ (ji9) then (if (ji9) ≤ (a0.size : Int) then ((spec_Dec.f kj2 (a0.extract ((ji9) : Int).toNat a0.size)).bind fun bt123 => (if t122 = true then (if bt123.2 = true then (some (IntKind.u64.wrap ((IntKind.u64.wrap (100 * t121)) + bt123.1), decide (t121 < 1099511627776))) else (some (IntKind.u64.wrap ((IntKind.u64.wrap (100 * t121)) + bt123.1), false))) else (some (IntKind.u64.wrap ((IntKind.u64.wrap (100 * t121)) + bt123.1), false)))) else (none)) else (none)) = some (r1, r2) := by first | (rw [hji9] at H; exact H) | (simp only [hji9] at H ⊢; exact H)
      (try rw [hji9] at A8)
      have hji9w : (IntKind.i64.wrap (t120 + 1)) = ji9 := (i64_w _).trans hji9
      by_cases c10 : 0 ≤ (ji9)
      ·rw [if_pos c10] at H
       have c10b0 := eq_true c10
       have c10b1 : decide (0 ≤ (ji9)) = true := decide_eq_true c10
       clear c10
       by_cases c11 : (ji9) ≤ (a0.size : Int)
       ·rw [if_pos c11] at H
        have c11b0 := eq_true c11
        have c11b1 : decide ((ji9) ≤ (a0.size : Int)) = true := decide_eq_true c11
        clear c11
        replace H := Option.bind_eq_some_iff.mp H
        obtain ⟨⟨t123, t124⟩, A120, H⟩ := H
        have A12 := Aside0.mk A120
        clear A120
        by_cases c13 : t122 = true
        ·subst c13
         have H1 : (if t124 = true then (some (IntKind.u64.wrap ((IntKind.u64.wrap (100 * t121)) + t123), decide (t121 < 1099511627776))) else (some (IntKind.u64.wrap ((IntKind.u64.wrap (100 * t121)) + t123), false))) = some (r1, r2) := by rw [if_pos rfl] at H; exact H
         clear H
         have H := H1
         clear H1
         by_cases c14 : t124 = true
         ·subst c14
          have H1 : (some (IntKind.u64.wrap ((IntKind.u64.wrap (100 * t121)) + t123), decide (t121 < 1099511627776))) = some (r1, r2) := by rw [if_pos rfl] at H; exact H
          clear H
          have H := H1
          clear H1
          simp only [Option.some.injEq, Prod.mk.injEq] at H
          obtain ⟨rfl, rfl⟩ := H
          go_wp2_with (first | ((with_reducible refine gate_callee (f := 74) rfl ?_); refine goesL_ (some 24) rfl rfl Tryz.func74 (by kernel_rfl) rfl #[.string (a0.extract 0 (t120 : Int).toNat)] rfl (by (try simp only [List.map_toArray, List.map_cons, List.map_nil]); first | done | rfl | (simp only [List.length_drop, List.length_take]; rfl)) ?_; (with_reducible refine (spec_Dec.calls kj2 (a0.extract 0 (t120 : Int).toNat) t121 true _ A8.out).mono ?_); rintro e w' ⟨rfl, ⟨nd, rfl⟩⟩; refine ⟨_, rfl, ?_⟩) | ((with_reducible refine gate_callee (f := 74) rfl ?_); refine goesL_ (some 32) rfl rfl Tryz.func74 (by kernel_rfl) rfl #[.string (a0.extract ((ji9) : Int).toNat a0.size)] rfl (by (try simp only [List.map_toArray, List.map_cons, List.map_nil]); first | done | (simp only [hji9]; rfl) | rfl | (simp only [List.length_drop, List.length_take]; rfl)) ?_; (with_reducible refine (spec_Dec.calls kj2 (a0.extract ((ji9) : Int).toNat a0.size) t123 true _ A12.out).mono ?_); rintro e w' ⟨rfl, ⟨nd, rfl⟩⟩; refine ⟨_, rfl, ?_⟩))
          go_ret2
          exact ⟨by first | rfl | (simp; done) | (simp only [← hji9] <;> (first | rfl | simp)) | (simp [*]; done), by repeat (first | exact Drawn0.refl _ | apply Drawn0.step)⟩
         ·replace c14 := Bool.eq_false_iff.mpr c14
          subst c14
          have H1 : (some (IntKind.u64.wrap ((IntKind.u64.wrap (100 * t121)) + t123), false)) = some (r1, r2) := by rw [if_neg (show ¬ (false = true) by decide)] at H; exact H
          clear H
          have H := H1
          clear H1
          simp only [Option.some.injEq, Prod.mk.injEq] at H
          obtain ⟨rfl, rfl⟩ := H
          go_wp2_with (first | ((with_reducible refine gate_callee (f := 74) rfl ?_); refine goesL_ (some 24) rfl rfl Tryz.func74 (by kernel_rfl) rfl #[.string (a0.extract 0 (t120 : Int).toNat)] rfl (by (try simp only [List.map_toArray, List.map_cons, List.map_nil]); first | done | rfl | (simp only [List.length_drop, List.length_take]; rfl)) ?_; (with_reducible refine (spec_Dec.calls kj2 (a0.extract 0 (t120 : Int).toNat) t121 true _ A8.out).mono ?_); rintro e w' ⟨rfl, ⟨nd, rfl⟩⟩; refine ⟨_, rfl, ?_⟩) | ((with_reducible refine gate_callee (f := 74) rfl ?_); refine goesL_ (some 32) rfl rfl Tryz.func74 (by kernel_rfl) rfl #[.string (a0.extract ((ji9) : Int).toNat a0.size)] rfl (by (try simp only [List.map_toArray, List.map_cons, List.map_nil]); first | done | (simp only [hji9]; rfl) | rfl | (simp only [List.length_drop, List.length_take]; rfl)) ?_; (with_reducible refine (spec_Dec.calls kj2 (a0.extract ((ji9) : Int).toNat a0.size) t123 false _ A12.out).mono ?_); rintro e w' ⟨rfl, ⟨nd, rfl⟩⟩; refine ⟨_, rfl, ?_⟩))
          go_ret2
          exact ⟨by first | rfl | (simp; done) | (simp only [← hji9] <;> (first | rfl | simp)) | (simp [*]; done), by repeat (first | exact Drawn0.refl _ | apply Drawn0.step)⟩
        ·replace c13 := Bool.eq_false_iff.mpr c13
         subst c13
         have H1 : (some (IntKind.u64.wrap ((IntKind.u64.wrap (100 * t121)) + t123), false)) = some (r1, r2) := by rw [if_neg (show ¬ (false = true) by decide)] at H; exact H
         clear H
         have H := H1
         clear H1
         simp only [Option.some.injEq, Prod.mk.injEq] at H
         obtain ⟨rfl, rfl⟩ := H
         go_wp2_with (first | ((with_reducible refine gate_callee (f := 74) rfl ?_); refine goesL_ (some 24) rfl rfl Tryz.func74 (by kernel_rfl) rfl #[.string (a0.extract 0 (t120 : Int).toNat)] rfl (by (try simp only [List.map_toArray, List.map_cons, List.map_nil]); first | done | rfl | (simp only [List.length_drop, List.length_take]; rfl)) ?_; (with_reducible refine (spec_Dec.calls kj2 (a0.extract 0 (t120 : Int).toNat) t121 false _ A8.out).mono ?_); rintro e w' ⟨rfl, ⟨nd, rfl⟩⟩; refine ⟨_, rfl, ?_⟩) | ((with_reducible refine gate_callee (f := 74) rfl ?_); refine goesL_ (some 32) rfl rfl Tryz.func74 (by kernel_rfl) rfl #[.string (a0.extract ((ji9) : Int).toNat a0.size)] rfl (by (try simp only [List.map_toArray, List.map_cons, List.map_nil]); first | done | (simp only [hji9]; rfl) | rfl | (simp only [List.length_drop, List.length_take]; rfl)) ?_; (with_reducible refine (spec_Dec.calls kj2 (a0.extract ((ji9) : Int).toNat a0.size) t123 t124 _ A12.out).mono ?_); rintro e w' ⟨rfl, ⟨nd, rfl⟩⟩; refine ⟨_, rfl, ?_⟩))
         go_ret2
         exact ⟨by first | rfl | (simp; done) | (simp only [← hji9] <;> (first | rfl | simp)) | (simp [*]; done), by repeat (first | exact Drawn0.refl _ | apply Drawn0.step)⟩
       ·rw [if_neg c11] at H
        exact absurd H (by simp)
      ·rw [if_neg c10] at H
       exact absurd H (by simp)
     ·rw [if_neg c7] at H
      exact absurd H (by simp)
    ·rw [if_neg c6] at H
     exact absurd H (by simp)

/-! ### spec_meant__LoadavgPrint: function 44 -/
def spec_meant__LoadavgPrint.j0 : Nat → ByteArray → List (S48) → Bool → Bool → Option ((List (S48)) × Bool × Int)
 | 0, _, _, _, _ => none
 | k + 1, x0, x1, x4, x21 => if x21 = true then (some (([] : List (S48)), false, 2)) else ((spec_LoadavgPrint.f k x1).bind fun bt126 => (if bt126.2 = 1 then (if bt126.1.toList = x0.toList then (some (x1, true, 1)) else (if x4 = true then (none) else (some (([] : List (S48)), false, 2)))) else (some (([] : List (S48)), false, 2))))
def spec_meant__LoadavgPrint.f (k : Nat) (a0 : ByteArray) (l1 : List (S48)) (a2 : Bool)  (a4 : Bool) : Option ((List (S48)) × Bool × Int) := if a2 = true then ((spec_Plain.f k a0).bind fun t125 => (spec_meant__LoadavgPrint.j0 k a0 l1 a4 (!t125))) else (spec_meant__LoadavgPrint.j0 k a0 l1 a4 true)
theorem spec_meant__LoadavgPrint.mono_l : ∀ k, (∀ y0 y1 y2 y3, LeO (spec_meant__LoadavgPrint.j0 k y0 y1 y2 y3) (spec_meant__LoadavgPrint.j0 (k + 1) y0 y1 y2 y3))
 | 0 => fun _ _ _ _ r h => by simp [spec_meant__LoadavgPrint.j0] at h
 | k + 1 => by
  have ih0 := spec_meant__LoadavgPrint.mono_l k
  ·intro y0 y1 y2 y3
   unfold spec_meant__LoadavgPrint.j0
   repeat' first
   | (with_reducible exact ih0 _ _ _ _)
   | (with_reducible exact spec_LoadavgPrint.mono _ _)
   | (with_reducible exact spec_Plain.mono _ _)
   | (with_reducible exact LeO.refl _)
   | (with_reducible exact LeO.none _)
   | (with_reducible refine LeO.ite ?_ ?_)
   | (with_reducible refine LeO.bind ?_ (fun _ => ?_))
   | exact ih0 _ _ _ _
   | exact spec_LoadavgPrint.mono _ _
   | exact spec_Plain.mono _ _
   | exact LeO.none _
   | refine LeO.ite ?_ ?_
   | refine LeO.bind ?_ (fun _ => ?_)
theorem spec_meant__LoadavgPrint.mono : ∀ a0 a1 a2 a3 k, LeO (spec_meant__LoadavgPrint.f k a0 a1 a2 a3) (spec_meant__LoadavgPrint.f (k + 1) a0 a1 a2 a3) := by
 intro a0 a1 a2 a3 k
 have ih0 := spec_meant__LoadavgPrint.mono_l k
 unfold spec_meant__LoadavgPrint.f
 repeat' first
   | (with_reducible exact ih0 _ _ _ _)
   | (with_reducible exact spec_LoadavgPrint.mono _ _)
   | (with_reducible exact spec_Plain.mono _ _)
   | (with_reducible exact LeO.refl _)
   | (with_reducible exact LeO.none _)
   | (with_reducible refine LeO.ite ?_ ?_)
   | (with_reducible refine LeO.bind ?_ (fun _ => ?_))
   | exact ih0 _ _ _ _
   | exact spec_LoadavgPrint.mono _ _
   | exact spec_Plain.mono _ _
   | exact LeO.none _
   | refine LeO.ite ?_ ?_
   | refine LeO.bind ?_ (fun _ => ?_)
set_option maxHeartbeats 8000000 in
set_option maxRecDepth 100000 in
theorem spec_meant__LoadavgPrint.calls (k : Nat) (a0 : ByteArray) (P1_ : Nat → Prop) (A1 : Option Addr) (c1 : Nat) (l1 : List (S48)) (a2 : Bool)  (a4 : Bool) (r1 : List (S48)) (r2 : Bool) (r3 : Int) (w : World) (hs1 : Kd.V k48 48 w w.heap.size (fun k_ => P1_ k_) (.slice A1 l1.length c1) l1) (h : spec_meant__LoadavgPrint.f k a0 l1 a2 a4 = some (r1, r2, r3)) :
  Calls Tryz.prog 44 #[.string a0, .slice A1 l1.length c1, .bool a2, .func (.func 13) #[] #[], .bool a4] w fun e w' => ∃ v0_ : Value, e = .returned (.tuple #[v0_, .bool r2, .int .i64 r3]) ∧ Kd.V k48 48 w' w.heap.size (fun k_ => (P1_ k_ ∨ w.heap.size ≤ k_)) v0_ r1 ∧ Below w.heap.size w w' := by
 have HO1 := Aside0.mk (show Kd.V k48 48 w w.heap.size (fun k_ => (P1_ k_ ∨ w.heap.size ≤ k_)) (.slice A1 l1.length c1) l1 from Kd.V_mono hs1 (fun k_ hk => .inl hk))
 have HB := Aside0.mk (Below.refl w.heap.size w)
 have H : (if a2 = true then ((spec_Plain.f k a0).bind fun t125 => (spec_meant__LoadavgPrint.j0 k a0 l1 a4 (!t125))) else (spec_meant__LoadavgPrint.j0 k a0 l1 a4 true)) = some (r1, r2, r3) := h
 clear h
 have HC6 := Aside0.mk H
 clear H
 go_enter Tryz.func44, Tryz.ntmps44
 go_upto_region 1 with (fail)
 go_cut [21] (fun v21 wc => ∃ (kq : Nat) (x21_5 : Bool), v21 = .bool x21_5 ∧ Aside0 (spec_meant__LoadavgPrint.j0 kq a0 l1 a4 x21_5 = some (r1, r2, r3)) ∧ Aside0 (kq ≤ k) ∧ Aside0 (Kd.V k48 48 wc w.heap.size (fun k_ => (P1_ k_ ∨ w.heap.size ≤ k_)) (.slice A1 l1.length c1) l1) ∧ Aside0 (Below w.heap.size w wc))
 case first =>
  have H := HC6.out
  clear HC6
  by_cases c7 : a2 = true
  ·subst c7
   have H1 : ((spec_Plain.f k a0).bind fun t125 => (spec_meant__LoadavgPrint.j0 k a0 l1 a4 (!t125))) = some (r1, r2, r3) := by rw [if_pos rfl] at H; exact H
   clear H
   have H := H1
   clear H1
   replace H := Option.bind_eq_some_iff.mp H
   obtain ⟨t125, A80, H⟩ := H
   have A8 := Aside0.mk A80
   clear A80
   have H' := Aside0.mk H
   clear H
   go_wp2_with (first | (go_at_call 80; (with_reducible refine (spec_Plain.calls k a0 t125 _ A8.out).mono ?_); rintro e w' ⟨rfl, ⟨nd, rfl⟩⟩))
   go_meet
   case rel => exact ⟨_, (!t125), (by first | rfl | (simp; done) | (simp [*]; done) | (simp [bne_nil]; done) | (simp [bne_nil, *]; done)), H', ⟨by first | omega | exact Nat.le_refl _⟩, ⟨by (with_reducible repeat (first | apply Kd.V_alloc | apply Kd.V_drewN | apply Kd.V_drew)); exact HO1.out⟩, ⟨by repeat (first | (with_reducible first | exact HB.out | apply below_alloc | apply pw_below_drewN | apply below_drew1) | exact HB.out)⟩⟩
  ·replace c7 := Bool.eq_false_iff.mpr c7
   subst c7
   have H1 : (spec_meant__LoadavgPrint.j0 k a0 l1 a4 true) = some (r1, r2, r3) := by rw [if_neg (show ¬ (false = true) by decide)] at H; exact H
   clear H
   have H := H1
   clear H1
   have H' := Aside0.mk H
   clear H
   go_wp2
   go_meet
   case rel => exact ⟨_, (true), (by first | rfl | (simp; done) | (simp [*]; done) | (simp [bne_nil]; done) | (simp [bne_nil, *]; done)), H', ⟨by first | omega | exact Nat.le_refl _⟩, ⟨by (with_reducible repeat (first | apply Kd.V_alloc | apply Kd.V_drewN | apply Kd.V_drew)); exact HO1.out⟩, ⟨by repeat (first | (with_reducible first | exact HB.out | apply below_alloc | apply pw_below_drewN | apply below_drew1) | exact HB.out)⟩⟩
 case rest =>
  clear HC6
  try clear c1
  try clear p2
  try clear c7
  obtain ⟨kq, x21_5, rfl, HA, HJ5, HO_1, HB⟩ := hcut
  cases kq with
  | zero => exact absurd HA.out (by simp [spec_meant__LoadavgPrint.j0])
  | succ kj5 =>
   have H := HA.out
   clear HA
   simp only [spec_meant__LoadavgPrint.j0] at H
   by_cases c9 : x21_5 = true
   ·subst c9
    have H1 : (some (([] : List (S48)), false, 2)) = some (r1, r2, r3) := by rw [if_pos rfl] at H; exact H
    clear H
    have H := H1
    clear H1
    simp only [Option.some.injEq, Prod.mk.injEq] at H
    obtain ⟨rfl, rfl, rfl⟩ := H
    go_wp2
    go_ret3
    exact ⟨_, by first | rfl | (simp [errW_none, errW_some] <;> rfl) | (simp [*, errW_none, errW_some] <;> rfl), Kd.V_nil _ _ _ _ _, by repeat (first | (with_reducible first | exact HB.out | apply below_alloc | apply pw_below_drewN | apply below_drew1) | exact HB.out)⟩
   ·replace c9 := Bool.eq_false_iff.mpr c9
    subst c9
    have H1 : ((spec_LoadavgPrint.f kj5 l1).bind fun bt126 => (if bt126.2 = 1 then (if bt126.1.toList = a0.toList then (some (l1, true, 1)) else (if a4 = true then (none) else (some (([] : List (S48)), false, 2)))) else (some (([] : List (S48)), false, 2)))) = some (r1, r2, r3) := by rw [if_neg (show ¬ (false = true) by decide)] at H; exact H
    clear H
    have H := H1
    clear H1
    replace H := Option.bind_eq_some_iff.mp H
    obtain ⟨⟨t126, t127⟩, A100, H⟩ := H
    have A10 := Aside0.mk A100
    clear A100
    by_cases c11 : t127 = 1
    ·rw [if_pos c11] at H
     have c11b0 : (t127 == 1) = true := beq_iff_eq.mpr c11
     have c11b1 : (t127 != 1) = false := bne_eq_false_iff_eq.mpr c11
     clear c11
     by_cases c12 : t126.toList = a0.toList
     ·rw [if_pos c12] at H
      have c12b0 : (t126.toList == a0.toList) = true := beq_iff_eq.mpr c12
      have c12b1 : (t126.toList != a0.toList) = false := bne_eq_false_iff_eq.mpr c12
      clear c12
      simp only [Option.some.injEq, Prod.mk.injEq] at H
      obtain ⟨rfl, rfl, rfl⟩ := H
      go_wp2_with (first | (go_at_call 13; (with_reducible refine (spec_LoadavgPrint.calls kj5 _ _ l1 t126 t127 _ ?side1 ?side2 A10.out).mono ?_); (case side1 => repeat (first | exact (Kd.V_reads' HO_1.out).2.2 | (with_reducible refine Kd.C_alloc ?_ _) | (with_reducible refine Kd.C_drewN ?_ _) | (with_reducible refine Kd.C_drew ?_))); (case side2 => exact (Kd.V_reads' HO_1.out).2.1); rintro e w13 ⟨rfl, hb⟩; have n0_ := Aside0.mk (Kd.V_below (by (with_reducible repeat (first | apply Kd.V_alloc | apply Kd.V_drewN | apply Kd.V_drew)); exact HO_1.out) hb); have n1_ := Aside0.mk (below_step belH hb); clear HO_1; clear HB; have HO_1 := n0_; have HB := n1_; clear n0_ n1_; (try clear hb); (try clear hb2); (try clear hk); (try clear hi)))
      go_ret3
      exact ⟨_, by first | rfl | (simp [errW_none, errW_some] <;> rfl) | (simp [*, errW_none, errW_some] <;> rfl), by (with_reducible repeat (first | apply Kd.V_alloc | apply Kd.V_drewN | apply Kd.V_drew)); exact HO_1.out, by repeat (first | (with_reducible first | exact HB.out | apply below_alloc | apply pw_below_drewN | apply below_drew1) | exact HB.out)⟩
     ·rw [if_neg c12] at H
      have c12b0 : (t126.toList == a0.toList) = false := beq_eq_false_iff_ne.mpr c12
      have c12b1 : (t126.toList != a0.toList) = true := bne_iff_ne.mpr c12
      by_cases c14 : a4 = true
      ·subst c14
       have H1 : (none) = some (r1, r2, r3) := by rw [if_pos rfl] at H; exact H
       clear H
       have H := H1
       clear H1
       exact absurd H (by simp)
      ·replace c14 := Bool.eq_false_iff.mpr c14
       subst c14
       have H1 : (some (([] : List (S48)), false, 2)) = some (r1, r2, r3) := by rw [if_neg (show ¬ (false = true) by decide)] at H; exact H
       clear H
       have H := H1
       clear H1
       simp only [Option.some.injEq, Prod.mk.injEq] at H
       obtain ⟨rfl, rfl, rfl⟩ := H
       go_wp2_with (first | (go_at_call 13; (with_reducible refine (spec_LoadavgPrint.calls kj5 _ _ l1 t126 t127 _ ?side1 ?side2 A10.out).mono ?_); (case side1 => repeat (first | exact (Kd.V_reads' HO_1.out).2.2 | (with_reducible refine Kd.C_alloc ?_ _) | (with_reducible refine Kd.C_drewN ?_ _) | (with_reducible refine Kd.C_drew ?_))); (case side2 => exact (Kd.V_reads' HO_1.out).2.1); rintro e w15 ⟨rfl, hb⟩; have n0_ := Aside0.mk (Kd.V_below (by (with_reducible repeat (first | apply Kd.V_alloc | apply Kd.V_drewN | apply Kd.V_drew)); exact HO_1.out) hb); have n1_ := Aside0.mk (below_step belH hb); clear HO_1; clear HB; have HO_1 := n0_; have HB := n1_; clear n0_ n1_; (try clear hb); (try clear hb2); (try clear hk); (try clear hi)))
       go_ret3
       exact ⟨_, by first | rfl | (simp [errW_none, errW_some] <;> rfl) | (simp [*, errW_none, errW_some] <;> rfl), Kd.V_nil _ _ _ _ _, by repeat (first | (with_reducible first | exact HB.out | apply below_alloc | apply pw_below_drewN | apply below_drew1) | exact HB.out)⟩
    ·rw [if_neg c11] at H
     have c11b0 : (t127 == 1) = false := beq_eq_false_iff_ne.mpr c11
     have c11b1 : (t127 != 1) = true := bne_iff_ne.mpr c11
     simp only [Option.some.injEq, Prod.mk.injEq] at H
     obtain ⟨rfl, rfl, rfl⟩ := H
     go_wp2_with (first | (go_at_call 13; (with_reducible refine (spec_LoadavgPrint.calls kj5 _ _ l1 t126 t127 _ ?side1 ?side2 A10.out).mono ?_); (case side1 => repeat (first | exact (Kd.V_reads' HO_1.out).2.2 | (with_reducible refine Kd.C_alloc ?_ _) | (with_reducible refine Kd.C_drewN ?_ _) | (with_reducible refine Kd.C_drew ?_))); (case side2 => exact (Kd.V_reads' HO_1.out).2.1); rintro e w16 ⟨rfl, hb⟩; have n0_ := Aside0.mk (Kd.V_below (by (with_reducible repeat (first | apply Kd.V_alloc | apply Kd.V_drewN | apply Kd.V_drew)); exact HO_1.out) hb); have n1_ := Aside0.mk (below_step belH hb); clear HO_1; clear HB; have HO_1 := n0_; have HB := n1_; clear n0_ n1_; (try clear hb); (try clear hb2); (try clear hk); (try clear hi)))
     go_ret3
     exact ⟨_, by first | rfl | (simp [errW_none, errW_some] <;> rfl) | (simp [*, errW_none, errW_some] <;> rfl), Kd.V_nil _ _ _ _ _, by repeat (first | (with_reducible first | exact HB.out | apply below_alloc | apply pw_below_drewN | apply below_drew1) | exact HB.out)⟩

end Go.Proofs.YtdmpbaanonafbaaGreatDoor.A
