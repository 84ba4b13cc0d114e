-- written by a program of this session (wip/tools/pp.py)
import Derived.Test.YtlmmgienbmghmaaU0
import Derived.Test.YtlmmgienbmghmaaU1
import Derived.Test.YtlmmgienbmghmaaU2
namespace Go.Proofs.Ytlmmgienbmghmaa.U
open Go.RowKit Go.Proofs.YtlmmgienbmghmaaW.PrintWords Go.Proofs.YtlmmgienbmghmaaW.PrintLast Go.Proofs.Ytlmmgienbmghmaa.Giv Go.Proofs.YtlmmgienbmghmaaW.PrintMore
attribute [local go_sem] max2_int min2_int max_two min_two max_three min_three max_four min_four   -- for this text's walks alone
set_option linter.unusedVariables false
set_option linter.unusedSimpArgs false

/-! ### impl_PathEscape: function 10 -/
def impl_PathEscape.f (k : Nat) (a0 : ByteArray) : Option (ByteArray) := (unit_UnitNamePathEscape.f k a0).bind fun t145 => (some t145)
theorem impl_PathEscape.mono : ∀ a0 k, LeO (impl_PathEscape.f k a0) (impl_PathEscape.f (k + 1) a0) := by
  intro a0 k
  unfold impl_PathEscape.f
  repeat' first
      | (with_reducible exact unit_UnitNamePathEscape.mono _ _)
      | (with_reducible exact LeO.refl _)
      | (with_reducible exact LeO.none _)
      | (with_reducible refine LeO.ite ?_ ?_)
      | (with_reducible refine LeO.bind ?_ (fun _ => ?_))
      | exact unit_UnitNamePathEscape.mono _ _
      | exact LeO.none _
      | refine LeO.ite ?_ ?_
      | refine LeO.bind ?_ (fun _ => ?_)
set_option maxHeartbeats 8000000 in
set_option maxRecDepth 100000 in
theorem impl_PathEscape.calls (k : Nat) (a0 : ByteArray) (r : ByteArray) (w : World) (h : impl_PathEscape.f k a0 = some r) :
    Calls Try.prog 10 #[.string a0] w fun e w' => e = .returned (.string r) ∧ Below w.heap.size w w' := by
  have HB := Aside0.mk (Below.refl w.heap.size w)
  have H : ((unit_UnitNamePathEscape.f k a0).bind fun t145 => (some t145)) = some r := h
  clear h
  replace H := Option.bind_eq_some_iff.mp H
  obtain ⟨t145, A20, H⟩ := H
  replace H : (some t145) = some r := H
  have A2 := Aside0.mk A20
  clear A20
  obtain rfl := Option.some.inj H
  go_enter Try.func10, Try.ntmps10
  go_wp2_with (first | ((with_reducible refine gate_callee (f := 13) rfl ?_); refine goesL_ (some 4) rfl rfl Try.func13 (by kernel_rfl) rfl #[.string a0] rfl (by (try simp only [List.map_toArray, List.map_cons, List.map_nil]); first | done | rfl | (simp only [List.length_drop, List.length_take]; rfl)) ?_; (with_reducible refine (unit_UnitNamePathEscape.calls k a0 t145 _ A2.out).mono ?_); rintro e w3 ⟨rfl, hb⟩; refine ⟨_, rfl, ?_⟩; have n0_ := Aside0.mk (below_step (by repeat (first | (with_reducible first | exact HB.out | apply below_alloc | apply pw_below_drewN | apply below_drew1) | exact HB.out)) hb); clear HB; have HB := n0_; clear n0_; (try clear hb); (try clear hb2); (try clear hk); (try clear hi)))
  go_ret
  exact ⟨by first | rfl | (simp [errW_none, errW_some] <;> rfl) | (simp [*, errW_none, errW_some] <;> rfl), by repeat (first | (with_reducible first | exact HB.out | apply below_alloc | apply pw_below_drewN | apply below_drew1) | exact HB.out)⟩

/-! ### laws_FnPathSlashes: function 4 -/
mutual
def laws_FnPathSlashes.j0 : Nat → List ByteArray → List Int → Bool → Option (Bool)
  | 0, _, _, _ => none
  | k + 1, x0, x1, x17 => if x17 = true then (some true) else ((laws_cleaned.f k x0).bind fun t147 => (if t147.toList = ([] : List UInt8) then (laws_FnPathSlashes.j1 k x0 x1 t147 true) else (laws_FnPathSlashes.j1 k x0 x1 t147 (t147.toList == ([47] : List UInt8)))))
def laws_FnPathSlashes.j1 : Nat → List ByteArray → List Int → ByteArray → Bool → Option (Bool)
  | 0, _, _, _, _ => none
  | k + 1, x0, x1, x5, x25 => if x25 = true then (some true) else (laws_FnPathSlashes.l0 k x1 x5 (⟨#[]⟩ : ByteArray) x0 (x0.length : Int) 0)
def laws_FnPathSlashes.l0 : Nat → List Int → ByteArray → ByteArray → List ByteArray → Int → Int → Option (Bool)
  | 0, _, _, _, _, _, _ => none
  | k + 1, x1, x5, x6, x26, x27, x28 => if x28 < x27 then (if 0 ≤ x28 then (if x28 < (x26.length : Int) then (if x28 < (x1.length : Int) then (laws_FnPathSlashes.j3 k x1 x5 x6 x28 (rdOf ByteArray.empty x26 x28) 1 x26 x27 x28 (decide (x28 < 20))) else (laws_FnPathSlashes.j3 k x1 x5 x6 x28 (rdOf ByteArray.empty x26 x28) 1 x26 x27 x28 false)) else (none)) else (none)) else ((impl_PathEscape.f k x6).bind fun t150 => ((impl_PathEscape.f k x5).bind fun t151 => (if t150.toList = t151.toList then (if x6.size + 1 ≤ 9223372036854775807 then ((impl_PathEscape.f k (x6 ++ (⟨#[47]⟩ : ByteArray))).bind fun t152 => ((impl_PathEscape.f k x5).bind fun t153 => (if t152.toList = t153.toList then ((laws_escapes.f k).bind fun t154 => (some t154)) else (some false)))) else (none)) else (some false))))
def laws_FnPathSlashes.j3 : Nat → List Int → ByteArray → ByteArray → Int → ByteArray → Int → List ByteArray → Int → Int → Bool → Option (Bool)
  | 0, _, _, _, _, _, _, _, _, _, _ => none
  | k + 1, x1, x5, x6, x7, x8, x9, x26, x27, x28, x40 => if x40 = true then (if 0 ≤ x7 then (if x7 < (x1.length : Int) then (laws_FnPathSlashes.j4 k x1 x5 x6 x8 (wrap64 (x9 + (Int.tmod (wrap64 (rd x1 x7)) 3))) x26 x27 x28) else (none)) else (none)) else (laws_FnPathSlashes.j4 k x1 x5 x6 x8 x9 x26 x27 x28)
def laws_FnPathSlashes.j4 : Nat → List Int → ByteArray → ByteArray → ByteArray → Int → List ByteArray → Int → Int → Option (Bool)
  | 0, _, _, _, _, _, _, _, _ => none
  | k + 1, x1, x5, x6, x8, x9, x26, x27, x28 => laws_FnPathSlashes.l1 k x1 x5 x6 x8 x26 x27 x28 x9 0
def laws_FnPathSlashes.l1 : Nat → List Int → ByteArray → ByteArray → ByteArray → List ByteArray → Int → Int → Int → Int → Option (Bool)
  | 0, _, _, _, _, _, _, _, _, _ => none
  | k + 1, x1, x5, x6, x8, x26, x27, x28, x49, x50 => if x50 < x49 then (if x6.size + 1 ≤ 9223372036854775807 then (laws_FnPathSlashes.l1 k x1 x5 (x6 ++ (⟨#[47]⟩ : ByteArray)) x8 x26 x27 x28 x49 (wrap64 (x50 + 1))) else (none)) else (if x6.size + x8.size ≤ 9223372036854775807 then (laws_FnPathSlashes.l0 k x1 x5 (x6 ++ x8) x26 x27 (wrap64 (x28 + 1))) else (none))
end
def laws_FnPathSlashes.f (k : Nat) (l0 : List ByteArray) (l1 : List Int) : Option (Bool) := (laws_zzFits4.f k l0).bind fun t146 => (if t146 = true then (laws_FnPathSlashes.j0 k l0 l1 (decide ((l1.length : Int) > 2147483647))) else (laws_FnPathSlashes.j0 k l0 l1 true))
theorem laws_FnPathSlashes.mono_l : ∀ k, (∀ y0 y1 y2, LeO (laws_FnPathSlashes.j0 k y0 y1 y2) (laws_FnPathSlashes.j0 (k + 1) y0 y1 y2)) ∧ (∀ y0 y1 y2 y3, LeO (laws_FnPathSlashes.j1 k y0 y1 y2 y3) (laws_FnPathSlashes.j1 (k + 1) y0 y1 y2 y3)) ∧ (∀ y0 y1 y2 y3 y4 y5, LeO (laws_FnPathSlashes.l0 k y0 y1 y2 y3 y4 y5) (laws_FnPathSlashes.l0 (k + 1) y0 y1 y2 y3 y4 y5)) ∧ (∀ y0 y1 y2 y3 y4 y5 y6 y7 y8 y9, LeO (laws_FnPathSlashes.j3 k y0 y1 y2 y3 y4 y5 y6 y7 y8 y9) (laws_FnPathSlashes.j3 (k + 1) y0 y1 y2 y3 y4 y5 y6 y7 y8 y9)) ∧ (∀ y0 y1 y2 y3 y4 y5 y6 y7, LeO (laws_FnPathSlashes.j4 k y0 y1 y2 y3 y4 y5 y6 y7) (laws_FnPathSlashes.j4 (k + 1) y0 y1 y2 y3 y4 y5 y6 y7)) ∧ (∀ y0 y1 y2 y3 y4 y5 y6 y7 y8, LeO (laws_FnPathSlashes.l1 k y0 y1 y2 y3 y4 y5 y6 y7 y8) (laws_FnPathSlashes.l1 (k + 1) y0 y1 y2 y3 y4 y5 y6 y7 y8))
  | 0 => ⟨fun _ _ _ r h => by simp [laws_FnPathSlashes.j0] at h, fun _ _ _ _ r h => by simp [laws_FnPathSlashes.j1] at h, fun _ _ _ _ _ _ r h => by simp [laws_FnPathSlashes.l0] at h, fun _ _ _ _ _ _ _ _ _ _ r h => by simp [laws_FnPathSlashes.j3] at h, fun _ _ _ _ _ _ _ _ r h => by simp [laws_FnPathSlashes.j4] at h, fun _ _ _ _ _ _ _ _ _ r h => by simp [laws_FnPathSlashes.l1] at h⟩
  | k + 1 => by
    obtain ⟨ih0, ih1, ih2, ih3, ih4, ih5⟩ := laws_FnPathSlashes.mono_l k
    refine ⟨?_, ?_, ?_, ?_, ?_, ?_⟩
    · intro y0 y1 y2
      unfold laws_FnPathSlashes.j0
      repeat' first
      | (with_reducible exact ih0 _ _ _)
      | (with_reducible exact ih1 _ _ _ _)
      | (with_reducible exact ih2 _ _ _ _ _ _)
      | (with_reducible exact ih3 _ _ _ _ _ _ _ _ _ _)
      | (with_reducible exact ih4 _ _ _ _ _ _ _ _)
      | (with_reducible exact ih5 _ _ _ _ _ _ _ _ _)
      | (with_reducible exact impl_PathEscape.mono _ _)
      | (with_reducible exact laws_cleaned.mono _ _)
      | (with_reducible exact laws_escapes.mono _)
      | (with_reducible exact laws_zzFits4.mono _ _)
      | (with_reducible exact LeO.refl _)
      | (with_reducible exact LeO.none _)
      | (with_reducible refine LeO.ite ?_ ?_)
      | (with_reducible refine LeO.bind ?_ (fun _ => ?_))
      | exact ih0 _ _ _
      | exact ih1 _ _ _ _
      | exact ih2 _ _ _ _ _ _
      | exact ih3 _ _ _ _ _ _ _ _ _ _
      | exact ih4 _ _ _ _ _ _ _ _
      | exact ih5 _ _ _ _ _ _ _ _ _
      | exact impl_PathEscape.mono _ _
      | exact laws_cleaned.mono _ _
      | exact laws_escapes.mono _
      | exact laws_zzFits4.mono _ _
      | exact LeO.none _
      | refine LeO.ite ?_ ?_
      | refine LeO.bind ?_ (fun _ => ?_)
    · intro y0 y1 y2 y3
      unfold laws_FnPathSlashes.j1
      repeat' first
      | (with_reducible exact ih0 _ _ _)
      | (with_reducible exact ih1 _ _ _ _)
      | (with_reducible exact ih2 _ _ _ _ _ _)
      | (with_reducible exact ih3 _ _ _ _ _ _ _ _ _ _)
      | (with_reducible exact ih4 _ _ _ _ _ _ _ _)
      | (with_reducible exact ih5 _ _ _ _ _ _ _ _ _)
      | (with_reducible exact impl_PathEscape.mono _ _)
      | (with_reducible exact laws_cleaned.mono _ _)
      | (with_reducible exact laws_escapes.mono _)
      | (with_reducible exact laws_zzFits4.mono _ _)
      | (with_reducible exact LeO.refl _)
      | (with_reducible exact LeO.none _)
      | (with_reducible refine LeO.ite ?_ ?_)
      | (with_reducible refine LeO.bind ?_ (fun _ => ?_))
      | exact ih0 _ _ _
      | exact ih1 _ _ _ _
      | exact ih2 _ _ _ _ _ _
      | exact ih3 _ _ _ _ _ _ _ _ _ _
      | exact ih4 _ _ _ _ _ _ _ _
      | exact ih5 _ _ _ _ _ _ _ _ _
      | exact impl_PathEscape.mono _ _
      | exact laws_cleaned.mono _ _
      | exact laws_escapes.mono _
      | exact laws_zzFits4.mono _ _
      | exact LeO.none _
      | refine LeO.ite ?_ ?_
      | refine LeO.bind ?_ (fun _ => ?_)
    · intro y0 y1 y2 y3 y4 y5
      unfold laws_FnPathSlashes.l0
      repeat' first
      | (with_reducible exact ih0 _ _ _)
      | (with_reducible exact ih1 _ _ _ _)
      | (with_reducible exact ih2 _ _ _ _ _ _)
      | (with_reducible exact ih3 _ _ _ _ _ _ _ _ _ _)
      | (with_reducible exact ih4 _ _ _ _ _ _ _ _)
      | (with_reducible exact ih5 _ _ _ _ _ _ _ _ _)
      | (with_reducible exact impl_PathEscape.mono _ _)
      | (with_reducible exact laws_cleaned.mono _ _)
      | (with_reducible exact laws_escapes.mono _)
      | (with_reducible exact laws_zzFits4.mono _ _)
      | (with_reducible exact LeO.refl _)
      | (with_reducible exact LeO.none _)
      | (with_reducible refine LeO.ite ?_ ?_)
      | (with_reducible refine LeO.bind ?_ (fun _ => ?_))
      | exact ih0 _ _ _
      | exact ih1 _ _ _ _
      | exact ih2 _ _ _ _ _ _
      | exact ih3 _ _ _ _ _ _ _ _ _ _
      | exact ih4 _ _ _ _ _ _ _ _
      | exact ih5 _ _ _ _ _ _ _ _ _
      | exact impl_PathEscape.mono _ _
      | exact laws_cleaned.mono _ _
      | exact laws_escapes.mono _
      | exact laws_zzFits4.mono _ _
      | exact LeO.none _
      | refine LeO.ite ?_ ?_
      | refine LeO.bind ?_ (fun _ => ?_)
    · intro y0 y1 y2 y3 y4 y5 y6 y7 y8 y9
      unfold laws_FnPathSlashes.j3
      repeat' first
      | (with_reducible exact ih0 _ _ _)
      | (with_reducible exact ih1 _ _ _ _)
      | (with_reducible exact ih2 _ _ _ _ _ _)
      | (with_reducible exact ih3 _ _ _ _ _ _ _ _ _ _)
      | (with_reducible exact ih4 _ _ _ _ _ _ _ _)
      | (with_reducible exact ih5 _ _ _ _ _ _ _ _ _)
      | (with_reducible exact impl_PathEscape.mono _ _)
      | (with_reducible exact laws_cleaned.mono _ _)
      | (with_reducible exact laws_escapes.mono _)
      | (with_reducible exact laws_zzFits4.mono _ _)
      | (with_reducible exact LeO.refl _)
      | (with_reducible exact LeO.none _)
      | (with_reducible refine LeO.ite ?_ ?_)
      | (with_reducible refine LeO.bind ?_ (fun _ => ?_))
      | exact ih0 _ _ _
      | exact ih1 _ _ _ _
      | exact ih2 _ _ _ _ _ _
      | exact ih3 _ _ _ _ _ _ _ _ _ _
      | exact ih4 _ _ _ _ _ _ _ _
      | exact ih5 _ _ _ _ _ _ _ _ _
      | exact impl_PathEscape.mono _ _
      | exact laws_cleaned.mono _ _
      | exact laws_escapes.mono _
      | exact laws_zzFits4.mono _ _
      | exact LeO.none _
      | refine LeO.ite ?_ ?_
      | refine LeO.bind ?_ (fun _ => ?_)
    · intro y0 y1 y2 y3 y4 y5 y6 y7
      unfold laws_FnPathSlashes.j4
      repeat' first
      | (with_reducible exact ih0 _ _ _)
      | (with_reducible exact ih1 _ _ _ _)
      | (with_reducible exact ih2 _ _ _ _ _ _)
      | (with_reducible exact ih3 _ _ _ _ _ _ _ _ _ _)
      | (with_reducible exact ih4 _ _ _ _ _ _ _ _)
      | (with_reducible exact ih5 _ _ _ _ _ _ _ _ _)
      | (with_reducible exact impl_PathEscape.mono _ _)
      | (with_reducible exact laws_cleaned.mono _ _)
      | (with_reducible exact laws_escapes.mono _)
      | (with_reducible exact laws_zzFits4.mono _ _)
      | (with_reducible exact LeO.refl _)
      | (with_reducible exact LeO.none _)
      | (with_reducible refine LeO.ite ?_ ?_)
      | (with_reducible refine LeO.bind ?_ (fun _ => ?_))
      | exact ih0 _ _ _
      | exact ih1 _ _ _ _
      | exact ih2 _ _ _ _ _ _
      | exact ih3 _ _ _ _ _ _ _ _ _ _
      | exact ih4 _ _ _ _ _ _ _ _
      | exact ih5 _ _ _ _ _ _ _ _ _
      | exact impl_PathEscape.mono _ _
      | exact laws_cleaned.mono _ _
      | exact laws_escapes.mono _
      | exact laws_zzFits4.mono _ _
      | exact LeO.none _
      | refine LeO.ite ?_ ?_
      | refine LeO.bind ?_ (fun _ => ?_)
    · intro y0 y1 y2 y3 y4 y5 y6 y7 y8
      unfold laws_FnPathSlashes.l1
      repeat' first
      | (with_reducible exact ih0 _ _ _)
      | (with_reducible exact ih1 _ _ _ _)
      | (with_reducible exact ih2 _ _ _ _ _ _)
      | (with_reducible exact ih3 _ _ _ _ _ _ _ _ _ _)
      | (with_reducible exact ih4 _ _ _ _ _ _ _ _)
      | (with_reducible exact ih5 _ _ _ _ _ _ _ _ _)
      | (with_reducible exact impl_PathEscape.mono _ _)
      | (with_reducible exact laws_cleaned.mono _ _)
      | (with_reducible exact laws_escapes.mono _)
      | (with_reducible exact laws_zzFits4.mono _ _)
      | (with_reducible exact LeO.refl _)
      | (with_reducible exact LeO.none _)
      | (with_reducible refine LeO.ite ?_ ?_)
      | (with_reducible refine LeO.bind ?_ (fun _ => ?_))
      | exact ih0 _ _ _
      | exact ih1 _ _ _ _
      | exact ih2 _ _ _ _ _ _
      | exact ih3 _ _ _ _ _ _ _ _ _ _
      | exact ih4 _ _ _ _ _ _ _ _
      | exact ih5 _ _ _ _ _ _ _ _ _
      | exact impl_PathEscape.mono _ _
      | exact laws_cleaned.mono _ _
      | exact laws_escapes.mono _
      | exact laws_zzFits4.mono _ _
      | exact LeO.none _
      | refine LeO.ite ?_ ?_
      | refine LeO.bind ?_ (fun _ => ?_)
theorem laws_FnPathSlashes.mono : ∀ a0 a1 k, LeO (laws_FnPathSlashes.f k a0 a1) (laws_FnPathSlashes.f (k + 1) a0 a1) := by
  intro a0 a1 k
  obtain ⟨ih0, ih1, ih2, ih3, ih4, ih5⟩ := laws_FnPathSlashes.mono_l k
  unfold laws_FnPathSlashes.f
  repeat' first
      | (with_reducible exact ih0 _ _ _)
      | (with_reducible exact ih1 _ _ _ _)
      | (with_reducible exact ih2 _ _ _ _ _ _)
      | (with_reducible exact ih3 _ _ _ _ _ _ _ _ _ _)
      | (with_reducible exact ih4 _ _ _ _ _ _ _ _)
      | (with_reducible exact ih5 _ _ _ _ _ _ _ _ _)
      | (with_reducible exact impl_PathEscape.mono _ _)
      | (with_reducible exact laws_cleaned.mono _ _)
      | (with_reducible exact laws_escapes.mono _)
      | (with_reducible exact laws_zzFits4.mono _ _)
      | (with_reducible exact LeO.refl _)
      | (with_reducible exact LeO.none _)
      | (with_reducible refine LeO.ite ?_ ?_)
      | (with_reducible refine LeO.bind ?_ (fun _ => ?_))
      | exact ih0 _ _ _
      | exact ih1 _ _ _ _
      | exact ih2 _ _ _ _ _ _
      | exact ih3 _ _ _ _ _ _ _ _ _ _
      | exact ih4 _ _ _ _ _ _ _ _
      | exact ih5 _ _ _ _ _ _ _ _ _
      | exact impl_PathEscape.mono _ _
      | exact laws_cleaned.mono _ _
      | exact laws_escapes.mono _
      | exact laws_zzFits4.mono _ _
      | exact LeO.none _
      | refine LeO.ite ?_ ?_
      | refine LeO.bind ?_ (fun _ => ?_)
set_option maxHeartbeats 8000000 in
set_option maxRecDepth 100000 in
theorem laws_FnPathSlashes.calls (k : Nat) (A0 : Option Addr) (c0 : Nat) (l0 : List ByteArray) (A1 : Option Addr) (c1 : Nat) (l1 : List Int) (r : Bool) (w : World) (hr0 : Kd.C Kd.string w A0 l0.length l0) (hc0 : l0.length ≤ c0) (hr1 : Kd.C (Kd.int .u8) w A1 l1.length l1) (hc1 : l1.length ≤ c1) (h : laws_FnPathSlashes.f k l0 l1 = some r) :
    Calls Try.prog 4 #[.slice A0 l0.length c0, .slice A1 l1.length c1] w fun e w' => e = .returned (.bool r) ∧ Below w.heap.size w w' := by
  have HR0 := Aside0.mk hr0
  have HC0 := Aside0.mk hc0
  clear hr0 hc0
  have HR1 := Aside0.mk hr1
  have HC1 := Aside0.mk hc1
  clear hr1 hc1
  have HB := Aside0.mk (Below.refl w.heap.size w)
  have H : ((laws_zzFits4.f k l0).bind fun t146 => (if t146 = true then (laws_FnPathSlashes.j0 k l0 l1 (decide ((l1.length : Int) > 2147483647))) else (laws_FnPathSlashes.j0 k l0 l1 true))) = some r := h
  clear h
  have HC3 := Aside0.mk H
  clear H
  go_enter Try.func4, Try.ntmps4
  go_upto_region 1 with (fail)
  go_cut [17] (fun v17 wc => ∃ (kq : Nat) (x17_2 : Bool), v17 = .bool x17_2 ∧ Aside0 (laws_FnPathSlashes.j0 kq l0 l1 x17_2 = some r) ∧ Aside0 (kq ≤ k) ∧ Aside0 (Below w.heap.size w wc))
  case first =>
    have H := HC3.out
    clear HC3
    replace H := Option.bind_eq_some_iff.mp H
    obtain ⟨t146, A40, H⟩ := H
    replace H : (if t146 = true then (laws_FnPathSlashes.j0 k l0 l1 (decide ((l1.length : Int) > 2147483647))) else (laws_FnPathSlashes.j0 k l0 l1 true)) = some r := H
    have A4 := Aside0.mk A40
    clear A40
    by_cases c5 : t146 = true
    · subst c5
      have H1 : (laws_FnPathSlashes.j0 k l0 l1 (decide ((l1.length : Int) > 2147483647))) = some r := by rw [if_pos rfl] at H; exact H
      clear H
      have H := H1
      clear H1
      have H' := Aside0.mk H
      clear H
      go_wp2_with (first | ((with_reducible refine gate_callee (f := 8) rfl ?_); refine goesL_ (some 11) rfl rfl Try.func8 (by kernel_rfl) rfl #[.slice A0 l0.length c0] rfl (by (try simp only [List.map_toArray, List.map_cons, List.map_nil]); first | done | rfl | (simp only [List.length_drop, List.length_take]; rfl)) ?_; (with_reducible refine (laws_zzFits4.calls k _ _ l0 true _ ?side1 ?side2 A4.out).mono ?_); (case side1 => repeat (first | exact (Kd.C_below HR0.out HB.out) | (with_reducible refine Kd.C_alloc ?_ _) | (with_reducible refine Kd.C_drewN ?_ _) | (with_reducible refine Kd.C_drew ?_))); (case side2 => exact HC0.out); rintro e w' ⟨rfl, ⟨nd, rfl⟩⟩; refine ⟨_, rfl, ?_⟩))
      go_meet
      case rel => exact ⟨_, (decide ((l1.length : Int) > 2147483647)), (by first | rfl | (simp; done) | (simp [*]; done)), H', ⟨by first | omega | exact Nat.le_refl _⟩, ⟨by repeat (first | (with_reducible first | exact HB.out | apply below_alloc | apply pw_below_drewN | apply below_drew1) | exact HB.out)⟩⟩
    · replace c5 := Bool.eq_false_iff.mpr c5
      subst c5
      have H1 : (laws_FnPathSlashes.j0 k l0 l1 true) = some r := by rw [if_neg (show ¬ (false = true) by decide)] at H; exact H
      clear H
      have H := H1
      clear H1
      have H' := Aside0.mk H
      clear H
      go_wp2_with (first | ((with_reducible refine gate_callee (f := 8) rfl ?_); refine goesL_ (some 11) rfl rfl Try.func8 (by kernel_rfl) rfl #[.slice A0 l0.length c0] rfl (by (try simp only [List.map_toArray, List.map_cons, List.map_nil]); first | done | rfl | (simp only [List.length_drop, List.length_take]; rfl)) ?_; (with_reducible refine (laws_zzFits4.calls k _ _ l0 false _ ?side1 ?side2 A4.out).mono ?_); (case side1 => repeat (first | exact (Kd.C_below HR0.out HB.out) | (with_reducible refine Kd.C_alloc ?_ _) | (with_reducible refine Kd.C_drewN ?_ _) | (with_reducible refine Kd.C_drew ?_))); (case side2 => exact HC0.out); rintro e w' ⟨rfl, ⟨nd, rfl⟩⟩; refine ⟨_, rfl, ?_⟩))
      go_meet
      case rel => exact ⟨_, (true), (by first | rfl | (simp; done) | (simp [*]; done)), H', ⟨by first | omega | exact Nat.le_refl _⟩, ⟨by repeat (first | (with_reducible first | exact HB.out | apply below_alloc | apply pw_below_drewN | apply below_drew1) | exact HB.out)⟩⟩
  case rest =>
    clear HC3
    try clear c1
    try clear p2
    try clear c4
    try clear c5
    obtain ⟨kq, x17_2, rfl, HA, HJ2, HB⟩ := hcut
    cases kq with
    | zero => exact absurd HA.out (by simp [laws_FnPathSlashes.j0])
    | succ kj2 =>
      have H := HA.out
      clear HA
      simp only [laws_FnPathSlashes.j0] at H
      by_cases c6 : x17_2 = true
      · subst c6
        have H1 : (some true) = some r := by rw [if_pos rfl] at H; exact H
        clear H
        have H := H1
        clear H1
        obtain rfl := Option.some.inj H
        go_wp2
        go_ret
        exact ⟨by first | rfl | (simp [errW_none, errW_some] <;> rfl) | (simp [*, errW_none, errW_some] <;> rfl), by repeat (first | (with_reducible first | exact HB.out | apply below_alloc | apply pw_below_drewN | apply below_drew1) | exact HB.out)⟩
      · replace c6 := Bool.eq_false_iff.mpr c6
        subst c6
        have H1 : ((laws_cleaned.f kj2 l0).bind fun t147 => (if t147.toList = ([] : List UInt8) then (laws_FnPathSlashes.j1 kj2 l0 l1 t147 true) else (laws_FnPathSlashes.j1 kj2 l0 l1 t147 (t147.toList == ([47] : List UInt8))))) = some r := by rw [if_neg (show ¬ (false = true) by decide)] at H; exact H
        clear H
        have H := H1
        clear H1
        replace H := Option.bind_eq_some_iff.mp H
        obtain ⟨t147, A70, H⟩ := H
        replace H : (if t147.toList = ([] : List UInt8) then (laws_FnPathSlashes.j1 kj2 l0 l1 t147 true) else (laws_FnPathSlashes.j1 kj2 l0 l1 t147 (t147.toList == ([47] : List UInt8)))) = some r := H
        have A7 := Aside0.mk A70
        clear A70
        have HC8 := Aside0.mk H
        clear H
        go_upto_region 4 with (first | ((with_reducible refine gate_callee (f := 9) rfl ?_); refine goesL_ (some 19) rfl rfl Try.func9 (by kernel_rfl) rfl #[.slice A0 l0.length c0] rfl (by (try simp only [List.map_toArray, List.map_cons, List.map_nil]); first | done | rfl | (simp only [List.length_drop, List.length_take]; rfl)) ?_; (with_reducible refine (laws_cleaned.calls kj2 _ _ l0 t147 _ ?side1 ?side2 A7.out).mono ?_); (case side1 => repeat (first | exact (Kd.C_below HR0.out HB.out) | (with_reducible refine Kd.C_alloc ?_ _) | (with_reducible refine Kd.C_drewN ?_ _) | (with_reducible refine Kd.C_drew ?_))); (case side2 => exact HC0.out); rintro e w' ⟨rfl, ⟨nd, rfl⟩⟩; refine ⟨_, rfl, ?_⟩))
        (try simp only [Act.put, List.setIfInBounds_toArray, List.set_cons_zero, List.set_cons_succ])
        go_cut [25] (fun v25 wc => ∃ (kq : Nat) (x25_7 : Bool), v25 = .bool x25_7 ∧ Aside0 (laws_FnPathSlashes.j1 kq l0 l1 t147 x25_7 = some r) ∧ Aside0 (kq ≤ kj2) ∧ Aside0 (Below w.heap.size w wc))
        case first =>
          have H := HC8.out
          clear HC8
          by_cases c9 : t147.toList = ([] : List UInt8)
          · rw [if_pos c9] at H
            have c9b0 : (t147.toList == ([] : List UInt8)) = true := beq_iff_eq.mpr c9
            have c9b1 : (t147.toList != ([] : List UInt8)) = false := bne_eq_false_iff_eq.mpr c9
            clear c9
            (first | rw [c9b0] | (simp only [i64_w, i32_w]; rw [c9b0]) | skip)
            have H' := Aside0.mk H
            clear H
            go_wp2
            go_meet
            case rel => exact ⟨_, (true), (by first | rfl | (simp; done) | (simp [*]; done)), H', ⟨by have := HJ2.out; first | omega | exact Nat.le_refl _⟩, ⟨by repeat (first | (with_reducible first | exact HB.out | apply below_alloc | apply pw_below_drewN | apply below_drew1) | exact HB.out)⟩⟩
          · rw [if_neg c9] at H
            have c9b0 : (t147.toList == ([] : List UInt8)) = false := beq_eq_false_iff_ne.mpr c9
            have c9b1 : (t147.toList != ([] : List UInt8)) = true := bne_iff_ne.mpr c9
            (first | rw [c9b0] | (simp only [i64_w, i32_w]; rw [c9b0]) | skip)
            have H' := Aside0.mk H
            clear H
            go_wp2
            go_meet
            case rel => exact ⟨_, ((t147.toList == ([47] : List UInt8))), (by first | rfl | (simp; done) | (simp [*]; done)), H', ⟨by have := HJ2.out; first | omega | exact Nat.le_refl _⟩, ⟨by repeat (first | (with_reducible first | exact HB.out | apply below_alloc | apply pw_below_drewN | apply below_drew1) | exact HB.out)⟩⟩
        case rest =>
          clear HC8
          try clear c1
          try clear p2
          try clear c4
          try clear c5
          try clear c6
          try clear c8
          try clear c9
          try clear c9b0
          try clear c9b1
          try clear p2
          obtain ⟨kq, x25_7, rfl, HA, HJ7, HB⟩ := hcut
          cases kq with
          | zero => exact absurd HA.out (by simp [laws_FnPathSlashes.j1])
          | succ kj7 =>
            have H := HA.out
            clear HA
            simp only [laws_FnPathSlashes.j1] at H
            by_cases c10 : x25_7 = true
            · subst c10
              have H1 : (some true) = some r := by rw [if_pos rfl] at H; exact H
              clear H
              have H := H1
              clear H1
              obtain rfl := Option.some.inj H
              go_wp2
              go_ret
              exact ⟨by first | rfl | (simp [errW_none, errW_some] <;> rfl) | (simp [*, errW_none, errW_some] <;> rfl), by repeat (first | (with_reducible first | exact HB.out | apply below_alloc | apply pw_below_drewN | apply below_drew1) | exact HB.out)⟩
            · replace c10 := Bool.eq_false_iff.mpr c10
              subst c10
              have H1 : (laws_FnPathSlashes.l0 kj7 l1 t147 (⟨#[]⟩ : ByteArray) l0 (l0.length : Int) 0) = some r := by rw [if_neg (show ¬ (false = true) by decide)] at H; exact H
              clear H
              have H := H1
              clear H1
              have H' := Aside0.mk H
              clear H
              go_wp2
              go_loopg [6, 28] kj7 (fun kq v6 v28 w' => ∃ (x6_3 : ByteArray) (x28_3 : Int), v6 = .string x6_3 ∧ v28 = .int .i64 x28_3 ∧ Aside0 (laws_FnPathSlashes.l0 kq l1 t147 x6_3 l0 (l0.length : Int) x28_3 = some r) ∧ Aside0 (kq ≤ kj7) ∧ Aside0 (Below w.heap.size w w'))
              case atStart => exact ⟨((⟨#[]⟩ : ByteArray)), (0), (by first | rfl | (simp; done) | (simp [*]; done)), (by first | rfl | (simp; done) | (simp [*]; done)), H', ⟨Nat.le_refl _⟩, ⟨by repeat (first | (with_reducible first | exact HB.out | apply below_alloc | apply pw_below_drewN | apply below_drew1) | exact HB.out)⟩⟩
              case round =>
                clear H'
                try clear c1
                try clear p2
                try clear c4
                try clear c5
                try clear c6
                try clear c8
                try clear c9
                try clear c9b0
                try clear c9b1
                try clear c10
                try clear p2
                obtain ⟨x6_3, x28_3, rfl, rfl, HA, HK3, HB⟩ := hrel
                cases gk with
                | zero => exact absurd HA.out (by simp [laws_FnPathSlashes.l0])
                | succ k3 =>
                  have H := HA.out
                  clear HA
                  simp only [laws_FnPathSlashes.l0] at H
                  by_cases c11 : x28_3 < (l0.length : Int)
                  · rw [if_pos c11] at H
                    have c11b0 : decide (x28_3 < (l0.length : Int)) = true := decide_eq_true c11
                    clear c11
                    by_cases c12 : 0 ≤ x28_3
                    · rw [if_pos c12] at H
                      have c12b0 : decide (0 ≤ x28_3) = true := decide_eq_true c12
                      clear c12
                      by_cases c13 : x28_3 < (l0.length : Int)
                      · rw [if_pos c13] at H
                        have c13b0 : decide (x28_3 < (l0.length : Int)) = true := decide_eq_true c13
                        clear c13
                        have HC14 := Aside0.mk H
                        clear H
                        have p148 : 0 ≤ (x28_3 : Int) := of_decide_eq_true (by first | (with_reducible assumption) | assumption)
                        have q148 : x28_3 < (l0.length : Int) := of_decide_eq_true (by first | (with_reducible assumption) | assumption)
                        obtain ⟨ad148, e148, hx148_0⟩ := Kd.at_string HR0.out x28_3 p148 q148
                        cases e148
                        replace hx148_0 := (HB.out.cell (World.block_lt_of_cell? w _ hx148_0)).trans hx148_0
                        replace p148 := eq_true p148
                        replace q148 := eq_true q148
                        go_upto_region 11 with (fail)
                        go_cut [40] (fun v40 wc => ∃ (kq : Nat) (x40_13 : Bool), v40 = .bool x40_13 ∧ Aside0 (laws_FnPathSlashes.j3 kq l1 t147 x6_3 x28_3 (rdOf ByteArray.empty l0 x28_3) 1 l0 (l0.length : Int) x28_3 x40_13 = some r) ∧ Aside0 (kq ≤ k3) ∧ Aside0 (Below w.heap.size w wc))
                        case first =>
                          have H := HC14.out
                          clear HC14
                          by_cases c15 : x28_3 < (l1.length : Int)
                          · rw [if_pos c15] at H
                            have c15b0 : decide (x28_3 < (l1.length : Int)) = true := decide_eq_true c15
                            clear c15
                            (first | rw [c15b0] | (simp only [i64_w, i32_w]; rw [c15b0]) | skip)
                            have H' := Aside0.mk H
                            clear H
                            go_wp2
                            go_meet
                            case rel => exact ⟨_, (decide (x28_3 < 20)), (by first | rfl | (simp; done) | (simp [*]; done)), H', ⟨by have := HJ2.out; have := HJ7.out; have := HK3.out; first | omega | exact Nat.le_refl _⟩, ⟨by repeat (first | (with_reducible first | exact HB.out | apply below_alloc | apply pw_below_drewN | apply below_drew1) | exact HB.out)⟩⟩
                          · rw [if_neg c15] at H
                            have c15b0 : decide (x28_3 < (l1.length : Int)) = false := decide_eq_false c15
                            clear c15
                            (first | rw [c15b0] | (simp only [i64_w, i32_w]; rw [c15b0]) | skip)
                            have H' := Aside0.mk H
                            clear H
                            go_wp2
                            go_meet
                            case rel => exact ⟨_, (false), (by first | rfl | (simp; done) | (simp [*]; done)), H', ⟨by have := HJ2.out; have := HJ7.out; have := HK3.out; first | omega | exact Nat.le_refl _⟩, ⟨by repeat (first | (with_reducible first | exact HB.out | apply below_alloc | apply pw_below_drewN | apply below_drew1) | exact HB.out)⟩⟩
                        case rest =>
                          clear HC14
                          try clear c1
                          try clear p1
                          try clear q1
                          try clear hx1
                          try clear p2
                          try clear c4
                          try clear c5
                          try clear c6
                          try clear c8
                          try clear c9
                          try clear c9b0
                          try clear c9b1
                          try clear c10
                          try clear c11
                          try clear c11b0
                          try clear c12
                          try clear c12b0
                          try clear c13
                          try clear c13b0
                          try clear p14
                          try clear q14
                          try clear hx14
                          try clear c15
                          try clear c15b0
                          try clear hx148_0
                          try clear p148
                          try clear p2
                          try clear q148
                          obtain ⟨kq, x40_13, rfl, HA, HJ13, HB⟩ := hcut
                          cases kq with
                          | zero => exact absurd HA.out (by simp [laws_FnPathSlashes.j3])
                          | succ kj13 =>
                            have H := HA.out
                            clear HA
                            simp only [laws_FnPathSlashes.j3] at H
                            have HC16 := Aside0.mk H
                            clear H
                            go_upto_if 40 with (fail)
                            go_cut [9] (fun v9 wc => ∃ (kq : Nat) (x9_15 : Int), v9 = .int .i64 x9_15 ∧ Aside0 (laws_FnPathSlashes.j4 kq l1 t147 x6_3 (rdOf ByteArray.empty l0 x28_3) x9_15 l0 (l0.length : Int) x28_3 = some r) ∧ Aside0 (kq ≤ kj13) ∧ Aside0 (Below w.heap.size w wc))
                            case first =>
                              have H := HC16.out
                              clear HC16
                              by_cases c17 : x40_13 = true
                              · subst c17
                                have H1 : (if 0 ≤ x28_3 then (if x28_3 < (l1.length : Int) then (laws_FnPathSlashes.j4 kj13 l1 t147 x6_3 (rdOf ByteArray.empty l0 x28_3) (wrap64 (1 + (Int.tmod (wrap64 (rd l1 x28_3)) 3))) l0 (l0.length : Int) x28_3) else (none)) else (none)) = some r := by rw [if_pos rfl] at H; exact H
                                clear H
                                have H := H1
                                clear H1
                                by_cases c18 : 0 ≤ x28_3
                                · rw [if_pos c18] at H
                                  have c18b0 : decide (0 ≤ x28_3) = true := decide_eq_true c18
                                  clear c18
                                  (first | rw [c18b0] | (simp only [i64_w, i32_w]; rw [c18b0]) | skip)
                                  by_cases c19 : x28_3 < (l1.length : Int)
                                  · rw [if_pos c19] at H
                                    have c19b0 : decide (x28_3 < (l1.length : Int)) = true := decide_eq_true c19
                                    clear c19
                                    have H' := Aside0.mk H
                                    clear H
                                    have p149 : 0 ≤ (x28_3 : Int) := of_decide_eq_true (by first | (with_reducible assumption) | assumption)
                                    have q149 : x28_3 < (l1.length : Int) := of_decide_eq_true (by first | (with_reducible assumption) | assumption)
                                    obtain ⟨ad149, e149, hx149_0⟩ := Kd.at_int HR1.out x28_3 p149 q149
                                    cases e149
                                    replace hx149_0 := (HB.out.cell (World.block_lt_of_cell? w _ hx149_0)).trans hx149_0
                                    replace p149 := eq_true p149
                                    replace q149 := eq_true q149
                                    go_wp2
                                    go_meet
                                    case rel => exact ⟨_, (wrap64 (1 + (Int.tmod (wrap64 (rd l1 x28_3)) 3))), (by first | rfl | (simp; done) | (simp [*]; done)), H', ⟨by have := HJ2.out; have := HJ7.out; have := HK3.out; have := HJ13.out; first | omega | exact Nat.le_refl _⟩, ⟨by repeat (first | (with_reducible first | exact HB.out | apply below_alloc | apply pw_below_drewN | apply below_drew1) | exact HB.out)⟩⟩
                                  · rw [if_neg c19] at H
                                    exact absurd H (by simp)
                                · rw [if_neg c18] at H
                                  exact absurd H (by simp)
                              · replace c17 := Bool.eq_false_iff.mpr c17
                                subst c17
                                have H1 : (laws_FnPathSlashes.j4 kj13 l1 t147 x6_3 (rdOf ByteArray.empty l0 x28_3) 1 l0 (l0.length : Int) x28_3) = some r := by rw [if_neg (show ¬ (false = true) by decide)] at H; exact H
                                clear H
                                have H := H1
                                clear H1
                                have H' := Aside0.mk H
                                clear H
                                go_wp2
                                go_meet
                                case rel => exact ⟨_, (1), (by first | rfl | (simp; done) | (simp [*]; done)), H', ⟨by have := HJ2.out; have := HJ7.out; have := HK3.out; have := HJ13.out; first | omega | exact Nat.le_refl _⟩, ⟨by repeat (first | (with_reducible first | exact HB.out | apply below_alloc | apply pw_below_drewN | apply below_drew1) | exact HB.out)⟩⟩
                            case rest =>
                              clear HC16
                              try clear c1
                              try clear p1
                              try clear q1
                              try clear hx1
                              try clear p2
                              try clear c4
                              try clear c5
                              try clear c6
                              try clear p6
                              try clear c8
                              try clear c9
                              try clear c9b0
                              try clear c9b1
                              try clear c10
                              try clear c11
                              try clear c11b0
                              try clear c12
                              try clear c12b0
                              try clear c13
                              try clear c13b0
                              try clear p14
                              try clear q14
                              try clear hx14
                              try clear c15
                              try clear c15b0
                              try clear c17
                              try clear c18
                              try clear c18b0
                              try clear c19
                              try clear c19b0
                              try clear hx148_0
                              try clear hx149_0
                              try clear p1
                              try clear p14
                              try clear p148
                              try clear p149
                              try clear p2
                              try clear q1
                              try clear q14
                              try clear q148
                              try clear q149
                              obtain ⟨kq, x9_15, rfl, HA, HJ15, HB⟩ := hcut
                              cases kq with
                              | zero => exact absurd HA.out (by simp [laws_FnPathSlashes.j4])
                              | succ kj15 =>
                                have H := HA.out
                                clear HA
                                simp only [laws_FnPathSlashes.j4] at H
                                have H' := Aside0.mk H
                                clear H
                                go_wp2
                                go_loopg [6, 50] kj15 (fun kq v6 v50 w' => ∃ (x6_6 : ByteArray) (x50_6 : Int), v6 = .string x6_6 ∧ v50 = .int .i64 x50_6 ∧ Aside0 (laws_FnPathSlashes.l1 kq l1 t147 x6_6 (rdOf ByteArray.empty l0 x28_3) l0 (l0.length : Int) x28_3 x9_15 x50_6 = some r) ∧ Aside0 (kq ≤ kj15) ∧ Aside0 (Below w.heap.size w w'))
                                case atStart => exact ⟨(x6_3), (0), (by first | rfl | (simp; done) | (simp [*]; done)), (by first | rfl | (simp; done) | (simp [*]; done)), H', ⟨Nat.le_refl _⟩, ⟨by repeat (first | (with_reducible first | exact HB.out | apply below_alloc | apply pw_below_drewN | apply below_drew1) | exact HB.out)⟩⟩
                                case round =>
                                  clear H'
                                  try clear c1
                                  try clear p1
                                  try clear q1
                                  try clear hx1
                                  try clear p2
                                  try clear c4
                                  try clear c5
                                  try clear c6
                                  try clear p6
                                  try clear c8
                                  try clear c9
                                  try clear c9b0
                                  try clear c9b1
                                  try clear c10
                                  try clear c11
                                  try clear c11b0
                                  try clear c12
                                  try clear c12b0
                                  try clear c13
                                  try clear c13b0
                                  try clear p14
                                  try clear q14
                                  try clear hx14
                                  try clear c15
                                  try clear c15b0
                                  try clear c17
                                  try clear c18
                                  try clear c18b0
                                  try clear c19
                                  try clear c19b0
                                  try clear hx148_0
                                  try clear hx149_0
                                  try clear p1
                                  try clear p14
                                  try clear p148
                                  try clear p149
                                  try clear p2
                                  try clear p6
                                  try clear q1
                                  try clear q14
                                  try clear q148
                                  try clear q149
                                  obtain ⟨x6_6, x50_6, rfl, rfl, HA, HK6, HB⟩ := hrel
                                  cases gk with
                                  | zero => exact absurd HA.out (by simp [laws_FnPathSlashes.l1])
                                  | succ k6 =>
                                    have H := HA.out
                                    clear HA
                                    simp only [laws_FnPathSlashes.l1] at H
                                    by_cases c20 : x50_6 < x9_15
                                    · rw [if_pos c20] at H
                                      have c20b0 : decide (x50_6 < x9_15) = true := decide_eq_true c20
                                      clear c20
                                      by_cases c21 : x6_6.size + 1 ≤ 9223372036854775807
                                      · rw [if_pos c21] at H
                                        have c21b0 := eq_true c21
                                        have c21b1 : decide (x6_6.size + 1 ≤ 9223372036854775807) = true := decide_eq_true c21
                                        try have c21b2 : (9223372036854775807 < x6_6.size + 1) = False := eq_false (Nat.not_lt.2 c21)
                                        have H' := Aside0.mk H
                                        clear H
                                        go_wp2
                                        go_roundg k6
                                        case measure => have := HJ2.out; have := HJ7.out; have := HK3.out; have := HJ13.out; have := HJ15.out; have := HK6.out; omega
                                        case rel => exact ⟨(x6_6 ++ (⟨#[47]⟩ : ByteArray)), (wrap64 (x50_6 + 1)), (by first | rfl | (simp; done) | (simp [*]; done)), (by first | rfl | (simp; done) | (simp [*]; done)), H', ⟨by have := HJ2.out; have := HJ7.out; have := HK3.out; have := HJ13.out; have := HJ15.out; have := HK6.out; omega⟩, ⟨by repeat (first | (with_reducible first | exact HB.out | apply below_alloc | apply pw_below_drewN | apply below_drew1) | exact HB.out)⟩⟩
                                      · rw [if_neg c21] at H
                                        exact absurd H (by simp)
                                    · rw [if_neg c20] at H
                                      have c20b0 : decide (x50_6 < x9_15) = false := decide_eq_false c20
                                      clear c20
                                      by_cases c22 : x6_6.size + (rdOf ByteArray.empty l0 x28_3).size ≤ 9223372036854775807
                                      · rw [if_pos c22] at H
                                        have c22b0 := eq_true c22
                                        have c22b1 : decide (x6_6.size + (rdOf ByteArray.empty l0 x28_3).size ≤ 9223372036854775807) = true := decide_eq_true c22
                                        try have c22b2 : (9223372036854775807 < x6_6.size + (rdOf ByteArray.empty l0 x28_3).size) = False := eq_false (Nat.not_lt.2 c22)
                                        have H' := Aside0.mk H
                                        clear H
                                        go_wp2
                                        go_roundg k6
                                        case measure => have := HJ2.out; have := HJ7.out; have := HK3.out; have := HJ13.out; have := HJ15.out; have := HK6.out; omega
                                        case rel => exact ⟨(x6_6 ++ (rdOf ByteArray.empty l0 x28_3)), (wrap64 (x28_3 + 1)), (by first | rfl | (simp; done) | (simp [*]; done)), (by first | rfl | (simp; done) | (simp [*]; done)), H', ⟨by have := HJ2.out; have := HJ7.out; have := HK3.out; have := HJ13.out; have := HJ15.out; have := HK6.out; omega⟩, ⟨by repeat (first | (with_reducible first | exact HB.out | apply below_alloc | apply pw_below_drewN | apply below_drew1) | exact HB.out)⟩⟩
                                      · rw [if_neg c22] at H
                                        exact absurd H (by simp)
                      · rw [if_neg c13] at H
                        exact absurd H (by simp)
                    · rw [if_neg c12] at H
                      exact absurd H (by simp)
                  · rw [if_neg c11] at H
                    have c11b0 : decide (x28_3 < (l0.length : Int)) = false := decide_eq_false c11
                    clear c11
                    replace H := Option.bind_eq_some_iff.mp H
                    obtain ⟨t150, A230, H⟩ := H
                    replace H : ((impl_PathEscape.f k3 t147).bind fun t151 => (if t150.toList = t151.toList then (if x6_3.size + 1 ≤ 9223372036854775807 then ((impl_PathEscape.f k3 (x6_3 ++ (⟨#[47]⟩ : ByteArray))).bind fun t152 => ((impl_PathEscape.f k3 t147).bind fun t153 => (if t152.toList = t153.toList then ((laws_escapes.f k3).bind fun t154 => (some t154)) else (some false)))) else (none)) else (some false))) = some r := H
                    have A23 := Aside0.mk A230
                    clear A230
                    replace H := Option.bind_eq_some_iff.mp H
                    obtain ⟨t151, A240, H⟩ := H
                    replace H : (if t150.toList = t151.toList then (if x6_3.size + 1 ≤ 9223372036854775807 then ((impl_PathEscape.f k3 (x6_3 ++ (⟨#[47]⟩ : ByteArray))).bind fun t152 => ((impl_PathEscape.f k3 t147).bind fun t153 => (if t152.toList = t153.toList then ((laws_escapes.f k3).bind fun t154 => (some t154)) else (some false)))) else (none)) else (some false)) = some r := H
                    have A24 := Aside0.mk A240
                    clear A240
                    by_cases c25 : t150.toList = t151.toList
                    · rw [if_pos c25] at H
                      have c25b0 : (t150.toList == t151.toList) = true := beq_iff_eq.mpr c25
                      have c25b1 : (t150.toList != t151.toList) = false := bne_eq_false_iff_eq.mpr c25
                      clear c25
                      by_cases c26 : x6_3.size + 1 ≤ 9223372036854775807
                      · rw [if_pos c26] at H
                        have c26b0 := eq_true c26
                        have c26b1 : decide (x6_3.size + 1 ≤ 9223372036854775807) = true := decide_eq_true c26
                        try have c26b2 : (9223372036854775807 < x6_3.size + 1) = False := eq_false (Nat.not_lt.2 c26)
                        replace H := Option.bind_eq_some_iff.mp H
                        obtain ⟨t152, A270, H⟩ := H
                        replace H : ((impl_PathEscape.f k3 t147).bind fun t153 => (if t152.toList = t153.toList then ((laws_escapes.f k3).bind fun t154 => (some t154)) else (some false))) = some r := H
                        have A27 := Aside0.mk A270
                        clear A270
                        replace H := Option.bind_eq_some_iff.mp H
                        obtain ⟨t153, A280, H⟩ := H
                        replace H : (if t152.toList = t153.toList then ((laws_escapes.f k3).bind fun t154 => (some t154)) else (some false)) = some r := H
                        have A28 := Aside0.mk A280
                        clear A280
                        by_cases c29 : t152.toList = t153.toList
                        · rw [if_pos c29] at H
                          have c29b0 : (t152.toList == t153.toList) = true := beq_iff_eq.mpr c29
                          have c29b1 : (t152.toList != t153.toList) = false := bne_eq_false_iff_eq.mpr c29
                          clear c29
                          replace H := Option.bind_eq_some_iff.mp H
                          obtain ⟨t154, A300, H⟩ := H
                          replace H : (some t154) = some r := H
                          have A30 := Aside0.mk A300
                          clear A300
                          obtain rfl := Option.some.inj H
                          go_wp2_with (first | ((with_reducible refine gate_callee (f := 10) rfl ?_); refine goesL_ (some 60) rfl rfl Try.func10 (by kernel_rfl) rfl #[.string x6_3] rfl (by (try simp only [List.map_toArray, List.map_cons, List.map_nil]); first | done | rfl | (simp only [List.length_drop, List.length_take]; rfl)) ?_; (with_reducible refine (impl_PathEscape.calls k3 x6_3 t150 _ A23.out).mono ?_); rintro e w31 ⟨rfl, hb⟩; refine ⟨_, rfl, ?_⟩; have n0_ := Aside0.mk (below_step (by repeat (first | (with_reducible first | exact HB.out | apply below_alloc | apply pw_below_drewN | apply below_drew1) | exact HB.out)) hb); clear HB; have HB := n0_; clear n0_; (try clear hb); (try clear hb2); (try clear hk); (try clear hi)) | ((with_reducible refine gate_callee (f := 10) rfl ?_); refine goesL_ (some 62) rfl rfl Try.func10 (by kernel_rfl) rfl #[.string t147] rfl (by (try simp only [List.map_toArray, List.map_cons, List.map_nil]); first | done | rfl | (simp only [List.length_drop, List.length_take]; rfl)) ?_; (with_reducible refine (impl_PathEscape.calls k3 t147 t151 _ A24.out).mono ?_); rintro e w32 ⟨rfl, hb⟩; refine ⟨_, rfl, ?_⟩; have n0_ := Aside0.mk (below_step (by repeat (first | (with_reducible first | exact HB.out | apply below_alloc | apply pw_below_drewN | apply below_drew1) | exact HB.out)) hb); clear HB; have HB := n0_; clear n0_; (try clear hb); (try clear hb2); (try clear hk); (try clear hi)) | (go_at_call 10; (with_reducible refine (impl_PathEscape.calls k3 (x6_3 ++ (⟨#[47]⟩ : ByteArray)) t152 _ A27.out).mono ?_); rintro e w33 ⟨rfl, hb⟩; have n0_ := Aside0.mk (below_step (by repeat (first | (with_reducible first | exact HB.out | apply below_alloc | apply pw_below_drewN | apply below_drew1) | exact HB.out)) hb); clear HB; have HB := n0_; clear n0_; (try clear hb); (try clear hb2); (try clear hk); (try clear hi)) | (go_at_call 10; (with_reducible refine (impl_PathEscape.calls k3 t147 t153 _ A28.out).mono ?_); rintro e w34 ⟨rfl, hb⟩; have n0_ := Aside0.mk (below_step (by repeat (first | (with_reducible first | exact HB.out | apply below_alloc | apply pw_below_drewN | apply below_drew1) | exact HB.out)) hb); clear HB; have HB := n0_; clear n0_; (try clear hb); (try clear hb2); (try clear hk); (try clear hi)) | (go_at_call 7; (with_reducible refine (laws_escapes.calls k3  t154 _ A30.out).mono ?_); rintro e w35 ⟨rfl, hb⟩; have n0_ := Aside0.mk (below_step (by repeat (first | (with_reducible first | exact HB.out | apply below_alloc | apply pw_below_drewN | apply below_drew1) | exact HB.out)) hb); clear HB; have HB := n0_; clear n0_; (try clear hb); (try clear hb2); (try clear hk); (try clear hi)))
                          go_ret
                          exact ⟨by first | rfl | (simp [errW_none, errW_some] <;> rfl) | (simp [*, errW_none, errW_some] <;> rfl), by repeat (first | (with_reducible first | exact HB.out | apply below_alloc | apply pw_below_drewN | apply below_drew1) | exact HB.out)⟩
                        · rw [if_neg c29] at H
                          have c29b0 : (t152.toList == t153.toList) = false := beq_eq_false_iff_ne.mpr c29
                          have c29b1 : (t152.toList != t153.toList) = true := bne_iff_ne.mpr c29
                          obtain rfl := Option.some.inj H
                          go_wp2_with (first | ((with_reducible refine gate_callee (f := 10) rfl ?_); refine goesL_ (some 60) rfl rfl Try.func10 (by kernel_rfl) rfl #[.string x6_3] rfl (by (try simp only [List.map_toArray, List.map_cons, List.map_nil]); first | done | rfl | (simp only [List.length_drop, List.length_take]; rfl)) ?_; (with_reducible refine (impl_PathEscape.calls k3 x6_3 t150 _ A23.out).mono ?_); rintro e w36 ⟨rfl, hb⟩; refine ⟨_, rfl, ?_⟩; have n0_ := Aside0.mk (below_step (by repeat (first | (with_reducible first | exact HB.out | apply below_alloc | apply pw_below_drewN | apply below_drew1) | exact HB.out)) hb); clear HB; have HB := n0_; clear n0_; (try clear hb); (try clear hb2); (try clear hk); (try clear hi)) | ((with_reducible refine gate_callee (f := 10) rfl ?_); refine goesL_ (some 62) rfl rfl Try.func10 (by kernel_rfl) rfl #[.string t147] rfl (by (try simp only [List.map_toArray, List.map_cons, List.map_nil]); first | done | rfl | (simp only [List.length_drop, List.length_take]; rfl)) ?_; (with_reducible refine (impl_PathEscape.calls k3 t147 t151 _ A24.out).mono ?_); rintro e w37 ⟨rfl, hb⟩; refine ⟨_, rfl, ?_⟩; have n0_ := Aside0.mk (below_step (by repeat (first | (with_reducible first | exact HB.out | apply below_alloc | apply pw_below_drewN | apply below_drew1) | exact HB.out)) hb); clear HB; have HB := n0_; clear n0_; (try clear hb); (try clear hb2); (try clear hk); (try clear hi)) | (go_at_call 10; (with_reducible refine (impl_PathEscape.calls k3 (x6_3 ++ (⟨#[47]⟩ : ByteArray)) t152 _ A27.out).mono ?_); rintro e w38 ⟨rfl, hb⟩; have n0_ := Aside0.mk (below_step (by repeat (first | (with_reducible first | exact HB.out | apply below_alloc | apply pw_below_drewN | apply below_drew1) | exact HB.out)) hb); clear HB; have HB := n0_; clear n0_; (try clear hb); (try clear hb2); (try clear hk); (try clear hi)) | (go_at_call 10; (with_reducible refine (impl_PathEscape.calls k3 t147 t153 _ A28.out).mono ?_); rintro e w39 ⟨rfl, hb⟩; have n0_ := Aside0.mk (below_step (by repeat (first | (with_reducible first | exact HB.out | apply below_alloc | apply pw_below_drewN | apply below_drew1) | exact HB.out)) hb); clear HB; have HB := n0_; clear n0_; (try clear hb); (try clear hb2); (try clear hk); (try clear hi)))
                          go_ret
                          exact ⟨by first | rfl | (simp [errW_none, errW_some] <;> rfl) | (simp [*, errW_none, errW_some] <;> rfl), by repeat (first | (with_reducible first | exact HB.out | apply below_alloc | apply pw_below_drewN | apply below_drew1) | exact HB.out)⟩
                      · rw [if_neg c26] at H
                        exact absurd H (by simp)
                    · rw [if_neg c25] at H
                      have c25b0 : (t150.toList == t151.toList) = false := beq_eq_false_iff_ne.mpr c25
                      have c25b1 : (t150.toList != t151.toList) = true := bne_iff_ne.mpr c25
                      obtain rfl := Option.some.inj H
                      go_wp2_with (first | ((with_reducible refine gate_callee (f := 10) rfl ?_); refine goesL_ (some 60) rfl rfl Try.func10 (by kernel_rfl) rfl #[.string x6_3] rfl (by (try simp only [List.map_toArray, List.map_cons, List.map_nil]); first | done | rfl | (simp only [List.length_drop, List.length_take]; rfl)) ?_; (with_reducible refine (impl_PathEscape.calls k3 x6_3 t150 _ A23.out).mono ?_); rintro e w40 ⟨rfl, hb⟩; refine ⟨_, rfl, ?_⟩; have n0_ := Aside0.mk (below_step (by repeat (first | (with_reducible first | exact HB.out | apply below_alloc | apply pw_below_drewN | apply below_drew1) | exact HB.out)) hb); clear HB; have HB := n0_; clear n0_; (try clear hb); (try clear hb2); (try clear hk); (try clear hi)) | ((with_reducible refine gate_callee (f := 10) rfl ?_); refine goesL_ (some 62) rfl rfl Try.func10 (by kernel_rfl) rfl #[.string t147] rfl (by (try simp only [List.map_toArray, List.map_cons, List.map_nil]); first | done | rfl | (simp only [List.length_drop, List.length_take]; rfl)) ?_; (with_reducible refine (impl_PathEscape.calls k3 t147 t151 _ A24.out).mono ?_); rintro e w41 ⟨rfl, hb⟩; refine ⟨_, rfl, ?_⟩; have n0_ := Aside0.mk (below_step (by repeat (first | (with_reducible first | exact HB.out | apply below_alloc | apply pw_below_drewN | apply below_drew1) | exact HB.out)) hb); clear HB; have HB := n0_; clear n0_; (try clear hb); (try clear hb2); (try clear hk); (try clear hi)))
                      go_ret
                      exact ⟨by first | rfl | (simp [errW_none, errW_some] <;> rfl) | (simp [*, errW_none, errW_some] <;> rfl), by repeat (first | (with_reducible first | exact HB.out | apply below_alloc | apply pw_below_drewN | apply below_drew1) | exact HB.out)⟩

end Go.Proofs.Ytlmmgienbmghmaa.U
