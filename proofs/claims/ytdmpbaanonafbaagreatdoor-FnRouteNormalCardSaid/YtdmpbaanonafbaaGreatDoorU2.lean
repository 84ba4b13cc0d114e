-- written by a program of this session (wip/tools/pp.py)
import Derived.Test.YtdmpbaanonafbaaGreatDoorU0
import Derived.Test.YtdmpbaanonafbaaGreatDoorU1
namespace Go.Proofs.YtdmpbaanonafbaaGreatDoor.U
open Go.RowKit Go.Proofs.YtdmpbaanonafbaaGreatDoorW.PrintWords Go.Proofs.YtdmpbaanonafbaaGreatDoorW.PrintLast Go.Proofs.YtdmpbaanonafbaaGreatDoor.Flt Go.Proofs.YtdmpbaanonafbaaGreatDoor.GivZ Go.Proofs.YtdmpbaanonafbaaGreatDoor.E Go.Proofs.YtdmpbaanonafbaaGreatDoor.L Go.Proofs.YtdmpbaanonafbaaGreatDoor.V Go.Proofs.YtdmpbaanonafbaaGreatDoor.DoorRt Go.Proofs.YtdmpbaanonafbaaGreatDoor.Lives Go.Proofs.YtdmpbaanonafbaaGreatDoor.R Go.Proofs.YtdmpbaanonafbaaGreatDoor.Upper Go.Proofs.YtdmpbaanonafbaaGreatDoorW.PrintMore
attribute [local go_sem] max2_int min2_int max_two min_two max_three min_three max_four min_four   -- for this text's walks alone
set_option linter.unusedVariables false
set_option linter.unusedSimpArgs false

/-! ### spec_RouteRead: function 30 -/
mutual
def spec_RouteRead.j0 : Nat → ByteArray → Bool → Option ((List (S48)) × Bool × Int)
 | 0, _, _ => none
 | k + 1, x0, x22 => if x22 = true then (some (([] : List (S48)), false, 2)) else (if 128 ≤ (x0.size : Int) then ((spec_Lines.f k (x0.extract 128 x0.size)).bind fun t108 => (spec_RouteRead.l0 k ([] : List (S48)) t108 (t108.length : Int) 0)) else (none))
def spec_RouteRead.l0 : Nat → List (S48) → List ByteArray → Int → Int → Option ((List (S48)) × Bool × Int)
 | 0, _, _, _, _ => none
 | k + 1, x5, x25, x26, x27 => if x27 < x26 then (if 0 ≤ x27 then (if x27 < (x25.length : Int) then ((spec_Fields.f k (rdOf ByteArray.empty x25 x27)).bind fun t114 => (if (t114.length : Int) = 11 then (if 0 < (t114.length : Int) then (if 1 ≤ (t114.length : Int) then ((some (t114.drop 1 : List ByteArray)).bind fun y119 => (spec_RouteRead.l1 k x5 x25 x26 x27 y119 (y119.length : Int) 0 (rdOf ByteArray.empty t114 0) ([] : List Int))) else (none)) else (none)) else (some (([] : List (S48)), false, 2)))) else (none)) else (none)) else ((spec_routeFine.f k x5).bind fun t111 => ((spec_told.f t111).bind fun t112 => (some (x5, true, t112))))
def spec_RouteRead.l1 : Nat → List (S48) → List ByteArray → Int → Int → List ByteArray → Int → Int → ByteArray → List Int → Option ((List (S48)) × Bool × Int)
 | 0, _, _, _, _, _, _, _, _, _ => none
 | k + 1, x5, x25, x26, x27, x41, x42, x43, x119000, x119001 => if x43 < x42 then (if 0 ≤ x43 then (if x43 < (x41.length : Int) then (if x43 < 3 then (spec_RouteRead.j3 k x5 (rdOf ByteArray.empty x41 x43) 10 x25 x26 x27 x41 x42 x43 true x119000 x119001) else (spec_RouteRead.j3 k x5 (rdOf ByteArray.empty x41 x43) 10 x25 x26 x27 x41 x42 x43 (x43 == 6) x119000 x119001)) else (none)) else (none)) else (if x5.length < 2199023255552 then (spec_RouteRead.l0 k (x5 ++ [(⟨x119000, x119001, ([] : List ByteArray)⟩ : S48)]) x25 x26 (wrap64 (x27 + 1))) else (none))
def spec_RouteRead.j3 : Nat → List (S48) → ByteArray → Int → List ByteArray → Int → Int → List ByteArray → Int → Int → Bool → ByteArray → List Int → Option ((List (S48)) × Bool × Int)
 | 0, _, _, _, _, _, _, _, _, _, _, _, _ => none
 | k + 1, x5, x11, x12, x25, x26, x27, x41, x42, x43, x53, x119000, x119001 => if x53 = true then (spec_RouteRead.j4 k x5 x11 16 x25 x26 x27 x41 x42 x43 x119000 x119001) else (spec_RouteRead.j4 k x5 x11 x12 x25 x26 x27 x41 x42 x43 x119000 x119001)
def spec_RouteRead.j4 : Nat → List (S48) → ByteArray → Int → List ByteArray → Int → Int → List ByteArray → Int → Int → ByteArray → List Int → Option ((List (S48)) × Bool × Int)
 | 0, _, _, _, _, _, _, _, _, _, _, _ => none
 | k + 1, x5, x11, x12, x25, x26, x27, x41, x42, x43, x119000, x119001 => (spec_Number.f k x11 x12).bind fun bt127 => (if bt127.2 = true then (if x12 = 10 then ((spec_Text.f k bt127.1).bind fun t129 => (if t129.toList = x11.toList then (if x119001.length < 17592186044416 then (spec_RouteRead.l1 k x5 x25 x26 x27 x41 x42 (wrap64 (x43 + 1)) x119000 (x119001 ++ [bt127.1])) else (none)) else (some (([] : List (S48)), false, 2)))) else (if x119001.length < 17592186044416 then (spec_RouteRead.l1 k x5 x25 x26 x27 x41 x42 (wrap64 (x43 + 1)) x119000 (x119001 ++ [bt127.1])) else (none))) else (some (([] : List (S48)), false, 2)))
end
def spec_RouteRead.f (k : Nat) (a0 : ByteArray) : Option ((List (S48)) × Bool × Int) := (spec_Plain.f k a0).bind fun t106 => (if t106 = true then ((spec_Begins.f a0 (⟨#[73, 102, 97, 99, 101, 9, 68, 101, 115, 116, 105, 110, 97, 116, 105, 111, 110, 9, 71, 97, 116, 101, 119, 97, 121, 32, 9, 70, 108, 97, 103, 115, 9, 82, 101, 102, 67, 110, 116, 9, 85, 115, 101, 9, 77, 101, 116, 114, 105, 99, 9, 77, 97, 115, 107, 9, 9, 77, 84, 85, 9, 87, 105, 110, 100, 111, 119, 9, 73, 82, 84, 84, 32, 32, 32, 32, 32, 32, 32, 32, 32, 32, 32, 32, 32, 32, 32, 32, 32, 32, 32, 32, 32, 32, 32, 32, 32, 32, 32, 32, 32, 32, 32, 32, 32, 32, 32, 32, 32, 32, 32, 32, 32, 32, 32, 32, 32, 32, 32, 32, 32, 32, 32, 32, 32, 32, 32, 10]⟩ : ByteArray)).bind fun t107 => (spec_RouteRead.j0 k a0 (!t107))) else (spec_RouteRead.j0 k a0 true))
theorem spec_RouteRead.mono_l : ∀ k, (∀ y0 y1, LeO (spec_RouteRead.j0 k y0 y1) (spec_RouteRead.j0 (k + 1) y0 y1)) ∧ (∀ y0 y1 y2 y3, LeO (spec_RouteRead.l0 k y0 y1 y2 y3) (spec_RouteRead.l0 (k + 1) y0 y1 y2 y3)) ∧ (∀ y0 y1 y2 y3 y4 y5 y6 y7 y8, LeO (spec_RouteRead.l1 k y0 y1 y2 y3 y4 y5 y6 y7 y8) (spec_RouteRead.l1 (k + 1) y0 y1 y2 y3 y4 y5 y6 y7 y8)) ∧ (∀ y0 y1 y2 y3 y4 y5 y6 y7 y8 y9 y10 y11, LeO (spec_RouteRead.j3 k y0 y1 y2 y3 y4 y5 y6 y7 y8 y9 y10 y11) (spec_RouteRead.j3 (k + 1) y0 y1 y2 y3 y4 y5 y6 y7 y8 y9 y10 y11)) ∧ (∀ y0 y1 y2 y3 y4 y5 y6 y7 y8 y9 y10, LeO (spec_RouteRead.j4 k y0 y1 y2 y3 y4 y5 y6 y7 y8 y9 y10) (spec_RouteRead.j4 (k + 1) y0 y1 y2 y3 y4 y5 y6 y7 y8 y9 y10))
 | 0 => ⟨fun _ _ r h => by simp [spec_RouteRead.j0] at h, fun _ _ _ _ r h => by simp [spec_RouteRead.l0] at h, fun _ _ _ _ _ _ _ _ _ r h => by simp [spec_RouteRead.l1] at h, fun _ _ _ _ _ _ _ _ _ _ _ _ r h => by simp [spec_RouteRead.j3] at h, fun _ _ _ _ _ _ _ _ _ _ _ r h => by simp [spec_RouteRead.j4] at h⟩
 | k + 1 => by
  obtain ⟨ih0, ih1, ih2, ih3, ih4⟩ := spec_RouteRead.mono_l k
  refine ⟨?_, ?_, ?_, ?_, ?_⟩
  ·intro y0 y1
   unfold spec_RouteRead.j0
   repeat' first
   | (with_reducible exact ih0 _ _)
   | (with_reducible exact ih1 _ _ _ _)
   | (with_reducible exact ih2 _ _ _ _ _ _ _ _ _)
   | (with_reducible exact ih3 _ _ _ _ _ _ _ _ _ _ _ _)
   | (with_reducible exact ih4 _ _ _ _ _ _ _ _ _ _ _)
   | (with_reducible exact spec_Fields.mono _ _)
   | (with_reducible exact spec_Lines.mono _ _)
   | (with_reducible exact spec_Number.mono _ _ _)
   | (with_reducible exact spec_Plain.mono _ _)
   | (with_reducible exact spec_Text.mono _ _)
   | (with_reducible exact spec_routeFine.mono _ _)
   | (with_reducible exact LeO.refl _)
   | (with_reducible exact LeO.none _)
   | (with_reducible refine LeO.ite ?_ ?_)
   | (with_reducible refine LeO.bind ?_ (fun _ => ?_))
   | exact ih0 _ _
   | exact ih1 _ _ _ _
   | exact ih2 _ _ _ _ _ _ _ _ _
   | exact ih3 _ _ _ _ _ _ _ _ _ _ _ _
   | exact ih4 _ _ _ _ _ _ _ _ _ _ _
   | exact spec_Fields.mono _ _
   | exact spec_Lines.mono _ _
   | exact spec_Number.mono _ _ _
   | exact spec_Plain.mono _ _
   | exact spec_Text.mono _ _
   | exact spec_routeFine.mono _ _
   | exact LeO.none _
   | refine LeO.ite ?_ ?_
   | refine LeO.bind ?_ (fun _ => ?_)
  ·intro y0 y1 y2 y3
   unfold spec_RouteRead.l0
   repeat' first
   | (with_reducible exact ih0 _ _)
   | (with_reducible exact ih1 _ _ _ _)
   | (with_reducible exact ih2 _ _ _ _ _ _ _ _ _)
   | (with_reducible exact ih3 _ _ _ _ _ _ _ _ _ _ _ _)
   | (with_reducible exact ih4 _ _ _ _ _ _ _ _ _ _ _)
   | (with_reducible exact spec_Fields.mono _ _)
   | (with_reducible exact spec_Lines.mono _ _)
   | (with_reducible exact spec_Number.mono _ _ _)
   | (with_reducible exact spec_Plain.mono _ _)
   | (with_reducible exact spec_Text.mono _ _)
   | (with_reducible exact spec_routeFine.mono _ _)
   | (with_reducible exact LeO.refl _)
   | (with_reducible exact LeO.none _)
   | (with_reducible refine LeO.ite ?_ ?_)
   | (with_reducible refine LeO.bind ?_ (fun _ => ?_))
   | exact ih0 _ _
   | exact ih1 _ _ _ _
   | exact ih2 _ _ _ _ _ _ _ _ _
   | exact ih3 _ _ _ _ _ _ _ _ _ _ _ _
   | exact ih4 _ _ _ _ _ _ _ _ _ _ _
   | exact spec_Fields.mono _ _
   | exact spec_Lines.mono _ _
   | exact spec_Number.mono _ _ _
   | exact spec_Plain.mono _ _
   | exact spec_Text.mono _ _
   | exact spec_routeFine.mono _ _
   | exact LeO.none _
   | refine LeO.ite ?_ ?_
   | refine LeO.bind ?_ (fun _ => ?_)
  ·intro y0 y1 y2 y3 y4 y5 y6 y7 y8
   unfold spec_RouteRead.l1
   repeat' first
   | (with_reducible exact ih0 _ _)
   | (with_reducible exact ih1 _ _ _ _)
   | (with_reducible exact ih2 _ _ _ _ _ _ _ _ _)
   | (with_reducible exact ih3 _ _ _ _ _ _ _ _ _ _ _ _)
   | (with_reducible exact ih4 _ _ _ _ _ _ _ _ _ _ _)
   | (with_reducible exact spec_Fields.mono _ _)
   | (with_reducible exact spec_Lines.mono _ _)
   | (with_reducible exact spec_Number.mono _ _ _)
   | (with_reducible exact spec_Plain.mono _ _)
   | (with_reducible exact spec_Text.mono _ _)
   | (with_reducible exact spec_routeFine.mono _ _)
   | (with_reducible exact LeO.refl _)
   | (with_reducible exact LeO.none _)
   | (with_reducible refine LeO.ite ?_ ?_)
   | (with_reducible refine LeO.bind ?_ (fun _ => ?_))
   | exact ih0 _ _
   | exact ih1 _ _ _ _
   | exact ih2 _ _ _ _ _ _ _ _ _
   | exact ih3 _ _ _ _ _ _ _ _ _ _ _ _
   | exact ih4 _ _ _ _ _ _ _ _ _ _ _
   | exact spec_Fields.mono _ _
   | exact spec_Lines.mono _ _
   | exact spec_Number.mono _ _ _
   | exact spec_Plain.mono _ _
   | exact spec_Text.mono _ _
   | exact spec_routeFine.mono _ _
   | exact LeO.none _
   | refine LeO.ite ?_ ?_
   | refine LeO.bind ?_ (fun _ => ?_)
  ·intro y0 y1 y2 y3 y4 y5 y6 y7 y8 y9 y10 y11
   unfold spec_RouteRead.j3
   repeat' first
   | (with_reducible exact ih0 _ _)
   | (with_reducible exact ih1 _ _ _ _)
   | (with_reducible exact ih2 _ _ _ _ _ _ _ _ _)
   | (with_reducible exact ih3 _ _ _ _ _ _ _ _ _ _ _ _)
   | (with_reducible exact ih4 _ _ _ _ _ _ _ _ _ _ _)
   | (with_reducible exact spec_Fields.mono _ _)
   | (with_reducible exact spec_Lines.mono _ _)
   | (with_reducible exact spec_Number.mono _ _ _)
   | (with_reducible exact spec_Plain.mono _ _)
   | (with_reducible exact spec_Text.mono _ _)
   | (with_reducible exact spec_routeFine.mono _ _)
   | (with_reducible exact LeO.refl _)
   | (with_reducible exact LeO.none _)
   | (with_reducible refine LeO.ite ?_ ?_)
   | (with_reducible refine LeO.bind ?_ (fun _ => ?_))
   | exact ih0 _ _
   | exact ih1 _ _ _ _
   | exact ih2 _ _ _ _ _ _ _ _ _
   | exact ih3 _ _ _ _ _ _ _ _ _ _ _ _
   | exact ih4 _ _ _ _ _ _ _ _ _ _ _
   | exact spec_Fields.mono _ _
   | exact spec_Lines.mono _ _
   | exact spec_Number.mono _ _ _
   | exact spec_Plain.mono _ _
   | exact spec_Text.mono _ _
   | exact spec_routeFine.mono _ _
   | exact LeO.none _
   | refine LeO.ite ?_ ?_
   | refine LeO.bind ?_ (fun _ => ?_)
  ·intro y0 y1 y2 y3 y4 y5 y6 y7 y8 y9 y10
   unfold spec_RouteRead.j4
   repeat' first
   | (with_reducible exact ih0 _ _)
   | (with_reducible exact ih1 _ _ _ _)
   | (with_reducible exact ih2 _ _ _ _ _ _ _ _ _)
   | (with_reducible exact ih3 _ _ _ _ _ _ _ _ _ _ _ _)
   | (with_reducible exact ih4 _ _ _ _ _ _ _ _ _ _ _)
   | (with_reducible exact spec_Fields.mono _ _)
   | (with_reducible exact spec_Lines.mono _ _)
   | (with_reducible exact spec_Number.mono _ _ _)
   | (with_reducible exact spec_Plain.mono _ _)
   | (with_reducible exact spec_Text.mono _ _)
   | (with_reducible exact spec_routeFine.mono _ _)
   | (with_reducible exact LeO.refl _)
   | (with_reducible exact LeO.none _)
   | (with_reducible refine LeO.ite ?_ ?_)
   | (with_reducible refine LeO.bind ?_ (fun _ => ?_))
   | exact ih0 _ _
   | exact ih1 _ _ _ _
   | exact ih2 _ _ _ _ _ _ _ _ _
   | exact ih3 _ _ _ _ _ _ _ _ _ _ _ _
   | exact ih4 _ _ _ _ _ _ _ _ _ _ _
   | exact spec_Fields.mono _ _
   | exact spec_Lines.mono _ _
   | exact spec_Number.mono _ _ _
   | exact spec_Plain.mono _ _
   | exact spec_Text.mono _ _
   | exact spec_routeFine.mono _ _
   | exact LeO.none _
   | refine LeO.ite ?_ ?_
   | refine LeO.bind ?_ (fun _ => ?_)
theorem spec_RouteRead.mono : ∀ a0 k, LeO (spec_RouteRead.f k a0) (spec_RouteRead.f (k + 1) a0) := by
 intro a0 k
 obtain ⟨ih0, ih1, ih2, ih3, ih4⟩ := spec_RouteRead.mono_l k
 unfold spec_RouteRead.f
 repeat' first
   | (with_reducible exact ih0 _ _)
   | (with_reducible exact ih1 _ _ _ _)
   | (with_reducible exact ih2 _ _ _ _ _ _ _ _ _)
   | (with_reducible exact ih3 _ _ _ _ _ _ _ _ _ _ _ _)
   | (with_reducible exact ih4 _ _ _ _ _ _ _ _ _ _ _)
   | (with_reducible exact spec_Fields.mono _ _)
   | (with_reducible exact spec_Lines.mono _ _)
   | (with_reducible exact spec_Number.mono _ _ _)
   | (with_reducible exact spec_Plain.mono _ _)
   | (with_reducible exact spec_Text.mono _ _)
   | (with_reducible exact spec_routeFine.mono _ _)
   | (with_reducible exact LeO.refl _)
   | (with_reducible exact LeO.none _)
   | (with_reducible refine LeO.ite ?_ ?_)
   | (with_reducible refine LeO.bind ?_ (fun _ => ?_))
   | exact ih0 _ _
   | exact ih1 _ _ _ _
   | exact ih2 _ _ _ _ _ _ _ _ _
   | exact ih3 _ _ _ _ _ _ _ _ _ _ _ _
   | exact ih4 _ _ _ _ _ _ _ _ _ _ _
   | exact spec_Fields.mono _ _
   | exact spec_Lines.mono _ _
   | exact spec_Number.mono _ _ _
   | exact spec_Plain.mono _ _
   | exact spec_Text.mono _ _
   | exact spec_routeFine.mono _ _
   | exact LeO.none _
   | refine LeO.ite ?_ ?_
   | refine LeO.bind ?_ (fun _ => ?_)
set_option maxHeartbeats 8000000 in
set_option maxRecDepth 100000 in
theorem spec_RouteRead.calls (k : Nat) (a0 : ByteArray) (r1 : List (S48)) (r2 : Bool) (r3 : Int) (w : World) (h : spec_RouteRead.f k a0 = some (r1, r2, r3)) :
  Calls Tryz.prog 30 #[.string a0] w fun e w' => ∃ v0_ : Value, e = .returned (.tuple #[v0_, .bool r2, .int .i64 r3]) ∧ Kd.S k48 48 w' w.heap.size (fun _ => True) v0_ r1 ∧ Below w.heap.size w w' := by
 have hu48 := Tryz.underlying48
 have HB := Aside0.mk (Below.refl w.heap.size w)
 have H : ((spec_Plain.f k a0).bind fun t106 => (if t106 = true then ((spec_Begins.f a0 (⟨#[73, 102, 97, 99, 101, 9, 68, 101, 115, 116, 105, 110, 97, 116, 105, 111, 110, 9, 71, 97, 116, 101, 119, 97, 121, 32, 9, 70, 108, 97, 103, 115, 9, 82, 101, 102, 67, 110, 116, 9, 85, 115, 101, 9, 77, 101, 116, 114, 105, 99, 9, 77, 97, 115, 107, 9, 9, 77, 84, 85, 9, 87, 105, 110, 100, 111, 119, 9, 73, 82, 84, 84, 32, 32, 32, 32, 32, 32, 32, 32, 32, 32, 32, 32, 32, 32, 32, 32, 32, 32, 32, 32, 32, 32, 32, 32, 32, 32, 32, 32, 32, 32, 32, 32, 32, 32, 32, 32, 32, 32, 32, 32, 32, 32, 32, 32, 32, 32, 32, 32, 32, 32, 32, 32, 32, 32, 32, 10]⟩ : ByteArray)).bind fun t107 => (spec_RouteRead.j0 k a0 (!t107))) else (spec_RouteRead.j0 k a0 true))) = some (r1, r2, r3) := h
 clear h
 have HC2 := Aside0.mk H
 clear H
 go_enter Tryz.func30, Tryz.ntmps30
 go_upto_region 1 with (fail)
 go_cut [22] (fun v22 wc => ∃ (kq : Nat) (x22_1 : Bool), v22 = .bool x22_1 ∧ Aside0 (spec_RouteRead.j0 kq a0 x22_1 = some (r1, r2, r3)) ∧ Aside0 (kq ≤ k) ∧ Aside0 (Below w.heap.size w wc))
 case first =>
  have H := HC2.out
  clear HC2
  replace H := Option.bind_eq_some_iff.mp H
  obtain ⟨t106, A30, H⟩ := H
  have A3 := Aside0.mk A30
  clear A30
  by_cases c4 : t106 = true
  ·subst c4
   have H1 : ((spec_Begins.f a0 (⟨#[73, 102, 97, 99, 101, 9, 68, 101, 115, 116, 105, 110, 97, 116, 105, 111, 110, 9, 71, 97, 116, 101, 119, 97, 121, 32, 9, 70, 108, 97, 103, 115, 9, 82, 101, 102, 67, 110, 116, 9, 85, 115, 101, 9, 77, 101, 116, 114, 105, 99, 9, 77, 97, 115, 107, 9, 9, 77, 84, 85, 9, 87, 105, 110, 100, 111, 119, 9, 73, 82, 84, 84, 32, 32, 32, 32, 32, 32, 32, 32, 32, 32, 32, 32, 32, 32, 32, 32, 32, 32, 32, 32, 32, 32, 32, 32, 32, 32, 32, 32, 32, 32, 32, 32, 32, 32, 32, 32, 32, 32, 32, 32, 32, 32, 32, 32, 32, 32, 32, 32, 32, 32, 32, 32, 32, 32, 32, 10]⟩ : ByteArray)).bind fun t107 => (spec_RouteRead.j0 k a0 (!t107))) = some (r1, r2, r3) := by rw [if_pos rfl] at H; exact H
   clear H
   have H := H1
   clear H1
   replace H := Option.bind_eq_some_iff.mp H
   obtain ⟨t107, A50, H⟩ := H
   have A5 := Aside0.mk A50
   clear A50
   have H' := Aside0.mk H
   clear H
   go_wp2_with (first | ((with_reducible refine gate_callee (f := 80) rfl ?_); refine goesL_ (some 16) rfl rfl Tryz.func80 (by kernel_rfl) rfl #[.string a0] rfl (by (try simp only [List.map_toArray, List.map_cons, List.map_nil]); first | done | rfl | (simp only [List.length_drop, List.length_take]; rfl)) ?_; (with_reducible refine (spec_Plain.calls k a0 true _ A3.out).mono ?_); rintro e w' ⟨rfl, ⟨nd, rfl⟩⟩; refine ⟨_, rfl, ?_⟩) | (go_at_call 73; (with_reducible refine (spec_Begins.calls a0 (⟨#[73, 102, 97, 99, 101, 9, 68, 101, 115, 116, 105, 110, 97, 116, 105, 111, 110, 9, 71, 97, 116, 101, 119, 97, 121, 32, 9, 70, 108, 97, 103, 115, 9, 82, 101, 102, 67, 110, 116, 9, 85, 115, 101, 9, 77, 101, 116, 114, 105, 99, 9, 77, 97, 115, 107, 9, 9, 77, 84, 85, 9, 87, 105, 110, 100, 111, 119, 9, 73, 82, 84, 84, 32, 32, 32, 32, 32, 32, 32, 32, 32, 32, 32, 32, 32, 32, 32, 32, 32, 32, 32, 32, 32, 32, 32, 32, 32, 32, 32, 32, 32, 32, 32, 32, 32, 32, 32, 32, 32, 32, 32, 32, 32, 32, 32, 32, 32, 32, 32, 32, 32, 32, 32, 32, 32, 32, 32, 10]⟩ : ByteArray) t107 _ A5.out).mono ?_); rintro e w' ⟨rfl, ⟨nd, rfl⟩⟩))
   go_meet
   case rel => exact ⟨_, (!t107), (by first | rfl | (simp; done) | (simp [*]; done) | (simp [bne_nil]; done) | (simp [bne_nil, *]; done)), H', ⟨by first | omega | exact Nat.le_refl _⟩, ⟨by repeat (first | (with_reducible first | exact HB.out | apply below_alloc | apply pw_below_drewN | apply below_drew1) | exact HB.out)⟩⟩
  ·replace c4 := Bool.eq_false_iff.mpr c4
   subst c4
   have H1 : (spec_RouteRead.j0 k a0 true) = some (r1, r2, r3) := by rw [if_neg (show ¬ (false = true) by decide)] at H; exact H
   clear H
   have H := H1
   clear H1
   have H' := Aside0.mk H
   clear H
   go_wp2_with (first | ((with_reducible refine gate_callee (f := 80) rfl ?_); refine goesL_ (some 16) rfl rfl Tryz.func80 (by kernel_rfl) rfl #[.string a0] rfl (by (try simp only [List.map_toArray, List.map_cons, List.map_nil]); first | done | rfl | (simp only [List.length_drop, List.length_take]; rfl)) ?_; (with_reducible refine (spec_Plain.calls k a0 false _ A3.out).mono ?_); rintro e w' ⟨rfl, ⟨nd, rfl⟩⟩; refine ⟨_, rfl, ?_⟩))
   go_meet
   case rel => exact ⟨_, (true), (by first | rfl | (simp; done) | (simp [*]; done) | (simp [bne_nil]; done) | (simp [bne_nil, *]; done)), H', ⟨by first | omega | exact Nat.le_refl _⟩, ⟨by repeat (first | (with_reducible first | exact HB.out | apply below_alloc | apply pw_below_drewN | apply below_drew1) | exact HB.out)⟩⟩
 case rest =>
  clear HC2
  try clear p2
  try clear c3
  try clear c4
  obtain ⟨kq, x22_1, rfl, HA, HJ1, HB⟩ := hcut
  cases kq with
  | zero => exact absurd HA.out (by simp [spec_RouteRead.j0])
  | succ kj1 =>
   have H := HA.out
   clear HA
   simp only [spec_RouteRead.j0] at H
   by_cases c6 : x22_1 = true
   ·subst c6
    have H1 : (some (([] : List (S48)), false, 2)) = some (r1, r2, r3) := by rw [if_pos rfl] at H; exact H
    clear H
    have H := H1
    clear H1
    simp only [Option.some.injEq, Prod.mk.injEq] at H
    obtain ⟨rfl, rfl, rfl⟩ := H
    go_wp2
    go_ret3
    exact ⟨_, by first | rfl | (simp [errW_none, errW_some] <;> rfl) | (simp [*, errW_none, errW_some] <;> rfl), by first | exact Kd.S_nil _ _ _ _ _ | exact Kd.N_nil _ _ _ _ _ | exact Kd.V_nil _ _ _ _ _ | exact Kd.Q_nil _ _ _ _ _ | exact Kd.R_nil _ _ _ _ _, by repeat (first | (with_reducible first | exact HB.out | apply below_alloc | apply pw_below_drewN | apply below_drew1) | exact HB.out)⟩
   ·replace c6 := Bool.eq_false_iff.mpr c6
    subst c6
    have H1 : (if 128 ≤ (a0.size : Int) then ((spec_Lines.f kj1 (a0.extract 128 a0.size)).bind fun t108 => (spec_RouteRead.l0 kj1 ([] : List (S48)) t108 (t108.length : Int) 0)) else (none)) = some (r1, r2, r3) := by rw [if_neg (show ¬ (false = true) by decide)] at H; exact H
    clear H
    have H := H1
    clear H1
    by_cases c7 : 128 ≤ (a0.size : Int)
    ·rw [if_pos c7] at H
     have c7b0 := eq_true c7
     have c7b1 : decide (128 ≤ (a0.size : Int)) = true := decide_eq_true c7
     clear c7
     replace H := Option.bind_eq_some_iff.mp H
     obtain ⟨t108, A80, H⟩ := H
     have A8 := Aside0.mk A80
     clear A80
     have H' := Aside0.mk H
     clear H
     go_wp2_with (first | ((with_reducible refine gate_callee (f := 55) rfl ?_); refine goesL_ (some 25) rfl rfl Tryz.func55 (by kernel_rfl) rfl #[.string (a0.extract 128 a0.size)] rfl (by (try simp only [List.map_toArray, List.map_cons, List.map_nil]); first | done | rfl | (simp only [List.length_drop, List.length_take]; rfl)) ?_; (with_reducible refine (spec_Lines.calls kj1 (a0.extract 128 a0.size) t108 _ A8.out).mono ?_); rintro e w9 ⟨v109, rfl, ho0, hb⟩; refine ⟨_, rfl, ?_⟩; have n0_ := Aside0.mk (Kd.R_lower ho0 (below_size belH)); have n1_ := Aside0.mk (below_step belH hb); clear HB; have HO110 := n0_; have HB := n1_; clear n0_ n1_; (try clear hb); (try clear hb2); (try clear hk); (try clear hi); (try clear ho0); obtain ⟨Ao10, co10, eo10⟩ := Kd.R_slice HO110.out; subst eo10))
     go_loopg [5, 27] kj1 (fun kq v5 v27 w' => ∃ (x5_2 : List (S48)) (x27_2 : Int), v27 = .int .i64 x27_2 ∧ Aside0 (spec_RouteRead.l0 kq x5_2 t108 (t108.length : Int) x27_2 = some (r1, r2, r3)) ∧ Aside0 (kq ≤ kj1) ∧ Aside0 (Kd.S k48 48 w' w.heap.size (fun k_ => some k_ ≠ ((.slice Ao10 t108.length co10) : Value).ownBlock) v5 x5_2) ∧ Aside0 (Kd.R Kd.string 9 w' w.heap.size (fun _ => True) (.slice Ao10 t108.length co10) t108) ∧ Aside0 (Below w.heap.size w w'))
     case atStart => exact ⟨(([] : List (S48))), (0), (by first | rfl | (simp; done) | (simp [*]; done) | (simp [bne_nil]; done) | (simp [bne_nil, *]; done)), H', ⟨Nat.le_refl _⟩, ⟨by first | exact Kd.S_nil _ _ _ _ _ | exact Kd.N_nil _ _ _ _ _ | exact Kd.V_nil _ _ _ _ _ | exact Kd.Q_nil _ _ _ _ _ | exact Kd.R_nil _ _ _ _ _⟩, ⟨by (with_reducible repeat (first | apply Kd.R_alloc | apply Kd.R_drewN | apply Kd.R_drew)); exact HO110.out⟩, ⟨by repeat (first | (with_reducible first | exact HB.out | apply below_alloc | apply pw_below_drewN | apply below_drew1) | exact HB.out)⟩⟩
     case round =>
      clear H'
      try clear p2
      try clear c3
      try clear c4
      try clear c5
      try clear c6
      try clear c7
      try clear c7b0
      try clear c7b1
      try clear c8
      try clear p2
      obtain ⟨x5_2, x27_2, rfl, HA, HK2, HO_5, HO_25, HB⟩ := hrel
      cases gk with
      | zero => exact absurd HA.out (by simp [spec_RouteRead.l0])
      | succ k2 =>
       have H := HA.out
       clear HA
       simp only [spec_RouteRead.l0] at H
       by_cases c11 : x27_2 < (t108.length : Int)
       ·rw [if_pos c11] at H
        have c11b0 : decide (x27_2 < (t108.length : Int)) = true := decide_eq_true c11
        clear c11
        by_cases c12 : 0 ≤ x27_2
        ·rw [if_pos c12] at H
         have c12b0 : decide (0 ≤ x27_2) = true := decide_eq_true c12
         clear c12
         by_cases c13 : x27_2 < (t108.length : Int)
         ·rw [if_pos c13] at H
          have c13b0 : decide (x27_2 < (t108.length : Int)) = true := decide_eq_true c13
          clear c13
          replace H := Option.bind_eq_some_iff.mp H
          obtain ⟨t114, A140, H⟩ := H
          have A14 := Aside0.mk A140
          clear A140
          by_cases c15 : (t114.length : Int) = 11
          ·rw [if_pos c15] at H
           have c15b0 : ((t114.length : Int) == 11) = true := beq_iff_eq.mpr c15
           have c15b1 : ((t114.length : Int) != 11) = false := bne_eq_false_iff_eq.mpr c15
           clear c15
           by_cases c16 : 0 < (t114.length : Int)
           ·rw [if_pos c16] at H
            have c16b0 : decide (0 < (t114.length : Int)) = true := decide_eq_true c16
            have c16b1 : decide (0 < t114.length) = true := decide_eq_true (by omega)
            clear c16
            by_cases c17 : 1 ≤ (t114.length : Int)
            ·rw [if_pos c17] at H
             have c17b0 := eq_true c17
             have c17b1 : decide (1 ≤ (t114.length : Int)) = true := decide_eq_true c17
             clear c17
             obtain ⟨y119, hy119⟩ : ∃ y_ : List ByteArray, y_ = (t114.drop 1) := ⟨_, rfl⟩
             replace H : (spec_RouteRead.l1 k2 x5_2 t108 (t108.length : Int) x27_2 y119 (y119.length : Int) 0 (rdOf ByteArray.empty t114 0) ([] : List Int)) = some (r1, r2, r3) := by first | (rw [hy119]; with_reducible exact H) | (have H2_ := (Option.bind_some _ _).symm.trans H; rw [hy119]; with_reducible exact H2_) | (have H2_ := (Option.bind_some _ _).symm.trans H; with_reducible exact H2_) | with_reducible exact H | (rw [hy119]; exact H) | exact H
             have Ny119 := Aside0.mk hy119
             clear hy119
             have H' := Aside0.mk H
             clear H
             have p113 : 0 ≤ (x27_2 : Int) := of_decide_eq_true (by first | (with_reducible assumption) | assumption)
             have q113 : x27_2 < (t108.length : Int) := of_decide_eq_true (by first | (with_reducible assumption) | assumption)
             obtain ⟨ad113, e113, hx113_0⟩ := Kd.at_string (Kd.R_reads' HO_25.out).2.2 x27_2 p113 q113
             cases e113
             replace p113 := eq_true p113
             replace q113 := eq_true q113
             go_wp2_with (first | ((with_reducible refine gate_callee (f := 39) rfl ?_); refine goesL_ (some 32) rfl rfl Tryz.func39 (by kernel_rfl) rfl #[.string (rdOf ByteArray.empty t108 x27_2)] rfl (by (try simp only [List.map_toArray, List.map_cons, List.map_nil]); first | done | rfl | (simp only [List.length_drop, List.length_take]; rfl)) ?_; (with_reducible refine (spec_Fields.calls k2 (rdOf ByteArray.empty t108 x27_2) t114 _ A14.out).mono ?_); rintro e w18 ⟨v115, rfl, ho0, hb⟩; refine ⟨_, rfl, ?_⟩; have n0_ := Aside0.mk (Kd.S_elder' (by (with_reducible repeat (first | apply Kd.S_alloc | apply Kd.S_drewN | apply Kd.S_drew)); exact HO_5.out) (Kd.R_base ho0) hb); have n1_ := Aside0.mk (Kd.R_elder' (by (with_reducible repeat (first | apply Kd.R_alloc | apply Kd.R_drewN | apply Kd.R_drew)); exact HO_25.out) (Kd.R_base ho0) hb); have n2_ := Aside0.mk (Kd.R_lower (Kd.R_new' ho0 (Kd.R_lt (by (with_reducible repeat (first | apply Kd.R_alloc | apply Kd.R_drewN | apply Kd.R_drew)); exact HO_25.out))) (below_size belH)); have n3_ := Aside0.mk (below_step belH hb); clear HO_5; clear HO_25; clear HB; have HO_5 := n0_; have HO_25 := n1_; have HO116 := n2_; have HB := n3_; clear n0_ n1_ n2_ n3_; (try clear hb); (try clear hb2); (try clear hk); (try clear hi); (try clear ho0); obtain ⟨Ao19, co19, eo19⟩ := Kd.R_slice HO116.out; subst eo19; have p117 : 0 ≤ (0 : Int) := (by omega); have q117 : 0 < (t114.length : Int) := of_decide_eq_true (by first | (with_reducible assumption) | assumption); obtain ⟨ad117, e117, hx117_0⟩ := Kd.at_string (Kd.R_reads' HO116.out).2.2 0 p117 q117; cases e117; have qi117 : (0 < t114.length) = True := eq_true (by omega); (try rw [show ((0 : Int)).toNat = 0 from rfl] at hx117_0); (try rw [Addr.add_zero'] at hx117_0); replace p117 := eq_true p117; replace q117 := eq_true q117) | ((with_reducible refine gate_dst (N := 9) rfl ?_); refine box_event ?hg (N := 9) ?hd (cs := #[.string (⟨#[]⟩ : ByteArray), .slice none 0 0, .slice none 0 0]) (t := 48) ?hr ?_; (case hd => rfl); (case hg => rfl); (case hr => first | (go_simp; done) | (go_simp; rfl)); intro gb118 hg w20 hbox hb; have n0_ := Aside0.mk (Kd.S_below (Kd.S_elderB (by (with_reducible repeat (first | apply Kd.S_alloc | apply Kd.S_drewN | apply Kd.S_drew)); exact HO_5.out) gb118 (Nat.le_of_eq hg.symm)) hb); have n1_ := Aside0.mk (Kd.R_below (by (with_reducible repeat (first | apply Kd.R_alloc | apply Kd.R_drewN | apply Kd.R_drew)); exact HO_25.out) hb); have n2_ := Aside0.mk (Kd.R_below (by (with_reducible repeat (first | apply Kd.R_alloc | apply Kd.R_drewN | apply Kd.R_drew)); exact HO116.out) hb); have n3_ := Aside0.mk (below_step belH hb); have n4_ := Aside0.mk (hbox); have n5_ := Aside0.mk ((by rw [hg]; exact (below_size belH) : w.heap.size ≤ gb118)); have n6_ := Aside0.mk ((by rw [hg]; exact (below_size belH) : w.heap.size ≤ gb118)); clear HO_5; clear HO_25; clear HO116; clear HB; have HO_5 := n0_; have HO_25 := n1_; have HO116 := n2_; have HB := n3_; have BK118 := n4_; have GW118 := n5_; have GE118 := n6_; clear n0_ n1_ n2_ n3_ n4_ n5_ n6_; clear hb hbox hg; obtain ⟨hcz21_0, hcz21_1, hcz21_2, hfz21_0, hfz21_1, hfz21_2⟩ := rows3 (w := w20) BK118) | ((with_reducible refine gate_store (t := 48) (p := 9) rfl ?_); refine store_event (t := 48) (p := 9) (v := ?vo_w22) (w1 := (((w20.setCell ⟨gb118, 0, none⟩ (.string (rdOf ByteArray.empty t114 0))).setCell ⟨gb118, 1, none⟩ (.slice none 0 0)).setCell ⟨gb118, 2, none⟩ (.slice none 0 0))) ?hg ?ho ?hn ?hr ?_; (case ho => rfl); (case hg => rfl); (case hn => rfl); (case hr => first | (go_simp; done) | (go_simp; rfl)); intro w22 hw; have n0_ : Aside0 (Kd.S k48 48 w22 w.heap.size (fun k_ => some k_ ≠ (.slice (some ad113) t108.length co10 : Value).ownBlock ∧ some k_ ≠ (.slice (some ad117) t114.length co19 : Value).ownBlock ∧ k_ ≠ gb118) u5 x5_2) := ⟨(by rw [hw]; exact (by (with_reducible repeat (first | apply Kd.S_alloc | apply Kd.S_drewN | apply Kd.S_drew)); exact Kd.S_mono (Kd.S_far (p := ⟨gb118, 2, none⟩) (Kd.S_far (p := ⟨gb118, 1, none⟩) (Kd.S_far (p := ⟨gb118, 0, none⟩) (Kd.S_mono HO_5.out (fun k_ hk => (⟨hk, hk.2⟩ : _ ∧ k_ ≠ gb118))) (fun _ hk => hk.2) (.string (rdOf ByteArray.empty t114 0))) (fun _ hk => hk.2) (.slice none 0 0)) (fun _ hk => hk.2) (.slice none 0 0)) (fun _ hk => ⟨hk.1.1.1, ⟨hk.1.1.2, hk.1.2⟩⟩)))⟩; have n1_ : Aside0 (Kd.R Kd.string 9 w22 w.heap.size (fun k_ => some k_ ≠ (.slice (some ad117) t114.length co19 : Value).ownBlock) (.slice (some ad113) t108.length co10) t108) := ⟨(by rw [hw]; exact (by (with_reducible repeat (first | apply Kd.R_alloc | apply Kd.R_drewN | apply Kd.R_drew)); exact Kd.R_mono (Kd.R_far (p := ⟨gb118, 2, none⟩) (Kd.R_far (p := ⟨gb118, 1, none⟩) (Kd.R_far (p := ⟨gb118, 0, none⟩) (Kd.R_types HO_25.out BK118.out (by decide)) (fun _ hk => hk.2) (.string (rdOf ByteArray.empty t114 0))) (fun _ hk => hk.2) (.slice none 0 0)) (fun _ hk => hk.2) (.slice none 0 0)) (fun _ hk => hk.1.2)))⟩; have n2_ : Aside0 (Kd.R Kd.string 9 w22 w.heap.size (fun k_ => some k_ ≠ (.slice (some ad113) t108.length co10 : Value).ownBlock) (.slice (some ad117) t114.length co19) t114) := ⟨(by rw [hw]; exact (by (with_reducible repeat (first | apply Kd.R_alloc | apply Kd.R_drewN | apply Kd.R_drew)); exact Kd.R_mono (Kd.R_far (p := ⟨gb118, 2, none⟩) (Kd.R_far (p := ⟨gb118, 1, none⟩) (Kd.R_far (p := ⟨gb118, 0, none⟩) (Kd.R_types HO116.out BK118.out (by decide)) (fun _ hk => hk.2) (.string (rdOf ByteArray.empty t114 0))) (fun _ hk => hk.2) (.slice none 0 0)) (fun _ hk => hk.2) (.slice none 0 0)) (fun _ hk => hk.1.2)))⟩; have n3_ : Aside0 (w22.heap[gb118]? = some (.cells #[.string (rdOf ByteArray.empty t114 0), .slice none 0 0, .slice none 0 0] 48 (0, 0))) := ⟨(by rw [hw]; exact (by refine bY ?_; refine blk_put (cs := #[.string (rdOf ByteArray.empty t114 0), .slice none 0 0, .slice none 0 0]) ?_ 2 _ rfl; refine bY ?_; refine blk_put (cs := #[.string (rdOf ByteArray.empty t114 0), .slice none 0 0, .slice none 0 0]) ?_ 1 _ rfl; refine bY ?_; refine blk_put (cs := #[.string (⟨#[]⟩ : ByteArray), .slice none 0 0, .slice none 0 0]) ?_ 0 _ rfl; refine bY ?_; exact BK118.out))⟩; have n4_ : Aside0 (Below w.heap.size w w22) := ⟨(by rw [hw]; exact belS)⟩; clear hw; clear HO_5; clear HO_25; clear HO116; clear BK118; clear HB; have HO_5 := n0_; have HO_25 := n1_; have HO116 := n2_; have BK118 := n3_; have HB := n4_; clear n0_ n1_ n2_ n3_ n4_; have q23 : (1 : Int) ≤ ((t114.length : Int) : Int) := of_decide_eq_true (by first | (with_reducible assumption) | assumption); obtain ⟨i023, hi023, _, hsz23, _⟩ := info_parts info9; have hroom23 : t114.length ≤ co19 := (Kd.R_reads' HO116.out).2.1; have hC23 : Kd.C Kd.string _ (some ad117) t114.length t114 := (Kd.R_reads' HO116.out).2.2; have hcut23 := cut_from (P := Tryz.prog) 42 9 .i64 Tryz.underlying42 hi023 1 hsz23 (some ad117) t114.length co19 1 (by omega) q23; have hr23 := Kd.C_drop (m := (1 : Int).toNat) (c := co19) hC23 (by omega) hroom23; obtain ⟨A23, hA23⟩ : ∃ A1, A1 = (if co19 = (1 : Int).toNat then (some ad117) else ((some ad117) : Option Addr).map (·.add ((1 : Int).toNat * 1))) := ⟨_, rfl⟩; obtain ⟨c23, hc23⟩ : ∃ c1, c1 = co19 - (1 : Int).toNat := ⟨_, rfl⟩; have hy23 : y119.length = t114.length - (1 : Int).toNat := (by rw [Ny119.out, List.length_drop] <;> omega); rw [show (t114).drop (1 : Int).toNat = y119 from Ny119.out.symm] at hr23; replace hr23 : Kd.C Kd.string _ A23 y119.length y119 := (by rw [hA23]; exact hr23); rw [← hy23, ← hA23, ← hc23] at hcut23; have HR122 := Aside0.mk hr23; have HC122 := Aside0.mk (show y119.length ≤ c23 from by rw [hy23, hc23]; exact Nat.sub_le_sub_right hroom23 _); clear hr23 hC23 hroom23 hi023 hsz23 hc23; have KY23 := Aside0.mk hy23; have KA23 := Aside0.mk hA23; clear hy23 hA23; have KL23 := Aside0.mk (show 1 ≤ t114.length from by omega); replace q23 := eq_true q23))
             go_loopg [43] k2 (fun kq v43 w' => ∃ (x43_3 : Int) (x119001_3 : List Int) (u119001 : Value), v43 = .int .i64 x43_3 ∧ Aside0 (spec_RouteRead.l1 kq x5_2 t108 (t108.length : Int) x27_2 y119 (y119.length : Int) x43_3 (rdOf ByteArray.empty t114 0) x119001_3 = some (r1, r2, r3)) ∧ Aside0 (kq ≤ k2) ∧ Aside0 (Kd.S k48 48 w' w.heap.size (fun k_ => some k_ ≠ ((.slice (some ad113) t108.length co10) : Value).ownBlock ∧ some k_ ≠ (u119001 : Value).ownBlock ∧ k_ ≠ gb118) u5 x5_2) ∧ Aside0 (Kd.R Kd.string 9 w' w.heap.size (fun _ => True) (.slice (some ad113) t108.length co10) t108) ∧ Aside0 (Kd.R Kd.string 9 w' w.heap.size (fun _ => True) (.slice (some ad117) t114.length co19) t114) ∧ Aside0 (Kd.R (Kd.int .u64) 31 w' w.heap.size (fun _ => True) u119001 x119001_3) ∧ Aside0 (w'.heap[gb118]? = some (.cells #[.string (rdOf ByteArray.empty t114 0), u119001, (.slice none 0 0)] 48 (0, 0))) ∧ Aside0 (Below w.heap.size w w'))
             case atStart => exact ⟨(0), (([] : List Int)), (.slice none 0 0), (by first | rfl | (simp; done) | (simp [*]; done) | (simp [bne_nil]; done) | (simp [bne_nil, *]; done)), H', ⟨Nat.le_refl _⟩, ⟨by (with_reducible repeat (first | apply Kd.S_alloc | apply Kd.S_drewN | apply Kd.S_drew)); exact Kd.S_mono HO_5.out (fun _ hk => ⟨hk.1, ⟨(by simp [Value.ownBlock]), hk.2.2⟩⟩)⟩, ⟨by (with_reducible repeat (first | apply Kd.R_alloc | apply Kd.R_drewN | apply Kd.R_drew)); exact Kd.R_mono HO_25.out (fun _ hk => trivial)⟩, ⟨by (with_reducible repeat (first | apply Kd.R_alloc | apply Kd.R_drewN | apply Kd.R_drew)); exact Kd.R_mono HO116.out (fun _ hk => trivial)⟩, ⟨by first | exact Kd.R_nil _ _ _ _ _ | exact Kd.N_nil _ _ _ _ _ | exact Kd.V_nil _ _ _ _ _ | exact Kd.Q_nil _ _ _ _ _ | exact Kd.S_nil _ _ _ _ _⟩, ⟨by refine bY ?_; exact BK118.out⟩, ⟨by repeat (first | (with_reducible first | exact HB.out | apply below_alloc | apply pw_below_drewN | apply below_drew1 | refine below_set ?_ GE118.out) | exact HB.out)⟩⟩
             case round =>
              clear H'
              try clear c1
              try clear p1
              try clear q1
              try clear hx1
              try clear qi1
              try clear c2
              try clear p2
              try clear q2
              try clear c3
              try clear c4
              try clear c5
              try clear c6
              try clear c7
              try clear c7b0
              try clear c7b1
              try clear c8
              try clear c11
              try clear c11b0
              try clear p11
              try clear q11
              try clear hx11
              try clear qi11
              try clear c12
              try clear c12b0
              try clear c13
              try clear c13b0
              try clear c15
              try clear c15b0
              try clear c15b1
              try clear c16
              try clear c16b0
              try clear c16b1
              try clear c17
              try clear c17b0
              try clear c17b1
              try clear c23
              try clear q23
              try clear hcz21_0
              try clear hcz21_1
              try clear hcz21_2
              try clear hfz21_0
              try clear hfz21_1
              try clear hfz21_2
              try clear hx113_0
              try clear hx117_0
              try clear p113
              try clear p117
              try clear p2
              try clear q113
              try clear q117
              try clear q23
              obtain ⟨x43_3, x119001_3, u119001, rfl, HA, HK3, HO_5, HO_25, HO_F, HO_119001, BK118, HB⟩ := hrel
              cases gk with
              | zero => exact absurd HA.out (by simp [spec_RouteRead.l1])
              | succ k3 =>
               have H := HA.out
               clear HA
               simp only [spec_RouteRead.l1] at H
               by_cases c24 : x43_3 < (y119.length : Int)
               ·rw [if_pos c24] at H
                have c24b0 : decide (x43_3 < (y119.length : Int)) = true := decide_eq_true c24
                clear c24
                by_cases c25 : 0 ≤ x43_3
                ·rw [if_pos c25] at H
                 have c25b0 : decide (0 ≤ x43_3) = true := decide_eq_true c25
                 clear c25
                 by_cases c26 : x43_3 < (y119.length : Int)
                 ·rw [if_pos c26] at H
                  have c26b0 : decide (x43_3 < (y119.length : Int)) = true := decide_eq_true c26
                  clear c26
                  have HC27 := Aside0.mk H
                  clear H
                  have p126 : 0 ≤ (x43_3 : Int) := of_decide_eq_true (by first | (with_reducible assumption) | assumption)
                  have q126 : x43_3 < (y119.length : Int) := of_decide_eq_true (by first | (with_reducible assumption) | assumption)
                  have hr23 := Kd.C_drop (m := (1 : Int).toNat) (c := co19) (Kd.R_reads' HO_F.out).2.2 (by have := KL23.out; exact this) (Kd.R_reads' HO_F.out).2.1
                  rw [show (t114).drop (1 : Int).toNat = y119 from Ny119.out.symm] at hr23
                  replace hr23 : Kd.C Kd.string _ A23 y119.length y119 := (by rw [KA23.out]; exact hr23)
                  obtain ⟨ad126, e126, hx126_0⟩ := Kd.at_string hr23 x43_3 p126 q126
                  clear hr23
                  cases e126
                  replace p126 := eq_true p126
                  replace q126 := eq_true q126
                  go_upto_region 15 with (fail)
                  go_cut [53] (fun v53 wc => ∃ (kq : Nat) (x53_26 : Bool), v53 = .bool x53_26 ∧ Aside0 (spec_RouteRead.j3 kq x5_2 (rdOf ByteArray.empty y119 x43_3) 10 t108 (t108.length : Int) x27_2 y119 (y119.length : Int) x43_3 x53_26 (rdOf ByteArray.empty t114 0) x119001_3 = some (r1, r2, r3)) ∧ Aside0 (kq ≤ k3) ∧ Aside0 (Kd.S k48 48 wc w.heap.size (fun k_ => some k_ ≠ ((.slice (some ad113) t108.length co10) : Value).ownBlock ∧ some k_ ≠ (u119001 : Value).ownBlock ∧ k_ ≠ gb118) u5 x5_2) ∧ Aside0 (Kd.R Kd.string 9 wc w.heap.size (fun _ => True) (.slice (some ad113) t108.length co10) t108) ∧ Aside0 (Kd.R Kd.string 9 wc w.heap.size (fun _ => True) (.slice (some ad117) t114.length co19) t114) ∧ Aside0 (Kd.R (Kd.int .u64) 31 wc w.heap.size (fun _ => True) u119001 x119001_3) ∧ Aside0 (wc.heap[gb118]? = some (.cells #[.string (rdOf ByteArray.empty t114 0), u119001, (.slice none 0 0)] 48 (0, 0))) ∧ Aside0 (Below w.heap.size w wc))
                  case first =>
                   have H := HC27.out
                   clear HC27
                   by_cases c28 : x43_3 < 3
                   ·rw [if_pos c28] at H
                    have c28b0 : decide (x43_3 < 3) = true := decide_eq_true c28
                    clear c28
                    (first | rw [c28b0] | (simp only [i64_w, i32_w]; rw [c28b0]) | skip)
                    have H' := Aside0.mk H
                    clear H
                    go_wp2
                    go_meet
                    case rel => exact ⟨_, (true), (by first | rfl | (simp; done) | (simp [*]; done) | (simp [bne_nil]; done) | (simp [bne_nil, *]; done)), H', ⟨by have := HJ1.out; have := HK2.out; have := HK3.out; first | omega | exact Nat.le_refl _⟩, ⟨by (with_reducible repeat (first | apply Kd.S_alloc | apply Kd.S_drewN | apply Kd.S_drew)); exact HO_5.out⟩, ⟨by (with_reducible repeat (first | apply Kd.R_alloc | apply Kd.R_drewN | apply Kd.R_drew)); exact HO_25.out⟩, ⟨by (with_reducible repeat (first | apply Kd.R_alloc | apply Kd.R_drewN | apply Kd.R_drew)); exact HO_F.out⟩, ⟨by (with_reducible repeat (first | apply Kd.R_alloc | apply Kd.R_drewN | apply Kd.R_drew)); exact HO_119001.out⟩, ⟨by refine bY ?_; exact BK118.out⟩, ⟨by repeat (first | (with_reducible first | exact HB.out | apply below_alloc | apply pw_below_drewN | apply below_drew1 | refine below_set ?_ GE118.out) | exact HB.out)⟩⟩
                   ·rw [if_neg c28] at H
                    have c28b0 : decide (x43_3 < 3) = false := decide_eq_false c28
                    clear c28
                    (first | rw [c28b0] | (simp only [i64_w, i32_w]; rw [c28b0]) | skip)
                    have H' := Aside0.mk H
                    clear H
                    go_wp2
                    go_meet
                    case rel => exact ⟨_, ((x43_3 == 6)), (by first | rfl | (simp; done) | (simp [*]; done) | (simp [bne_nil]; done) | (simp [bne_nil, *]; done)), H', ⟨by have := HJ1.out; have := HK2.out; have := HK3.out; first | omega | exact Nat.le_refl _⟩, ⟨by (with_reducible repeat (first | apply Kd.S_alloc | apply Kd.S_drewN | apply Kd.S_drew)); exact HO_5.out⟩, ⟨by (with_reducible repeat (first | apply Kd.R_alloc | apply Kd.R_drewN | apply Kd.R_drew)); exact HO_25.out⟩, ⟨by (with_reducible repeat (first | apply Kd.R_alloc | apply Kd.R_drewN | apply Kd.R_drew)); exact HO_F.out⟩, ⟨by (with_reducible repeat (first | apply Kd.R_alloc | apply Kd.R_drewN | apply Kd.R_drew)); exact HO_119001.out⟩, ⟨by refine bY ?_; exact BK118.out⟩, ⟨by repeat (first | (with_reducible first | exact HB.out | apply below_alloc | apply pw_below_drewN | apply below_drew1 | refine below_set ?_ GE118.out) | exact HB.out)⟩⟩
                  case rest =>
                   clear HC27
                   try clear c1
                   try clear p1
                   try clear q1
                   try clear hx1
                   try clear qi1
                   try clear c2
                   try clear p2
                   try clear q2
                   try clear c3
                   try clear c4
                   try clear c5
                   try clear c6
                   try clear c7
                   try clear c7b0
                   try clear c7b1
                   try clear c8
                   try clear c11
                   try clear c11b0
                   try clear p11
                   try clear q11
                   try clear hx11
                   try clear qi11
                   try clear c12
                   try clear c12b0
                   try clear p12
                   try clear q12
                   try clear hx12
                   try clear c13
                   try clear c13b0
                   try clear c15
                   try clear c15b0
                   try clear c15b1
                   try clear c16
                   try clear c16b0
                   try clear c16b1
                   try clear c17
                   try clear c17b0
                   try clear c17b1
                   try clear c23
                   try clear q23
                   try clear c24
                   try clear c24b0
                   try clear c25
                   try clear c25b0
                   try clear c26
                   try clear c26b0
                   try clear c28
                   try clear c28b0
                   try clear hcz21_0
                   try clear hcz21_1
                   try clear hcz21_2
                   try clear hfz21_0
                   try clear hfz21_1
                   try clear hfz21_2
                   try clear hx113_0
                   try clear hx117_0
                   try clear hx126_0
                   try clear p1
                   try clear p11
                   try clear p113
                   try clear p117
                   try clear p126
                   try clear p2
                   try clear q1
                   try clear q11
                   try clear q113
                   try clear q117
                   try clear q126
                   try clear q2
                   try clear q23
                   obtain ⟨kq, x53_26, rfl, HA, HJ26, HO_5, HO_25, HO_F, HO_119001, BK118, HB⟩ := hcut
                   cases kq with
                   | zero => exact absurd HA.out (by simp [spec_RouteRead.j3])
                   | succ kj26 =>
                    have H := HA.out
                    clear HA
                    simp only [spec_RouteRead.j3] at H
                    have HC29 := Aside0.mk H
                    clear H
                    go_upto_if 53 with (fail)
                    go_cut [12] (fun v12 wc => ∃ (kq : Nat) (x12_28 : Int), v12 = .int .u64 x12_28 ∧ Aside0 (spec_RouteRead.j4 kq x5_2 (rdOf ByteArray.empty y119 x43_3) x12_28 t108 (t108.length : Int) x27_2 y119 (y119.length : Int) x43_3 (rdOf ByteArray.empty t114 0) x119001_3 = some (r1, r2, r3)) ∧ Aside0 (kq ≤ kj26) ∧ Aside0 (Kd.S k48 48 wc w.heap.size (fun k_ => some k_ ≠ ((.slice (some ad113) t108.length co10) : Value).ownBlock ∧ some k_ ≠ (u119001 : Value).ownBlock ∧ k_ ≠ gb118) u5 x5_2) ∧ Aside0 (Kd.R Kd.string 9 wc w.heap.size (fun _ => True) (.slice (some ad113) t108.length co10) t108) ∧ Aside0 (Kd.R Kd.string 9 wc w.heap.size (fun _ => True) (.slice (some ad117) t114.length co19) t114) ∧ Aside0 (Kd.R (Kd.int .u64) 31 wc w.heap.size (fun _ => True) u119001 x119001_3) ∧ Aside0 (wc.heap[gb118]? = some (.cells #[.string (rdOf ByteArray.empty t114 0), u119001, (.slice none 0 0)] 48 (0, 0))) ∧ Aside0 (Below w.heap.size w wc))
                    case first =>
                     have H := HC29.out
                     clear HC29
                     by_cases c30 : x53_26 = true
                     ·subst c30
                      have H1 : (spec_RouteRead.j4 kj26 x5_2 (rdOf ByteArray.empty y119 x43_3) 16 t108 (t108.length : Int) x27_2 y119 (y119.length : Int) x43_3 (rdOf ByteArray.empty t114 0) x119001_3) = some (r1, r2, r3) := by rw [if_pos rfl] at H; exact H
                      clear H
                      have H := H1
                      clear H1
                      have H' := Aside0.mk H
                      clear H
                      go_wp2
                      go_meet
                      case rel => exact ⟨_, (16), (by first | rfl | (simp; done) | (simp [*]; done) | (simp [bne_nil]; done) | (simp [bne_nil, *]; done)), H', ⟨by have := HJ1.out; have := HK2.out; have := HK3.out; have := HJ26.out; first | omega | exact Nat.le_refl _⟩, ⟨by (with_reducible repeat (first | apply Kd.S_alloc | apply Kd.S_drewN | apply Kd.S_drew)); exact HO_5.out⟩, ⟨by (with_reducible repeat (first | apply Kd.R_alloc | apply Kd.R_drewN | apply Kd.R_drew)); exact HO_25.out⟩, ⟨by (with_reducible repeat (first | apply Kd.R_alloc | apply Kd.R_drewN | apply Kd.R_drew)); exact HO_F.out⟩, ⟨by (with_reducible repeat (first | apply Kd.R_alloc | apply Kd.R_drewN | apply Kd.R_drew)); exact HO_119001.out⟩, ⟨by refine bY ?_; exact BK118.out⟩, ⟨by repeat (first | (with_reducible first | exact HB.out | apply below_alloc | apply pw_below_drewN | apply below_drew1 | refine below_set ?_ GE118.out) | exact HB.out)⟩⟩
                     ·replace c30 := Bool.eq_false_iff.mpr c30
                      subst c30
                      have H1 : (spec_RouteRead.j4 kj26 x5_2 (rdOf ByteArray.empty y119 x43_3) 10 t108 (t108.length : Int) x27_2 y119 (y119.length : Int) x43_3 (rdOf ByteArray.empty t114 0) x119001_3) = some (r1, r2, r3) := by rw [if_neg (show ¬ (false = true) by decide)] at H; exact H
                      clear H
                      have H := H1
                      clear H1
                      have H' := Aside0.mk H
                      clear H
                      go_wp2
                      go_meet
                      case rel => exact ⟨_, (10), (by first | rfl | (simp; done) | (simp [*]; done) | (simp [bne_nil]; done) | (simp [bne_nil, *]; done)), H', ⟨by have := HJ1.out; have := HK2.out; have := HK3.out; have := HJ26.out; first | omega | exact Nat.le_refl _⟩, ⟨by (with_reducible repeat (first | apply Kd.S_alloc | apply Kd.S_drewN | apply Kd.S_drew)); exact HO_5.out⟩, ⟨by (with_reducible repeat (first | apply Kd.R_alloc | apply Kd.R_drewN | apply Kd.R_drew)); exact HO_25.out⟩, ⟨by (with_reducible repeat (first | apply Kd.R_alloc | apply Kd.R_drewN | apply Kd.R_drew)); exact HO_F.out⟩, ⟨by (with_reducible repeat (first | apply Kd.R_alloc | apply Kd.R_drewN | apply Kd.R_drew)); exact HO_119001.out⟩, ⟨by refine bY ?_; exact BK118.out⟩, ⟨by repeat (first | (with_reducible first | exact HB.out | apply below_alloc | apply pw_below_drewN | apply below_drew1 | refine below_set ?_ GE118.out) | exact HB.out)⟩⟩
                    case rest =>
                     clear HC29
                     try clear c1
                     try clear p1
                     try clear q1
                     try clear hx1
                     try clear qi1
                     try clear c2
                     try clear p2
                     try clear q2
                     try clear c3
                     try clear c4
                     try clear c5
                     try clear c6
                     try clear c7
                     try clear c7b0
                     try clear c7b1
                     try clear c8
                     try clear c11
                     try clear c11b0
                     try clear p11
                     try clear q11
                     try clear hx11
                     try clear qi11
                     try clear c12
                     try clear c12b0
                     try clear p12
                     try clear q12
                     try clear hx12
                     try clear c13
                     try clear c13b0
                     try clear c15
                     try clear c15b0
                     try clear c15b1
                     try clear c16
                     try clear c16b0
                     try clear c16b1
                     try clear c17
                     try clear c17b0
                     try clear c17b1
                     try clear c23
                     try clear q23
                     try clear c24
                     try clear c24b0
                     try clear c25
                     try clear c25b0
                     try clear c26
                     try clear c26b0
                     try clear c28
                     try clear c28b0
                     try clear c30
                     try clear hcz21_0
                     try clear hcz21_1
                     try clear hcz21_2
                     try clear hfz21_0
                     try clear hfz21_1
                     try clear hfz21_2
                     try clear hx113_0
                     try clear hx117_0
                     try clear hx126_0
                     try clear p1
                     try clear p11
                     try clear p113
                     try clear p117
                     try clear p12
                     try clear p126
                     try clear p2
                     try clear q1
                     try clear q11
                     try clear q113
                     try clear q117
                     try clear q12
                     try clear q126
                     try clear q2
                     try clear q23
                     obtain ⟨kq, x12_28, rfl, HA, HJ28, HO_5, HO_25, HO_F, HO_119001, BK118, HB⟩ := hcut
                     cases kq with
                     | zero => exact absurd HA.out (by simp [spec_RouteRead.j4])
                     | succ kj28 =>
                      have H := HA.out
                      clear HA
                      simp only [spec_RouteRead.j4] at H
                      replace H := Option.bind_eq_some_iff.mp H
                      obtain ⟨⟨t127, t128⟩, A310, H⟩ := H
                      have A31 := Aside0.mk A310
                      clear A310
                      by_cases c32 : t128 = true
                      ·subst c32
                       have H1 : (if x12_28 = 10 then ((spec_Text.f kj28 t127).bind fun t129 => (if t129.toList = (rdOf ByteArray.empty y119 x43_3).toList then (if x119001_3.length < 17592186044416 then (spec_RouteRead.l1 kj28 x5_2 t108 (t108.length : Int) x27_2 y119 (y119.length : Int) (wrap64 (x43_3 + 1)) (rdOf ByteArray.empty t114 0) (x119001_3 ++ [t127])) else (none)) else (some (([] : List (S48)), false, 2)))) else (if x119001_3.length < 17592186044416 then (spec_RouteRead.l1 kj28 x5_2 t108 (t108.length : Int) x27_2 y119 (y119.length : Int) (wrap64 (x43_3 + 1)) (rdOf ByteArray.empty t114 0) (x119001_3 ++ [t127])) else (none))) = some (r1, r2, r3) := by rw [if_pos rfl] at H; exact H
                       clear H
                       have H := H1
                       clear H1
                       by_cases c33 : x12_28 = 10
                       ·rw [if_pos c33] at H
                        have c33b0 : (x12_28 == 10) = true := beq_iff_eq.mpr c33
                        have c33b1 : (x12_28 != 10) = false := bne_eq_false_iff_eq.mpr c33
                        clear c33
                        replace H := Option.bind_eq_some_iff.mp H
                        obtain ⟨t129, A340, H⟩ := H
                        have A34 := Aside0.mk A340
                        clear A340
                        by_cases c35 : t129.toList = (rdOf ByteArray.empty y119 x43_3).toList
                        ·rw [if_pos c35] at H
                         have c35b0 : (t129.toList == (rdOf ByteArray.empty y119 x43_3).toList) = true := beq_iff_eq.mpr c35
                         have c35b1 : (t129.toList != (rdOf ByteArray.empty y119 x43_3).toList) = false := bne_eq_false_iff_eq.mpr c35
                         clear c35
                         by_cases c36 : x119001_3.length < 17592186044416
                         ·rw [if_pos c36] at H
                          have LMc36 := Aside0.mk c36
                          clear c36
                          obtain ⟨y130, hy130⟩ : ∃ y_ : List Int, y_ = (x119001_3 ++ [t127]) := ⟨_, rfl⟩
                          replace H : (spec_RouteRead.l1 kj28 x5_2 t108 (t108.length : Int) x27_2 y119 (y119.length : Int) (wrap64 (x43_3 + 1)) (rdOf ByteArray.empty t114 0) y130) = some (r1, r2, r3) := by first | (rw [hy130]; with_reducible exact H) | (have H2_ := (Option.bind_some _ _).symm.trans H; rw [hy130]; with_reducible exact H2_) | (have H2_ := (Option.bind_some _ _).symm.trans H; with_reducible exact H2_) | with_reducible exact H | (rw [hy130]; exact H) | exact H
                          have Ny130 := Aside0.mk hy130
                          clear hy130
                          have H' := Aside0.mk H
                          clear H
                          go_wp2_with (first | ((with_reducible refine gate_callee (f := 81) rfl ?_); refine goesL_ (some 57) rfl rfl Tryz.func81 (by kernel_rfl) rfl #[.string (rdOf ByteArray.empty y119 x43_3), .int .u64 x12_28] rfl (by (try simp only [List.map_toArray, List.map_cons, List.map_nil]); first | done | rfl | (simp only [List.length_drop, List.length_take]; rfl)) ?_; (with_reducible refine (spec_Number.calls kj28 (rdOf ByteArray.empty y119 x43_3) x12_28 t127 true _ A31.out).mono ?_); rintro e w' ⟨rfl, ⟨nd, rfl⟩⟩; refine ⟨_, rfl, ?_⟩; (try (rw [drewN_self wc]; generalize hq_ : World.drewN wc _ = wc; have n0_ : Aside0 (Kd.R (Kd.int .u64) 31 wc w.heap.size (fun _ => True) u119001 x119001_3) := ⟨by rw [← hq_]; exact (by (with_reducible repeat (first | apply Kd.R_alloc | apply Kd.R_drewN | apply Kd.R_drew)); exact HO_119001.out)⟩; have n1_ : Aside0 (Kd.R Kd.string 9 wc w.heap.size (fun _ => True) (.slice (some ad113) t108.length co10) t108) := ⟨by rw [← hq_]; exact (by (with_reducible repeat (first | apply Kd.R_alloc | apply Kd.R_drewN | apply Kd.R_drew)); exact HO_25.out)⟩; have nF_ : Aside0 (Kd.R Kd.string 9 wc w.heap.size (fun _ => True) (.slice (some ad117) t114.length co19) t114) := ⟨by rw [← hq_]; exact (by (with_reducible repeat (first | apply Kd.R_alloc | apply Kd.R_drewN | apply Kd.R_drew)); exact HO_F.out)⟩; have n2_ : Aside0 (Kd.S k48 48 wc w.heap.size (fun k_ => some k_ ≠ (u119001 : Value).ownBlock ∧ some k_ ≠ (.slice (some ad113) t108.length co10 : Value).ownBlock ∧ k_ ≠ gb118) u5 x5_2) := ⟨by rw [← hq_]; exact (by (with_reducible repeat (first | apply Kd.S_alloc | apply Kd.S_drewN | apply Kd.S_drew)); exact Kd.S_mono HO_5.out (fun _ hk => ⟨hk.2.1, ⟨hk.1, hk.2.2⟩⟩))⟩; have n3_ : Aside0 (wc.heap[gb118]? = some (.cells #[.string (rdOf ByteArray.empty t114 0), u119001, .slice none 0 0] 48 (0, 0))) := ⟨by rw [← hq_]; exact (by refine bY ?_; exact BK118.out)⟩; have n4_ : Aside0 (Below w.heap.size w wc) := ⟨by rw [← hq_]; exact belS⟩; clear HO_119001 HO_25 HO_F HO_5 BK118 HB hq_; have HO_119001 := n0_; have HO_25 := n1_; have HO_F := nF_; have HO_5 := n2_; have BK118 := n3_; have HB := n4_; clear n0_ n1_ n2_ n3_ n4_))) | (go_at_call 48; (with_reducible refine (spec_Text.calls kj28 t127 t129 _ A34.out).mono ?_); rintro e w37 ⟨rfl, hb⟩; have n0_ := Aside0.mk (Kd.S_below (by (with_reducible repeat (first | apply Kd.S_alloc | apply Kd.S_drewN | apply Kd.S_drew)); exact HO_5.out) hb); have n1_ := Aside0.mk (Kd.R_below (by (with_reducible repeat (first | apply Kd.R_alloc | apply Kd.R_drewN | apply Kd.R_drew)); exact HO_25.out) hb); have nF_ := Aside0.mk (Kd.R_below (by (with_reducible repeat (first | apply Kd.R_alloc | apply Kd.R_drewN | apply Kd.R_drew)); exact HO_F.out) hb); have n2_ := Aside0.mk (Kd.R_below (by (with_reducible repeat (first | apply Kd.R_alloc | apply Kd.R_drewN | apply Kd.R_drew)); exact HO_119001.out) hb); have n3_ := Aside0.mk (blk_below (g := gb118) (o := .cells #[.string (rdOf ByteArray.empty t114 0), u119001, .slice none 0 0] 48 (0, 0)) (by refine bY ?_; exact BK118.out) hb); have n4_ := Aside0.mk (below_step belS hb); clear HO_5; clear HO_25; clear HO_F; clear HO_119001; clear BK118; clear HB; have HO_5 := n0_; have HO_25 := n1_; have HO_F := nF_; have HO_119001 := n2_; have BK118 := n3_; have HB := n4_; clear n0_ n1_ n2_ n3_ n4_; (try clear hb); (try clear hb2); (try clear hk); (try clear hi); obtain ⟨hcz38_0, hcz38_1, hcz38_2, hfz38_0, hfz38_1, hfz38_2⟩ := rows3 (w := w37) BK118) | ((with_reducible refine gate_builtin (b := .append) (xs := #[.tmp 73, .tmp 75]) rfl ?_); at_builtin; refine Kd.R_append (Kd.int .u64) (w0 := w) w.heap.size rfl (.tmp 73) (.tmp 75) 46 31 (.int .u64 0) 8 rfl Tryz.underlying46 info31 rfl (by decide) (by omega) u119001 x119001_3 t127 [.int .u64 t127] (fun _ => True) (fun _ => False) rfl rfl ?aP (fun _ hk => hk.elim) ?aF ?aO ?aB ?aS ?aL ?_; (case aP => exact rfl); (case aB => exact belS); (case aF => exact (fun _ _ => trivial)); (case aO => exact (by (with_reducible repeat (first | apply Kd.R_alloc | apply Kd.R_drewN | apply Kd.R_drew)); exact HO_119001.out)); (case aS => exact (below_size belS)); (case aL => have := LMc36.out; omega); intro v131 w39 ho hb hg hat; rw [← Ny130.out] at ho; have n0_ := Aside0.mk (Kd.S_after (ok := (fun k_ => some k_ ≠ (.slice (some ad113) t108.length co10 : Value).ownBlock ∧ k_ ≠ gb118)) (by (with_reducible repeat (first | apply Kd.S_alloc | apply Kd.S_drewN | apply Kd.S_drew)); exact Kd.S_mono HO_5.out (fun _ hk => by first | exact ⟨⟨hk.1, hk.2.2⟩, hk.2.1⟩ | exact ⟨⟨hk.2.1, hk.2.2⟩, hk.1⟩)) hg hat); have n1_ := Aside0.mk (Kd.R_over' (by (with_reducible repeat (first | apply Kd.R_alloc | apply Kd.R_drewN | apply Kd.R_drew)); exact HO_25.out) (Kd.R_typed (by (with_reducible repeat (first | apply Kd.R_alloc | apply Kd.R_drewN | apply Kd.R_drew)); exact HO_119001.out)) (by decide) hg); have nF_ := Aside0.mk (Kd.R_over' (by (with_reducible repeat (first | apply Kd.R_alloc | apply Kd.R_drewN | apply Kd.R_drew)); exact HO_F.out) (Kd.R_typed (by (with_reducible repeat (first | apply Kd.R_alloc | apply Kd.R_drewN | apply Kd.R_drew)); exact HO_119001.out)) (by decide) hg); have n2_ := Aside0.mk (blk_grown (g := gb118) (o := .cells #[.string (rdOf ByteArray.empty t114 0), u119001, .slice none 0 0] 48 (0, 0)) (by refine bY ?_; exact BK118.out) hg (Kd.R_ne HO_119001.out BK118.out (by decide))); have n3_ := Aside0.mk (hb); have n4_ := Aside0.mk (ho); clear HO_5; clear HO_25; clear HO_F; clear BK118; clear HB; clear HO_119001; have HO_5 := n0_; have HO_25 := n1_; have HO_F := nF_; have BK118 := n2_; have HB := n3_; have HO132 := n4_; clear n0_ n1_ n2_ n3_ n4_; clear ho hb hg hat; obtain ⟨Ao40, co40, eo40⟩ := Kd.R_slice HO132.out; subst eo40; obtain ⟨hcz41_0, hcz41_1, hcz41_2, hfz41_0, hfz41_1, hfz41_2⟩ := rows3 (w := w39) BK118))
                          go_roundg kj28
                          case measure => have := HJ1.out; have := HK2.out; have := HK3.out; have := HJ26.out; have := HJ28.out; omega
                          case rel => exact ⟨(wrap64 (x43_3 + 1)), (y130), (.slice Ao40 y130.length co40), (by first | rfl | (simp; done) | (simp [*]; done) | (simp [bne_nil]; done) | (simp [bne_nil, *]; done)), H', ⟨by have := HJ1.out; have := HK2.out; have := HK3.out; have := HJ26.out; have := HJ28.out; omega⟩, ⟨by (with_reducible repeat (first | apply Kd.S_alloc | apply Kd.S_drewN | apply Kd.S_drew)); exact Kd.S_mono (Kd.S_far (p := ⟨gb118, 1, none⟩) (Kd.S_mono HO_5.out (fun k_ hk => (⟨hk, hk.1.2⟩ : _ ∧ k_ ≠ gb118))) (fun _ hk => hk.2) (.slice Ao40 y130.length co40)) (fun _ hk => ⟨hk.1.1.1, ⟨hk.1.2, hk.1.1.2⟩⟩)⟩, ⟨by (with_reducible repeat (first | apply Kd.R_alloc | apply Kd.R_drewN | apply Kd.R_drew)); exact Kd.R_mono (Kd.R_far (p := ⟨gb118, 1, none⟩) (Kd.R_types HO_25.out BK118.out (by decide)) (fun _ hk => hk.2) (.slice Ao40 y130.length co40)) (fun _ hk => trivial)⟩, ⟨by (with_reducible repeat (first | apply Kd.R_alloc | apply Kd.R_drewN | apply Kd.R_drew)); exact Kd.R_mono (Kd.R_far (p := ⟨gb118, 1, none⟩) (Kd.R_types HO_F.out BK118.out (by decide)) (fun _ hk => hk.2) (.slice Ao40 y130.length co40)) (fun _ hk => trivial)⟩, ⟨by (with_reducible repeat (first | apply Kd.R_alloc | apply Kd.R_drewN | apply Kd.R_drew)); exact Kd.R_mono (Kd.R_far (p := ⟨gb118, 1, none⟩) (Kd.R_types HO132.out BK118.out (by decide)) (fun _ hk => hk.2) (.slice Ao40 y130.length co40)) (fun _ hk => trivial)⟩, ⟨by refine bY ?_; refine blk_put (cs := #[.string (rdOf ByteArray.empty t114 0), u119001, .slice none 0 0]) ?_ 1 _ rfl; refine bY ?_; exact BK118.out⟩, ⟨by repeat (first | (with_reducible first | exact HB.out | apply below_alloc | apply pw_below_drewN | apply below_drew1 | refine below_set ?_ GE118.out) | exact HB.out)⟩⟩
                         ·rw [if_neg c36] at H
                          exact absurd H (by simp)
                        ·rw [if_neg c35] at H
                         have c35b0 : (t129.toList == (rdOf ByteArray.empty y119 x43_3).toList) = false := beq_eq_false_iff_ne.mpr c35
                         have c35b1 : (t129.toList != (rdOf ByteArray.empty y119 x43_3).toList) = true := bne_iff_ne.mpr c35
                         simp only [Option.some.injEq, Prod.mk.injEq] at H
                         obtain ⟨rfl, rfl, rfl⟩ := H
                         go_wp2_with (first | ((with_reducible refine gate_callee (f := 81) rfl ?_); refine goesL_ (some 57) rfl rfl Tryz.func81 (by kernel_rfl) rfl #[.string (rdOf ByteArray.empty y119 x43_3), .int .u64 x12_28] rfl (by (try simp only [List.map_toArray, List.map_cons, List.map_nil]); first | done | rfl | (simp only [List.length_drop, List.length_take]; rfl)) ?_; (with_reducible refine (spec_Number.calls kj28 (rdOf ByteArray.empty y119 x43_3) x12_28 t127 true _ A31.out).mono ?_); rintro e w' ⟨rfl, ⟨nd, rfl⟩⟩; refine ⟨_, rfl, ?_⟩) | (go_at_call 48; (with_reducible refine (spec_Text.calls kj28 t127 t129 _ A34.out).mono ?_); rintro e w42 ⟨rfl, hb⟩; have n0_ := Aside0.mk (Kd.S_below (by (with_reducible repeat (first | apply Kd.S_alloc | apply Kd.S_drewN | apply Kd.S_drew)); exact HO_5.out) hb); have n1_ := Aside0.mk (Kd.R_below (by (with_reducible repeat (first | apply Kd.R_alloc | apply Kd.R_drewN | apply Kd.R_drew)); exact HO_25.out) hb); have nF_ := Aside0.mk (Kd.R_below (by (with_reducible repeat (first | apply Kd.R_alloc | apply Kd.R_drewN | apply Kd.R_drew)); exact HO_F.out) hb); have n2_ := Aside0.mk (Kd.R_below (by (with_reducible repeat (first | apply Kd.R_alloc | apply Kd.R_drewN | apply Kd.R_drew)); exact HO_119001.out) hb); have n3_ := Aside0.mk (blk_below (g := gb118) (o := .cells #[.string (rdOf ByteArray.empty t114 0), u119001, .slice none 0 0] 48 (0, 0)) (by refine bY ?_; exact BK118.out) hb); have n4_ := Aside0.mk (below_step belS hb); clear HO_5; clear HO_25; clear HO_F; clear HO_119001; clear BK118; clear HB; have HO_5 := n0_; have HO_25 := n1_; have HO_F := nF_; have HO_119001 := n2_; have BK118 := n3_; have HB := n4_; clear n0_ n1_ n2_ n3_ n4_; (try clear hb); (try clear hb2); (try clear hk); (try clear hi)))
                         go_ret3
                         exact ⟨_, by first | rfl | (simp [errW_none, errW_some] <;> rfl) | (simp [*, errW_none, errW_some] <;> rfl), by first | exact Kd.S_nil _ _ _ _ _ | exact Kd.N_nil _ _ _ _ _ | exact Kd.V_nil _ _ _ _ _ | exact Kd.Q_nil _ _ _ _ _ | exact Kd.R_nil _ _ _ _ _, by repeat (first | (with_reducible first | exact HB.out | apply below_alloc | apply pw_below_drewN | apply below_drew1 | refine below_set ?_ GE118.out) | exact HB.out)⟩
                       ·rw [if_neg c33] at H
                        have c33b0 : (x12_28 == 10) = false := beq_eq_false_iff_ne.mpr c33
                        have c33b1 : (x12_28 != 10) = true := bne_iff_ne.mpr c33
                        by_cases c43 : x119001_3.length < 17592186044416
                        ·rw [if_pos c43] at H
                         have LMc43 := Aside0.mk c43
                         clear c43
                         obtain ⟨y133, hy133⟩ : ∃ y_ : List Int, y_ = (x119001_3 ++ [t127]) := ⟨_, rfl⟩
                         replace H : (spec_RouteRead.l1 kj28 x5_2 t108 (t108.length : Int) x27_2 y119 (y119.length : Int) (wrap64 (x43_3 + 1)) (rdOf ByteArray.empty t114 0) y133) = some (r1, r2, r3) := by first | (rw [hy133]; with_reducible exact H) | (have H2_ := (Option.bind_some _ _).symm.trans H; rw [hy133]; with_reducible exact H2_) | (have H2_ := (Option.bind_some _ _).symm.trans H; with_reducible exact H2_) | with_reducible exact H | (rw [hy133]; exact H) | exact H
                         have Ny133 := Aside0.mk hy133
                         clear hy133
                         have H' := Aside0.mk H
                         clear H
                         go_wp2_with (first | ((with_reducible refine gate_callee (f := 81) rfl ?_); refine goesL_ (some 57) rfl rfl Tryz.func81 (by kernel_rfl) rfl #[.string (rdOf ByteArray.empty y119 x43_3), .int .u64 x12_28] rfl (by (try simp only [List.map_toArray, List.map_cons, List.map_nil]); first | done | rfl | (simp only [List.length_drop, List.length_take]; rfl)) ?_; (with_reducible refine (spec_Number.calls kj28 (rdOf ByteArray.empty y119 x43_3) x12_28 t127 true _ A31.out).mono ?_); rintro e w' ⟨rfl, ⟨nd, rfl⟩⟩; refine ⟨_, rfl, ?_⟩; (try (rw [drewN_self wc]; generalize hq_ : World.drewN wc _ = wc; have n0_ : Aside0 (Kd.R (Kd.int .u64) 31 wc w.heap.size (fun _ => True) u119001 x119001_3) := ⟨by rw [← hq_]; exact (by (with_reducible repeat (first | apply Kd.R_alloc | apply Kd.R_drewN | apply Kd.R_drew)); exact HO_119001.out)⟩; have n1_ : Aside0 (Kd.R Kd.string 9 wc w.heap.size (fun _ => True) (.slice (some ad113) t108.length co10) t108) := ⟨by rw [← hq_]; exact (by (with_reducible repeat (first | apply Kd.R_alloc | apply Kd.R_drewN | apply Kd.R_drew)); exact HO_25.out)⟩; have nF_ : Aside0 (Kd.R Kd.string 9 wc w.heap.size (fun _ => True) (.slice (some ad117) t114.length co19) t114) := ⟨by rw [← hq_]; exact (by (with_reducible repeat (first | apply Kd.R_alloc | apply Kd.R_drewN | apply Kd.R_drew)); exact HO_F.out)⟩; have n2_ : Aside0 (Kd.S k48 48 wc w.heap.size (fun k_ => some k_ ≠ (u119001 : Value).ownBlock ∧ some k_ ≠ (.slice (some ad113) t108.length co10 : Value).ownBlock ∧ k_ ≠ gb118) u5 x5_2) := ⟨by rw [← hq_]; exact (by (with_reducible repeat (first | apply Kd.S_alloc | apply Kd.S_drewN | apply Kd.S_drew)); exact Kd.S_mono HO_5.out (fun _ hk => ⟨hk.2.1, ⟨hk.1, hk.2.2⟩⟩))⟩; have n3_ : Aside0 (wc.heap[gb118]? = some (.cells #[.string (rdOf ByteArray.empty t114 0), u119001, .slice none 0 0] 48 (0, 0))) := ⟨by rw [← hq_]; exact (by refine bY ?_; exact BK118.out)⟩; have n4_ : Aside0 (Below w.heap.size w wc) := ⟨by rw [← hq_]; exact belS⟩; clear HO_119001 HO_25 HO_F HO_5 BK118 HB hq_; have HO_119001 := n0_; have HO_25 := n1_; have HO_F := nF_; have HO_5 := n2_; have BK118 := n3_; have HB := n4_; clear n0_ n1_ n2_ n3_ n4_)); obtain ⟨hcz44_0, hcz44_1, hcz44_2, hfz44_0, hfz44_1, hfz44_2⟩ := rows3 (w := wc) BK118) | ((with_reducible refine gate_builtin (b := .append) (xs := #[.tmp 73, .tmp 75]) rfl ?_); at_builtin; refine Kd.R_append (Kd.int .u64) (w0 := w) w.heap.size rfl (.tmp 73) (.tmp 75) 46 31 (.int .u64 0) 8 rfl Tryz.underlying46 info31 rfl (by decide) (by omega) u119001 x119001_3 t127 [.int .u64 t127] (fun _ => True) (fun _ => False) rfl rfl ?aP (fun _ hk => hk.elim) ?aF ?aO ?aB ?aS ?aL ?_; (case aP => exact rfl); (case aB => exact belS); (case aF => exact (fun _ _ => trivial)); (case aO => exact (by (with_reducible repeat (first | apply Kd.R_alloc | apply Kd.R_drewN | apply Kd.R_drew)); exact HO_119001.out)); (case aS => exact (below_size belS)); (case aL => have := LMc43.out; omega); intro v134 w45 ho hb hg hat; rw [← Ny133.out] at ho; have n0_ := Aside0.mk (Kd.S_after (ok := (fun k_ => some k_ ≠ (.slice (some ad113) t108.length co10 : Value).ownBlock ∧ k_ ≠ gb118)) (by (with_reducible repeat (first | apply Kd.S_alloc | apply Kd.S_drewN | apply Kd.S_drew)); exact Kd.S_mono HO_5.out (fun _ hk => by first | exact ⟨⟨hk.1, hk.2.2⟩, hk.2.1⟩ | exact ⟨⟨hk.2.1, hk.2.2⟩, hk.1⟩)) hg hat); have n1_ := Aside0.mk (Kd.R_over' (by (with_reducible repeat (first | apply Kd.R_alloc | apply Kd.R_drewN | apply Kd.R_drew)); exact HO_25.out) (Kd.R_typed (by (with_reducible repeat (first | apply Kd.R_alloc | apply Kd.R_drewN | apply Kd.R_drew)); exact HO_119001.out)) (by decide) hg); have nF_ := Aside0.mk (Kd.R_over' (by (with_reducible repeat (first | apply Kd.R_alloc | apply Kd.R_drewN | apply Kd.R_drew)); exact HO_F.out) (Kd.R_typed (by (with_reducible repeat (first | apply Kd.R_alloc | apply Kd.R_drewN | apply Kd.R_drew)); exact HO_119001.out)) (by decide) hg); have n2_ := Aside0.mk (blk_grown (g := gb118) (o := .cells #[.string (rdOf ByteArray.empty t114 0), u119001, .slice none 0 0] 48 (0, 0)) (by refine bY ?_; exact BK118.out) hg (Kd.R_ne HO_119001.out BK118.out (by decide))); have n3_ := Aside0.mk (hb); have n4_ := Aside0.mk (ho); clear HO_5; clear HO_25; clear HO_F; clear BK118; clear HB; clear HO_119001; have HO_5 := n0_; have HO_25 := n1_; have HO_F := nF_; have BK118 := n2_; have HB := n3_; have HO135 := n4_; clear n0_ n1_ n2_ n3_ n4_; clear ho hb hg hat; obtain ⟨Ao46, co46, eo46⟩ := Kd.R_slice HO135.out; subst eo46; obtain ⟨hcz47_0, hcz47_1, hcz47_2, hfz47_0, hfz47_1, hfz47_2⟩ := rows3 (w := w45) BK118))
                         go_roundg kj28
                         case measure => have := HJ1.out; have := HK2.out; have := HK3.out; have := HJ26.out; have := HJ28.out; omega
                         case rel => exact ⟨(wrap64 (x43_3 + 1)), (y133), (.slice Ao46 y133.length co46), (by first | rfl | (simp; done) | (simp [*]; done) | (simp [bne_nil]; done) | (simp [bne_nil, *]; done)), H', ⟨by have := HJ1.out; have := HK2.out; have := HK3.out; have := HJ26.out; have := HJ28.out; omega⟩, ⟨by (with_reducible repeat (first | apply Kd.S_alloc | apply Kd.S_drewN | apply Kd.S_drew)); exact Kd.S_mono (Kd.S_far (p := ⟨gb118, 1, none⟩) (Kd.S_mono HO_5.out (fun k_ hk => (⟨hk, hk.1.2⟩ : _ ∧ k_ ≠ gb118))) (fun _ hk => hk.2) (.slice Ao46 y133.length co46)) (fun _ hk => ⟨hk.1.1.1, ⟨hk.1.2, hk.1.1.2⟩⟩)⟩, ⟨by (with_reducible repeat (first | apply Kd.R_alloc | apply Kd.R_drewN | apply Kd.R_drew)); exact Kd.R_mono (Kd.R_far (p := ⟨gb118, 1, none⟩) (Kd.R_types HO_25.out BK118.out (by decide)) (fun _ hk => hk.2) (.slice Ao46 y133.length co46)) (fun _ hk => trivial)⟩, ⟨by (with_reducible repeat (first | apply Kd.R_alloc | apply Kd.R_drewN | apply Kd.R_drew)); exact Kd.R_mono (Kd.R_far (p := ⟨gb118, 1, none⟩) (Kd.R_types HO_F.out BK118.out (by decide)) (fun _ hk => hk.2) (.slice Ao46 y133.length co46)) (fun _ hk => trivial)⟩, ⟨by (with_reducible repeat (first | apply Kd.R_alloc | apply Kd.R_drewN | apply Kd.R_drew)); exact Kd.R_mono (Kd.R_far (p := ⟨gb118, 1, none⟩) (Kd.R_types HO135.out BK118.out (by decide)) (fun _ hk => hk.2) (.slice Ao46 y133.length co46)) (fun _ hk => trivial)⟩, ⟨by refine bY ?_; refine blk_put (cs := #[.string (rdOf ByteArray.empty t114 0), u119001, .slice none 0 0]) ?_ 1 _ rfl; refine bY ?_; exact BK118.out⟩, ⟨by repeat (first | (with_reducible first | exact HB.out | apply below_alloc | apply pw_below_drewN | apply below_drew1 | refine below_set ?_ GE118.out) | exact HB.out)⟩⟩
                        ·rw [if_neg c43] at H
                         exact absurd H (by simp)
                      ·replace c32 := Bool.eq_false_iff.mpr c32
                       subst c32
                       have H1 : (some (([] : List (S48)), false, 2)) = some (r1, r2, r3) := by rw [if_neg (show ¬ (false = true) by decide)] at H; exact H
                       clear H
                       have H := H1
                       clear H1
                       simp only [Option.some.injEq, Prod.mk.injEq] at H
                       obtain ⟨rfl, rfl, rfl⟩ := H
                       go_wp2_with (first | ((with_reducible refine gate_callee (f := 81) rfl ?_); refine goesL_ (some 57) rfl rfl Tryz.func81 (by kernel_rfl) rfl #[.string (rdOf ByteArray.empty y119 x43_3), .int .u64 x12_28] rfl (by (try simp only [List.map_toArray, List.map_cons, List.map_nil]); first | done | rfl | (simp only [List.length_drop, List.length_take]; rfl)) ?_; (with_reducible refine (spec_Number.calls kj28 (rdOf ByteArray.empty y119 x43_3) x12_28 t127 false _ A31.out).mono ?_); rintro e w' ⟨rfl, ⟨nd, rfl⟩⟩; refine ⟨_, rfl, ?_⟩))
                       go_ret3
                       exact ⟨_, by first | rfl | (simp [errW_none, errW_some] <;> rfl) | (simp [*, errW_none, errW_some] <;> rfl), by first | exact Kd.S_nil _ _ _ _ _ | exact Kd.N_nil _ _ _ _ _ | exact Kd.V_nil _ _ _ _ _ | exact Kd.Q_nil _ _ _ _ _ | exact Kd.R_nil _ _ _ _ _, by repeat (first | (with_reducible first | exact HB.out | apply below_alloc | apply pw_below_drewN | apply below_drew1 | refine below_set ?_ GE118.out) | exact HB.out)⟩
                 ·rw [if_neg c26] at H
                  exact absurd H (by simp)
                ·rw [if_neg c25] at H
                 exact absurd H (by simp)
               ·rw [if_neg c24] at H
                have c24b0 : decide (x43_3 < (y119.length : Int)) = false := decide_eq_false c24
                clear c24
                by_cases c48 : x5_2.length < 2199023255552
                ·rw [if_pos c48] at H
                 have LMc48 := Aside0.mk c48
                 clear c48
                 obtain ⟨y123, hy123⟩ : ∃ y_ : List (S48), y_ = (x5_2 ++ [(⟨(rdOf ByteArray.empty t114 0), x119001_3, ([] : List ByteArray)⟩ : S48)]) := ⟨_, rfl⟩
                 replace H : (spec_RouteRead.l0 k3 y123 t108 (t108.length : Int) (wrap64 (x27_2 + 1))) = some (r1, r2, r3) := by first | (rw [hy123]; with_reducible exact H) | (have H2_ := (Option.bind_some _ _).symm.trans H; rw [hy123]; with_reducible exact H2_) | (have H2_ := (Option.bind_some _ _).symm.trans H; with_reducible exact H2_) | with_reducible exact H | (rw [hy123]; exact H) | exact H
                 have Ny123 := Aside0.mk hy123
                 clear hy123
                 have H' := Aside0.mk H
                 clear H
                 obtain ⟨hcz49_0, hcz49_1, hcz49_2, hfz49_0, hfz49_1, hfz49_2⟩ := rows3 (w := wr) BK118
                 obtain ⟨Ao51, co51, eo51⟩ := Kd.R_slice HO_119001.out
                 subst eo51
                 go_wp2_with (first | ((with_reducible refine gate_builtin (b := .append) (xs := #[.tmp 79, .tmp 81]) rfl ?_); at_builtin; refine Kd.S_append k48 (w0 := w) w.heap.size rfl (.tmp 79) (.tmp 81) 27 48 (.agg #[(.string ⟨#[]⟩), (.slice none 0 0), (.slice none 0 0)]) 64 rfl Tryz.underlying27 info48 rfl (by decide) (by omega) u5 x5_2 (⟨(rdOf ByteArray.empty t114 0), x119001_3, ([] : List ByteArray)⟩ : S48) [.string (rdOf ByteArray.empty t114 0), .slice Ao51 x119001_3.length co51, .slice none 0 0] (fun k_ => some k_ ≠ (.slice (some ad113) t108.length co10 : Value).ownBlock ∧ k_ ≠ gb118) (fun k_ => some k_ = (.slice Ao51 x119001_3.length co51 : Value).ownBlock) rfl rfl ?aP (fun k_ hk_ => ((Kd.R_mono (ok' := fun k_ => ((fun k_ => some k_ ≠ (.slice (some ad113) t108.length co10 : Value).ownBlock ∧ k_ ≠ gb118)) k_ ∧ some k_ ≠ (u5 : Value).ownBlock) (Kd.R_types (Kd.R_apart' (Kd.R_apart' (HO_119001.out) (Kd.R_typed HO_25.out) (by decide)) (Kd.S_typed HO_5.out) (by decide)) BK118.out (by decide)) (fun k_ hk => ⟨⟨hk.1.1.2, hk.2⟩, hk.1.2⟩))).1 k_ hk_.symm) ?aF ?aO ?aB ?aS ?aL ?_; (case aP => exact k48_mkM _ _ _ (⟨(rdOf ByteArray.empty t114 0), x119001_3, ([] : List ByteArray)⟩ : S48) (Kd.R_mono (Kd.R_tight rfl (Kd.R_mono (ok' := fun k_ => ((fun k_ => some k_ ≠ (.slice (some ad113) t108.length co10 : Value).ownBlock ∧ k_ ≠ gb118)) k_ ∧ some k_ ≠ (u5 : Value).ownBlock) (Kd.R_types (Kd.R_apart' (Kd.R_apart' (HO_119001.out) (Kd.R_typed HO_25.out) (by decide)) (Kd.S_typed HO_5.out) (by decide)) BK118.out (by decide)) (fun k_ hk => ⟨⟨hk.1.1.2, hk.2⟩, hk.1.2⟩))) (fun _ h_ => h_)) (Kd.R_nil _ _ _ _ _)); (case aB => exact belS); (case aF => exact (fun k_ hk => ⟨Kd.fresh' (Kd.R_lt (by (with_reducible repeat (first | apply Kd.R_alloc | apply Kd.R_drewN | apply Kd.R_drew)); exact HO_25.out)) k_ hk, Kd.freshB (g := gb118) (o := .cells #[.string (rdOf ByteArray.empty t114 0), .slice Ao51 x119001_3.length co51, .slice none 0 0] 48 (0, 0)) (by refine bY ?_; exact BK118.out) k_ hk⟩)); (case aO => exact (by (with_reducible repeat (first | apply Kd.S_alloc | apply Kd.S_drewN | apply Kd.S_drew)); exact Kd.S_mono HO_5.out (fun k_ hk => ⟨⟨hk.1, hk.2.2⟩, fun e_ => hk.2.1 e_⟩))); (case aS => exact (below_size belS)); (case aL => have := LMc48.out; omega); intro v124 w50 ho hb hg hat; rw [← Ny123.out] at ho; have n0_ := Aside0.mk (Kd.R_over' (by (with_reducible repeat (first | apply Kd.R_alloc | apply Kd.R_drewN | apply Kd.R_drew)); exact HO_25.out) (Kd.S_typed (by (with_reducible repeat (first | apply Kd.S_alloc | apply Kd.S_drewN | apply Kd.S_drew)); exact HO_5.out)) (by decide) hg); have n1_ := Aside0.mk (blk_grown (g := gb118) (o := .cells #[.string (rdOf ByteArray.empty t114 0), .slice Ao51 x119001_3.length co51, .slice none 0 0] 48 (0, 0)) (by refine bY ?_; exact BK118.out) hg (Kd.S_away HO_5.out (fun _ hk => hk.2.2))); have n2_ := Aside0.mk (hb); have n3_ := Aside0.mk (ho); clear HO_25; clear BK118; clear HB; clear HO_5; clear HO_119001; have HO_25 := n0_; have BK118 := n1_; have HB := n2_; have HO125 := n3_; clear n0_ n1_ n2_ n3_; clear ho hb hg hat))
                 go_roundg k3
                 case measure => have := HJ1.out; have := HK2.out; have := HK3.out; omega
                 case rel => exact ⟨(y123), (wrap64 (x27_2 + 1)), (by first | rfl | (simp; done) | (simp [*]; done) | (simp [bne_nil]; done) | (simp [bne_nil, *]; done)), H', ⟨by have := HJ1.out; have := HK2.out; have := HK3.out; omega⟩, ⟨by (with_reducible repeat (first | apply Kd.S_alloc | apply Kd.S_drewN | apply Kd.S_drew)); exact Kd.S_mono HO125.out (fun _ hk => hk.1)⟩, ⟨by (with_reducible repeat (first | apply Kd.R_alloc | apply Kd.R_drewN | apply Kd.R_drew)); exact HO_25.out⟩, ⟨by repeat (first | (with_reducible first | exact HB.out | apply below_alloc | apply pw_below_drewN | apply below_drew1 | refine below_set ?_ GE118.out) | exact HB.out)⟩⟩
                ·rw [if_neg c48] at H
                 exact absurd H (by simp)
            ·rw [if_neg c17] at H
             exact absurd H (by simp)
           ·rw [if_neg c16] at H
            exact absurd H (by simp)
          ·rw [if_neg c15] at H
           have c15b0 : ((t114.length : Int) == 11) = false := beq_eq_false_iff_ne.mpr c15
           have c15b1 : ((t114.length : Int) != 11) = true := bne_iff_ne.mpr c15
           simp only [Option.some.injEq, Prod.mk.injEq] at H
           obtain ⟨rfl, rfl, rfl⟩ := H
           have p113 : 0 ≤ (x27_2 : Int) := of_decide_eq_true (by first | (with_reducible assumption) | assumption)
           have q113 : x27_2 < (t108.length : Int) := of_decide_eq_true (by first | (with_reducible assumption) | assumption)
           obtain ⟨ad113, e113, hx113_0⟩ := Kd.at_string (Kd.R_reads' HO_25.out).2.2 x27_2 p113 q113
           cases e113
           replace p113 := eq_true p113
           replace q113 := eq_true q113
           go_wp2_with (first | ((with_reducible refine gate_callee (f := 39) rfl ?_); refine goesL_ (some 32) rfl rfl Tryz.func39 (by kernel_rfl) rfl #[.string (rdOf ByteArray.empty t108 x27_2)] rfl (by (try simp only [List.map_toArray, List.map_cons, List.map_nil]); first | done | rfl | (simp only [List.length_drop, List.length_take]; rfl)) ?_; (with_reducible refine (spec_Fields.calls k2 (rdOf ByteArray.empty t108 x27_2) t114 _ A14.out).mono ?_); rintro e w52 ⟨v115, rfl, ho0, hb⟩; refine ⟨_, rfl, ?_⟩; have n0_ := Aside0.mk (Kd.S_elder' (by (with_reducible repeat (first | apply Kd.S_alloc | apply Kd.S_drewN | apply Kd.S_drew)); exact HO_5.out) (Kd.R_base ho0) hb); have n1_ := Aside0.mk (Kd.R_elder' (by (with_reducible repeat (first | apply Kd.R_alloc | apply Kd.R_drewN | apply Kd.R_drew)); exact HO_25.out) (Kd.R_base ho0) hb); have n2_ := Aside0.mk (Kd.R_lower (Kd.R_new' ho0 (Kd.R_lt (by (with_reducible repeat (first | apply Kd.R_alloc | apply Kd.R_drewN | apply Kd.R_drew)); exact HO_25.out))) (below_size belH)); have n3_ := Aside0.mk (below_step belH hb); clear HO_5; clear HO_25; clear HB; have HO_5 := n0_; have HO_25 := n1_; have HO116 := n2_; have HB := n3_; clear n0_ n1_ n2_ n3_; (try clear hb); (try clear hb2); (try clear hk); (try clear hi); (try clear ho0); obtain ⟨Ao53, co53, eo53⟩ := Kd.R_slice HO116.out; subst eo53))
           go_ret3
           exact ⟨_, by first | rfl | (simp [errW_none, errW_some] <;> rfl) | (simp [*, errW_none, errW_some] <;> rfl), by first | exact Kd.S_nil _ _ _ _ _ | exact Kd.N_nil _ _ _ _ _ | exact Kd.V_nil _ _ _ _ _ | exact Kd.Q_nil _ _ _ _ _ | exact Kd.R_nil _ _ _ _ _, by repeat (first | (with_reducible first | exact HB.out | apply below_alloc | apply pw_below_drewN | apply below_drew1) | exact HB.out)⟩
         ·rw [if_neg c13] at H
          exact absurd H (by simp)
        ·rw [if_neg c12] at H
         exact absurd H (by simp)
       ·rw [if_neg c11] at H
        have c11b0 : decide (x27_2 < (t108.length : Int)) = false := decide_eq_false c11
        clear c11
        replace H := Option.bind_eq_some_iff.mp H
        obtain ⟨t111, A540, H⟩ := H
        have A54 := Aside0.mk A540
        clear A540
        replace H := Option.bind_eq_some_iff.mp H
        obtain ⟨t112, A550, H⟩ := H
        have A55 := Aside0.mk A550
        clear A550
        simp only [Option.some.injEq, Prod.mk.injEq] at H
        obtain ⟨rfl, rfl, rfl⟩ := H
        obtain ⟨Ao56, co56, eo56⟩ := Kd.S_slice HO_5.out
        subst eo56
        go_wp2_with (first | ((with_reducible refine gate_callee (f := 98) rfl ?_); refine goesL_ (some 86) rfl rfl Tryz.func98 (by kernel_rfl) rfl #[.slice Ao56 x5_2.length co56] rfl (by (try simp only [List.map_toArray, List.map_cons, List.map_nil]); first | done | rfl | (simp only [List.length_drop, List.length_take]; rfl)) ?_; (with_reducible refine (spec_routeFine.calls k2 _ _ x5_2 t111 _ ?side1 ?side2 A54.out).mono ?_); (case side1 => repeat (first | exact (Kd.S_reads' HO_5.out).2.2 | (with_reducible refine Kd.C_alloc ?_ _) | (with_reducible refine Kd.C_drewN ?_ _) | (with_reducible refine Kd.C_drew ?_))); (case side2 => exact (Kd.S_reads' HO_5.out).2.1); rintro e w57 ⟨rfl, hb⟩; refine ⟨_, rfl, ?_⟩; have n0_ := Aside0.mk (Kd.S_below (by (with_reducible repeat (first | apply Kd.S_alloc | apply Kd.S_drewN | apply Kd.S_drew)); exact HO_5.out) hb); have n1_ := Aside0.mk (Kd.R_below (by (with_reducible repeat (first | apply Kd.R_alloc | apply Kd.R_drewN | apply Kd.R_drew)); exact HO_25.out) hb); have n2_ := Aside0.mk (below_step belH hb); clear HO_5; clear HO_25; clear HB; have HO_5 := n0_; have HO_25 := n1_; have HB := n2_; clear n0_ n1_ n2_; (try clear hb); (try clear hb2); (try clear hk); (try clear hi)) | ((with_reducible refine gate_callee (f := 82) rfl ?_); refine goesL_ (some 87) rfl rfl Tryz.func82 (by kernel_rfl) rfl #[.bool t111] rfl (by (try simp only [List.map_toArray, List.map_cons, List.map_nil]); first | done | rfl | (simp only [List.length_drop, List.length_take]; rfl)) ?_; (with_reducible refine (spec_told.calls t111 t112 _ A55.out).mono ?_); rintro e w' ⟨rfl, ⟨nd, rfl⟩⟩; refine ⟨_, rfl, ?_⟩))
        go_ret3
        exact ⟨_, by first | rfl | (simp [errW_none, errW_some] <;> rfl) | (simp [*, errW_none, errW_some] <;> rfl), by (with_reducible repeat (first | apply Kd.S_alloc | apply Kd.S_drewN | apply Kd.S_drew)); exact Kd.S_mono HO_5.out (fun _ hk => trivial), by repeat (first | (with_reducible first | exact HB.out | apply below_alloc | apply pw_below_drewN | apply below_drew1) | exact HB.out)⟩
    ·rw [if_neg c7] at H
     exact absurd H (by simp)

end Go.Proofs.YtdmpbaanonafbaaGreatDoor.U
