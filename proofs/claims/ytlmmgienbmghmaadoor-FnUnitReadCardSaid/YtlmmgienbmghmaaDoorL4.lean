-- written by a program of this session (wip/tools/pp.py)
import Derived.Test.YtlmmgienbmghmaaDoorL1
import Derived.Test.YtlmmgienbmghmaaDoorL2
import Derived.Test.YtlmmgienbmghmaaDoorL3
namespace Go.Proofs.YtlmmgienbmghmaaDoor.L
open Go.RowKit Go.Proofs.YtlmmgienbmghmaaDoorW.PrintWords Go.Proofs.YtlmmgienbmghmaaDoorW.PrintLast Go.Proofs.YtlmmgienbmghmaaDoor.M Go.Proofs.YtlmmgienbmghmaaDoor.UDoor Go.Proofs.YtlmmgienbmghmaaDoorW.PrintMore
attribute [local go_sem] max2_int min2_int max_two min_two max_three min_three max_four min_four   -- for this text's walks alone
set_option linter.unusedVariables false
set_option linter.unusedSimpArgs false

/-! ### spec_UnitParse: function 14 -/
mutual
def spec_UnitParse.j0 : Nat → ByteArray → Bool → Option ((List (S52)) × Bool × Int)
 | 0, _, _ => none
 | k + 1, x0, x20 => if x20 = true then (some (([] : List (S52)), false, 2)) else ((spec_cutLines.f k x0).bind fun t133 => (spec_UnitParse.l0 k ([] : List (S52)) (⟨#[]⟩ : ByteArray) t133 (t133.length : Int) 0))
def spec_UnitParse.l0 : Nat → List (S52) → ByteArray → List ByteArray → Int → Int → Option ((List (S52)) × Bool × Int)
 | 0, _, _, _, _, _ => none
 | k + 1, x5, x6, x22, x23, x24 => if x24 < x23 then (if 0 ≤ x24 then (if x24 < (x22.length : Int) then (spec_UnitParse.l1 k x5 x6 (rdOf ByteArray.empty x22 x24) x22 x23 x24 ((rdOf ByteArray.empty x22 x24).size : Int) 0) else (none)) else (none)) else (some (x5, true, 1))
def spec_UnitParse.l1 : Nat → List (S52) → ByteArray → ByteArray → List ByteArray → Int → Int → Int → Int → Option ((List (S52)) × Bool × Int)
 | 0, _, _, _, _, _, _, _, _ => none
 | k + 1, x5, x6, x8, x22, x23, x24, x29, x30 => if x30 < x29 then (if 0 ≤ x30 then (if x30 < (x8.size : Int) then (if (bt x8 x30) < 32 then (if (bt x8 x30) = 9 then (if (bt x8 x30) = 127 then (some (([] : List (S52)), false, 2)) else (spec_UnitParse.l1 k x5 x6 x8 x22 x23 x24 x29 (wrap64 (x30 + 1)))) else (some (([] : List (S52)), false, 2))) else (if (bt x8 x30) = 127 then (some (([] : List (S52)), false, 2)) else (spec_UnitParse.l1 k x5 x6 x8 x22 x23 x24 x29 (wrap64 (x30 + 1))))) else (none)) else (none)) else ((spec_trimmed.f k x8).bind fun t137 => (if t137.toList = ([] : List UInt8) then (if x8.toList = ([] : List UInt8) then (spec_UnitParse.l0 k x5 x6 x22 x23 (wrap64 (x24 + 1))) else (some (([] : List (S52)), false, 2))) else (if 0 ≤ (wrap64 ((x8.size : Int) - 1)) then (if (wrap64 ((x8.size : Int) - 1)) < (x8.size : Int) then (if (bt x8 (wrap64 ((x8.size : Int) - 1))) = 92 then (spec_UnitParse.j3 k x5 x6 x8 x22 x23 x24 true) else (if (x8.size : Int) > 1900 then (spec_UnitParse.j3 k x5 x6 x8 x22 x23 x24 true) else (if 0 < (x8.size : Int) then ((spec_blank.f (bt x8 0)).bind fun t138 => (if t138 = true then ((spec_trimmed.f k x8).bind fun t139 => (if 0 < (t139.size : Int) then (if (bt t139 0) = 35 then (spec_UnitParse.j3 k x5 x6 x8 x22 x23 x24 true) else ((spec_trimmed.f k x8).bind fun t140 => (if 0 < (t140.size : Int) then (spec_UnitParse.j3 k x5 x6 x8 x22 x23 x24 ((bt t140 0) == 59)) else (none)))) else (none))) else (spec_UnitParse.j3 k x5 x6 x8 x22 x23 x24 false))) else (none)))) else (none)) else (none))))
def spec_UnitParse.j3 : Nat → List (S52) → ByteArray → ByteArray → List ByteArray → Int → Int → Bool → Option ((List (S52)) × Bool × Int)
 | 0, _, _, _, _, _, _, _ => none
 | k + 1, x5, x6, x8, x22, x23, x24, x82 => if x82 = true then (some (([] : List (S52)), false, 2)) else ((spec_trimmed.f k x8).bind fun t141 => (if 0 ≤ (wrap64 ((t141.size : Int) - 1)) then (if (wrap64 ((t141.size : Int) - 1)) < (t141.size : Int) then (if (bt t141 (wrap64 ((t141.size : Int) - 1))) = 92 then (some (([] : List (S52)), false, 2)) else (if 0 < (t141.size : Int) then (if (bt t141 0) = 35 then (spec_UnitParse.j4 k x5 x6 t141 x22 x23 x24 true) else (spec_UnitParse.j4 k x5 x6 t141 x22 x23 x24 ((bt t141 0) == 59))) else (none))) else (none)) else (none)))
def spec_UnitParse.j4 : Nat → List (S52) → ByteArray → ByteArray → List ByteArray → Int → Int → Bool → Option ((List (S52)) × Bool × Int)
 | 0, _, _, _, _, _, _, _ => none
 | k + 1, x5, x6, x8, x22, x23, x24, x98 => if x98 = true then (spec_UnitParse.l0 k x5 x6 x22 x23 (wrap64 (x24 + 1))) else (if 0 < (x8.size : Int) then (if (bt x8 0) = 91 then (if 0 ≤ (wrap64 ((x8.size : Int) - 1)) then (if (wrap64 ((x8.size : Int) - 1)) < (x8.size : Int) then (if (bt x8 (wrap64 ((x8.size : Int) - 1))) = 93 then (if 1 ≤ (wrap64 ((x8.size : Int) - 1)) then (if (wrap64 ((x8.size : Int) - 1)) ≤ (x8.size : Int) then ((spec_sectionName.f k (x8.extract 1 ((wrap64 ((x8.size : Int) - 1)) : Int).toNat)).bind fun t142 => (if t142 = true then (spec_UnitParse.l0 k x5 (x8.extract 1 ((wrap64 ((x8.size : Int) - 1)) : Int).toNat) x22 x23 (wrap64 (x24 + 1))) else (some (([] : List (S52)), false, 2)))) else (none)) else (none)) else (some (([] : List (S52)), false, 2))) else (none)) else (none)) else (spec_UnitParse.l2 k x5 x6 x8 (-1) x22 x23 x24 (x8.size : Int) 0)) else (none))
def spec_UnitParse.l2 : Nat → List (S52) → ByteArray → ByteArray → Int → List ByteArray → Int → Int → Int → Int → Option ((List (S52)) × Bool × Int)
 | 0, _, _, _, _, _, _, _, _, _ => none
 | k + 1, x5, x6, x8, x10, x22, x23, x24, x123, x124 => if x124 < x123 then (if 0 ≤ x124 then (if x124 < (x8.size : Int) then (if (bt x8 x124) = 61 then (if x10 < 0 then (spec_UnitParse.l2 k x5 x6 x8 x124 x22 x23 x24 x123 (wrap64 (x124 + 1))) else (spec_UnitParse.l2 k x5 x6 x8 x10 x22 x23 x24 x123 (wrap64 (x124 + 1)))) else (spec_UnitParse.l2 k x5 x6 x8 x10 x22 x23 x24 x123 (wrap64 (x124 + 1)))) else (none)) else (none)) else (if x6.toList = ([] : List UInt8) then (some (([] : List (S52)), false, 2)) else (if x10 < 0 then (some (([] : List (S52)), false, 1)) else (if 0 ≤ x10 then (if x10 ≤ (x8.size : Int) then ((spec_trimmed.f k (x8.extract 0 (x10 : Int).toNat)).bind fun t143 => (if 0 ≤ (wrap64 (x10 + 1)) then (if (wrap64 (x10 + 1)) ≤ (x8.size : Int) then ((spec_trimmed.f k (x8.extract ((wrap64 (x10 + 1)) : Int).toNat x8.size)).bind fun t144 => ((spec_optionName.f k t143).bind fun t146 => (if t146 = true then (if x5.length < 2932031007402 then (spec_UnitParse.l0 k (x5 ++ [(⟨x6, t143, t144⟩ : S52)]) x6 x22 x23 (wrap64 (x24 + 1))) else (none)) else (some (([] : List (S52)), false, 2))))) else (none)) else (none))) else (none)) else (none))))
end
def spec_UnitParse.f (k : Nat) (a0 : ByteArray) : Option ((List (S52)) × Bool × Int) := (spec_ascii.f k a0).bind fun t132 => (if t132 = true then (spec_UnitParse.j0 k a0 (decide ((a0.size : Int) > 65536))) else (spec_UnitParse.j0 k a0 true))
theorem spec_UnitParse.mono_l : ∀ k, (∀ y0 y1, LeO (spec_UnitParse.j0 k y0 y1) (spec_UnitParse.j0 (k + 1) y0 y1)) ∧ (∀ y0 y1 y2 y3 y4, LeO (spec_UnitParse.l0 k y0 y1 y2 y3 y4) (spec_UnitParse.l0 (k + 1) y0 y1 y2 y3 y4)) ∧ (∀ y0 y1 y2 y3 y4 y5 y6 y7, LeO (spec_UnitParse.l1 k y0 y1 y2 y3 y4 y5 y6 y7) (spec_UnitParse.l1 (k + 1) y0 y1 y2 y3 y4 y5 y6 y7)) ∧ (∀ y0 y1 y2 y3 y4 y5 y6, LeO (spec_UnitParse.j3 k y0 y1 y2 y3 y4 y5 y6) (spec_UnitParse.j3 (k + 1) y0 y1 y2 y3 y4 y5 y6)) ∧ (∀ y0 y1 y2 y3 y4 y5 y6, LeO (spec_UnitParse.j4 k y0 y1 y2 y3 y4 y5 y6) (spec_UnitParse.j4 (k + 1) y0 y1 y2 y3 y4 y5 y6)) ∧ (∀ y0 y1 y2 y3 y4 y5 y6 y7 y8, LeO (spec_UnitParse.l2 k y0 y1 y2 y3 y4 y5 y6 y7 y8) (spec_UnitParse.l2 (k + 1) y0 y1 y2 y3 y4 y5 y6 y7 y8))
 | 0 => ⟨fun _ _ r h => by simp [spec_UnitParse.j0] at h, fun _ _ _ _ _ r h => by simp [spec_UnitParse.l0] at h, fun _ _ _ _ _ _ _ _ r h => by simp [spec_UnitParse.l1] at h, fun _ _ _ _ _ _ _ r h => by simp [spec_UnitParse.j3] at h, fun _ _ _ _ _ _ _ r h => by simp [spec_UnitParse.j4] at h, fun _ _ _ _ _ _ _ _ _ r h => by simp [spec_UnitParse.l2] at h⟩
 | k + 1 => by
  obtain ⟨ih0, ih1, ih2, ih3, ih4, ih5⟩ := spec_UnitParse.mono_l k
  refine ⟨?_, ?_, ?_, ?_, ?_, ?_⟩
  ·intro y0 y1
   unfold spec_UnitParse.j0
   repeat' first
   | (with_reducible exact ih0 _ _)
   | (with_reducible exact ih1 _ _ _ _ _)
   | (with_reducible exact ih2 _ _ _ _ _ _ _ _)
   | (with_reducible exact ih3 _ _ _ _ _ _ _)
   | (with_reducible exact ih4 _ _ _ _ _ _ _)
   | (with_reducible exact ih5 _ _ _ _ _ _ _ _ _)
   | (with_reducible exact spec_ascii.mono _ _)
   | (with_reducible exact spec_cutLines.mono _ _)
   | (with_reducible exact spec_optionName.mono _ _)
   | (with_reducible exact spec_sectionName.mono _ _)
   | (with_reducible exact spec_trimmed.mono _ _)
   | (with_reducible exact LeO.refl _)
   | (with_reducible exact LeO.none _)
   | (with_reducible refine LeO.ite ?_ ?_)
   | (with_reducible refine LeO.bind ?_ (fun _ => ?_))
   | exact ih0 _ _
   | exact ih1 _ _ _ _ _
   | exact ih2 _ _ _ _ _ _ _ _
   | exact ih3 _ _ _ _ _ _ _
   | exact ih4 _ _ _ _ _ _ _
   | exact ih5 _ _ _ _ _ _ _ _ _
   | exact spec_ascii.mono _ _
   | exact spec_cutLines.mono _ _
   | exact spec_optionName.mono _ _
   | exact spec_sectionName.mono _ _
   | exact spec_trimmed.mono _ _
   | exact LeO.none _
   | refine LeO.ite ?_ ?_
   | refine LeO.bind ?_ (fun _ => ?_)
  ·intro y0 y1 y2 y3 y4
   unfold spec_UnitParse.l0
   repeat' first
   | (with_reducible exact ih0 _ _)
   | (with_reducible exact ih1 _ _ _ _ _)
   | (with_reducible exact ih2 _ _ _ _ _ _ _ _)
   | (with_reducible exact ih3 _ _ _ _ _ _ _)
   | (with_reducible exact ih4 _ _ _ _ _ _ _)
   | (with_reducible exact ih5 _ _ _ _ _ _ _ _ _)
   | (with_reducible exact spec_ascii.mono _ _)
   | (with_reducible exact spec_cutLines.mono _ _)
   | (with_reducible exact spec_optionName.mono _ _)
   | (with_reducible exact spec_sectionName.mono _ _)
   | (with_reducible exact spec_trimmed.mono _ _)
   | (with_reducible exact LeO.refl _)
   | (with_reducible exact LeO.none _)
   | (with_reducible refine LeO.ite ?_ ?_)
   | (with_reducible refine LeO.bind ?_ (fun _ => ?_))
   | exact ih0 _ _
   | exact ih1 _ _ _ _ _
   | exact ih2 _ _ _ _ _ _ _ _
   | exact ih3 _ _ _ _ _ _ _
   | exact ih4 _ _ _ _ _ _ _
   | exact ih5 _ _ _ _ _ _ _ _ _
   | exact spec_ascii.mono _ _
   | exact spec_cutLines.mono _ _
   | exact spec_optionName.mono _ _
   | exact spec_sectionName.mono _ _
   | exact spec_trimmed.mono _ _
   | exact LeO.none _
   | refine LeO.ite ?_ ?_
   | refine LeO.bind ?_ (fun _ => ?_)
  ·intro y0 y1 y2 y3 y4 y5 y6 y7
   unfold spec_UnitParse.l1
   repeat' first
   | (with_reducible exact ih0 _ _)
   | (with_reducible exact ih1 _ _ _ _ _)
   | (with_reducible exact ih2 _ _ _ _ _ _ _ _)
   | (with_reducible exact ih3 _ _ _ _ _ _ _)
   | (with_reducible exact ih4 _ _ _ _ _ _ _)
   | (with_reducible exact ih5 _ _ _ _ _ _ _ _ _)
   | (with_reducible exact spec_ascii.mono _ _)
   | (with_reducible exact spec_cutLines.mono _ _)
   | (with_reducible exact spec_optionName.mono _ _)
   | (with_reducible exact spec_sectionName.mono _ _)
   | (with_reducible exact spec_trimmed.mono _ _)
   | (with_reducible exact LeO.refl _)
   | (with_reducible exact LeO.none _)
   | (with_reducible refine LeO.ite ?_ ?_)
   | (with_reducible refine LeO.bind ?_ (fun _ => ?_))
   | exact ih0 _ _
   | exact ih1 _ _ _ _ _
   | exact ih2 _ _ _ _ _ _ _ _
   | exact ih3 _ _ _ _ _ _ _
   | exact ih4 _ _ _ _ _ _ _
   | exact ih5 _ _ _ _ _ _ _ _ _
   | exact spec_ascii.mono _ _
   | exact spec_cutLines.mono _ _
   | exact spec_optionName.mono _ _
   | exact spec_sectionName.mono _ _
   | exact spec_trimmed.mono _ _
   | exact LeO.none _
   | refine LeO.ite ?_ ?_
   | refine LeO.bind ?_ (fun _ => ?_)
  ·intro y0 y1 y2 y3 y4 y5 y6
   unfold spec_UnitParse.j3
   repeat' first
   | (with_reducible exact ih0 _ _)
   | (with_reducible exact ih1 _ _ _ _ _)
   | (with_reducible exact ih2 _ _ _ _ _ _ _ _)
   | (with_reducible exact ih3 _ _ _ _ _ _ _)
   | (with_reducible exact ih4 _ _ _ _ _ _ _)
   | (with_reducible exact ih5 _ _ _ _ _ _ _ _ _)
   | (with_reducible exact spec_ascii.mono _ _)
   | (with_reducible exact spec_cutLines.mono _ _)
   | (with_reducible exact spec_optionName.mono _ _)
   | (with_reducible exact spec_sectionName.mono _ _)
   | (with_reducible exact spec_trimmed.mono _ _)
   | (with_reducible exact LeO.refl _)
   | (with_reducible exact LeO.none _)
   | (with_reducible refine LeO.ite ?_ ?_)
   | (with_reducible refine LeO.bind ?_ (fun _ => ?_))
   | exact ih0 _ _
   | exact ih1 _ _ _ _ _
   | exact ih2 _ _ _ _ _ _ _ _
   | exact ih3 _ _ _ _ _ _ _
   | exact ih4 _ _ _ _ _ _ _
   | exact ih5 _ _ _ _ _ _ _ _ _
   | exact spec_ascii.mono _ _
   | exact spec_cutLines.mono _ _
   | exact spec_optionName.mono _ _
   | exact spec_sectionName.mono _ _
   | exact spec_trimmed.mono _ _
   | exact LeO.none _
   | refine LeO.ite ?_ ?_
   | refine LeO.bind ?_ (fun _ => ?_)
  ·intro y0 y1 y2 y3 y4 y5 y6
   unfold spec_UnitParse.j4
   repeat' first
   | (with_reducible exact ih0 _ _)
   | (with_reducible exact ih1 _ _ _ _ _)
   | (with_reducible exact ih2 _ _ _ _ _ _ _ _)
   | (with_reducible exact ih3 _ _ _ _ _ _ _)
   | (with_reducible exact ih4 _ _ _ _ _ _ _)
   | (with_reducible exact ih5 _ _ _ _ _ _ _ _ _)
   | (with_reducible exact spec_ascii.mono _ _)
   | (with_reducible exact spec_cutLines.mono _ _)
   | (with_reducible exact spec_optionName.mono _ _)
   | (with_reducible exact spec_sectionName.mono _ _)
   | (with_reducible exact spec_trimmed.mono _ _)
   | (with_reducible exact LeO.refl _)
   | (with_reducible exact LeO.none _)
   | (with_reducible refine LeO.ite ?_ ?_)
   | (with_reducible refine LeO.bind ?_ (fun _ => ?_))
   | exact ih0 _ _
   | exact ih1 _ _ _ _ _
   | exact ih2 _ _ _ _ _ _ _ _
   | exact ih3 _ _ _ _ _ _ _
   | exact ih4 _ _ _ _ _ _ _
   | exact ih5 _ _ _ _ _ _ _ _ _
   | exact spec_ascii.mono _ _
   | exact spec_cutLines.mono _ _
   | exact spec_optionName.mono _ _
   | exact spec_sectionName.mono _ _
   | exact spec_trimmed.mono _ _
   | exact LeO.none _
   | refine LeO.ite ?_ ?_
   | refine LeO.bind ?_ (fun _ => ?_)
  ·intro y0 y1 y2 y3 y4 y5 y6 y7 y8
   unfold spec_UnitParse.l2
   repeat' first
   | (with_reducible exact ih0 _ _)
   | (with_reducible exact ih1 _ _ _ _ _)
   | (with_reducible exact ih2 _ _ _ _ _ _ _ _)
   | (with_reducible exact ih3 _ _ _ _ _ _ _)
   | (with_reducible exact ih4 _ _ _ _ _ _ _)
   | (with_reducible exact ih5 _ _ _ _ _ _ _ _ _)
   | (with_reducible exact spec_ascii.mono _ _)
   | (with_reducible exact spec_cutLines.mono _ _)
   | (with_reducible exact spec_optionName.mono _ _)
   | (with_reducible exact spec_sectionName.mono _ _)
   | (with_reducible exact spec_trimmed.mono _ _)
   | (with_reducible exact LeO.refl _)
   | (with_reducible exact LeO.none _)
   | (with_reducible refine LeO.ite ?_ ?_)
   | (with_reducible refine LeO.bind ?_ (fun _ => ?_))
   | exact ih0 _ _
   | exact ih1 _ _ _ _ _
   | exact ih2 _ _ _ _ _ _ _ _
   | exact ih3 _ _ _ _ _ _ _
   | exact ih4 _ _ _ _ _ _ _
   | exact ih5 _ _ _ _ _ _ _ _ _
   | exact spec_ascii.mono _ _
   | exact spec_cutLines.mono _ _
   | exact spec_optionName.mono _ _
   | exact spec_sectionName.mono _ _
   | exact spec_trimmed.mono _ _
   | exact LeO.none _
   | refine LeO.ite ?_ ?_
   | refine LeO.bind ?_ (fun _ => ?_)
theorem spec_UnitParse.mono : ∀ a0 k, LeO (spec_UnitParse.f k a0) (spec_UnitParse.f (k + 1) a0) := by
 intro a0 k
 obtain ⟨ih0, ih1, ih2, ih3, ih4, ih5⟩ := spec_UnitParse.mono_l k
 unfold spec_UnitParse.f
 repeat' first
   | (with_reducible exact ih0 _ _)
   | (with_reducible exact ih1 _ _ _ _ _)
   | (with_reducible exact ih2 _ _ _ _ _ _ _ _)
   | (with_reducible exact ih3 _ _ _ _ _ _ _)
   | (with_reducible exact ih4 _ _ _ _ _ _ _)
   | (with_reducible exact ih5 _ _ _ _ _ _ _ _ _)
   | (with_reducible exact spec_ascii.mono _ _)
   | (with_reducible exact spec_cutLines.mono _ _)
   | (with_reducible exact spec_optionName.mono _ _)
   | (with_reducible exact spec_sectionName.mono _ _)
   | (with_reducible exact spec_trimmed.mono _ _)
   | (with_reducible exact LeO.refl _)
   | (with_reducible exact LeO.none _)
   | (with_reducible refine LeO.ite ?_ ?_)
   | (with_reducible refine LeO.bind ?_ (fun _ => ?_))
   | exact ih0 _ _
   | exact ih1 _ _ _ _ _
   | exact ih2 _ _ _ _ _ _ _ _
   | exact ih3 _ _ _ _ _ _ _
   | exact ih4 _ _ _ _ _ _ _
   | exact ih5 _ _ _ _ _ _ _ _ _
   | exact spec_ascii.mono _ _
   | exact spec_cutLines.mono _ _
   | exact spec_optionName.mono _ _
   | exact spec_sectionName.mono _ _
   | exact spec_trimmed.mono _ _
   | exact LeO.none _
   | refine LeO.ite ?_ ?_
   | refine LeO.bind ?_ (fun _ => ?_)
def spec_UnitParse.T38 : Bool × List (List Nat × List Nat) := (true, [([], []), ([], []), ([], []), ([1, 2], [1, 2]), ([3], [3]), ([], []), ([], []), ([6], [6]), ([5, 7], [5, 7]), ([8, 4], [8]), ([0, 4, 9], [0, 4, 9]), ([], []), ([11, 10, 9, 0, 1, 2, 3, 4, 5, 6, 7, 8, 9, 10, 11], [10, 11])])
def spec_UnitParse.B38 : List Nat := [0, 0, 0, 6, 14, 0, 0, 64, 224, 510, 1023, 0, 4095]
theorem spec_UnitParse.tab38 : rtab .any (opsOf Tryd.f14 38) = spec_UnitParse.T38 := by kernel_rfl
theorem spec_UnitParse.bits38 : waitsOk spec_UnitParse.T38.2 spec_UnitParse.B38 = true := by kernel_rfl
set_option maxHeartbeats 8000000 in
set_option maxRecDepth 100000 in
theorem spec_UnitParse.calls (k : Nat) (a0 : ByteArray) (r1 : List (S52)) (r2 : Bool) (r3 : Int) (w : World) (h : spec_UnitParse.f k a0 = some (r1, r2, r3)) :
  Calls Tryd.prog 14 #[.string a0] w fun e w' => ∃ v0_ : Value, e = .returned (.tuple #[v0_, .bool r2, .int .i64 r3]) ∧ Kd.R k52 52 w' w.heap.size (fun _ => True) v0_ r1 ∧ Below w.heap.size w w' := by
 have hu52 := Tryd.underlying52
 have HB := Aside0.mk (Below.refl w.heap.size w)
 have H : ((spec_ascii.f k a0).bind fun t132 => (if t132 = true then (spec_UnitParse.j0 k a0 (decide ((a0.size : Int) > 65536))) else (spec_UnitParse.j0 k a0 true))) = some (r1, r2, r3) := h
 clear h
 have HC2 := Aside0.mk H
 clear H
 go_enter Tryd.func14, Tryd.ntmps14
 go_upto_region 1 with (fail)
 go_cut [20] (fun v20 wc => ∃ (kq : Nat) (x20_1 : Bool), v20 = .bool x20_1 ∧ Aside0 (spec_UnitParse.j0 kq a0 x20_1 = some (r1, r2, r3)) ∧ Aside0 (kq ≤ k) ∧ Aside0 (Below w.heap.size w wc))
 case first =>
  have H := HC2.out
  clear HC2
  replace H := Option.bind_eq_some_iff.mp H
  obtain ⟨t132, A30, H⟩ := H
  have A3 := Aside0.mk A30
  clear A30
  by_cases c4 : t132 = true
  ·subst c4
   have H1 : (spec_UnitParse.j0 k a0 (decide ((a0.size : Int) > 65536))) = some (r1, r2, r3) := by rw [if_pos rfl] at H; exact H
   clear H
   have H := H1
   clear H1
   have H' := Aside0.mk H
   clear H
   go_wp2_with (first | ((with_reducible refine gate_callee (f := 22) rfl ?_); refine goesL_ (some 14) rfl rfl Tryd.func22 (by kernel_rfl) rfl #[.string a0] rfl (by (try simp only [List.map_toArray, List.map_cons, List.map_nil]); first | done | rfl | (simp only [List.length_drop, List.length_take]; rfl)) ?_; (with_reducible refine (spec_ascii.calls k a0 true _ A3.out).mono ?_); rintro e w' ⟨rfl, ⟨nd, rfl⟩⟩; refine ⟨_, rfl, ?_⟩))
   go_meet
   case rel => exact ⟨_, (decide ((a0.size : Int) > 65536)), (by first | rfl | (simp; done) | (simp [*]; done) | (simp [bne_nil]; done) | (simp [bne_nil, *]; done)), H', ⟨by first | omega | exact Nat.le_refl _⟩, ⟨by repeat (first | (with_reducible first | exact HB.out | apply below_alloc | apply pw_below_drewN | apply below_drew1) | exact HB.out)⟩⟩
  ·replace c4 := Bool.eq_false_iff.mpr c4
   subst c4
   have H1 : (spec_UnitParse.j0 k a0 true) = some (r1, r2, r3) := by rw [if_neg (show ¬ (false = true) by decide)] at H; exact H
   clear H
   have H := H1
   clear H1
   have H' := Aside0.mk H
   clear H
   go_wp2_with (first | ((with_reducible refine gate_callee (f := 22) rfl ?_); refine goesL_ (some 14) rfl rfl Tryd.func22 (by kernel_rfl) rfl #[.string a0] rfl (by (try simp only [List.map_toArray, List.map_cons, List.map_nil]); first | done | rfl | (simp only [List.length_drop, List.length_take]; rfl)) ?_; (with_reducible refine (spec_ascii.calls k a0 false _ A3.out).mono ?_); rintro e w' ⟨rfl, ⟨nd, rfl⟩⟩; refine ⟨_, rfl, ?_⟩))
   go_meet
   case rel => exact ⟨_, (true), (by first | rfl | (simp; done) | (simp [*]; done) | (simp [bne_nil]; done) | (simp [bne_nil, *]; done)), H', ⟨by first | omega | exact Nat.le_refl _⟩, ⟨by repeat (first | (with_reducible first | exact HB.out | apply below_alloc | apply pw_below_drewN | apply below_drew1) | exact HB.out)⟩⟩
 case rest =>
  clear HC2
  try clear c1
  try clear c2
  try clear p2
  try clear c4
  obtain ⟨kq, x20_1, rfl, HA, HJ1, HB⟩ := hcut
  cases kq with
  | zero => exact absurd HA.out (by simp [spec_UnitParse.j0])
  | succ kj1 =>
   have H := HA.out
   clear HA
   simp only [spec_UnitParse.j0] at H
   by_cases c5 : x20_1 = true
   ·subst c5
    have H1 : (some (([] : List (S52)), false, 2)) = some (r1, r2, r3) := by rw [if_pos rfl] at H; exact H
    clear H
    have H := H1
    clear H1
    simp only [Option.some.injEq, Prod.mk.injEq] at H
    obtain ⟨rfl, rfl, rfl⟩ := H
    go_wp2
    go_ret3
    exact ⟨_, by first | rfl | (simp [errW_none, errW_some] <;> rfl) | (simp [*, errW_none, errW_some] <;> rfl), by first | exact Kd.R_nil _ _ _ _ _ | exact Kd.N_nil _ _ _ _ _ | exact Kd.V_nil _ _ _ _ _ | exact Kd.Q_nil _ _ _ _ _ | exact Kd.S_nil _ _ _ _ _, by repeat (first | (with_reducible first | exact HB.out | apply below_alloc | apply pw_below_drewN | apply below_drew1) | exact HB.out)⟩
   ·replace c5 := Bool.eq_false_iff.mpr c5
    subst c5
    have H1 : ((spec_cutLines.f kj1 a0).bind fun t133 => (spec_UnitParse.l0 kj1 ([] : List (S52)) (⟨#[]⟩ : ByteArray) t133 (t133.length : Int) 0)) = some (r1, r2, r3) := by rw [if_neg (show ¬ (false = true) by decide)] at H; exact H
    clear H
    have H := H1
    clear H1
    replace H := Option.bind_eq_some_iff.mp H
    obtain ⟨t133, A60, H⟩ := H
    have A6 := Aside0.mk A60
    clear A60
    have H' := Aside0.mk H
    clear H
    go_wp2_with (first | ((with_reducible refine gate_callee (f := 23) rfl ?_); refine goesL_ (some 22) rfl rfl Tryd.func23 (by kernel_rfl) rfl #[.string a0] rfl (by (try simp only [List.map_toArray, List.map_cons, List.map_nil]); first | done | rfl | (simp only [List.length_drop, List.length_take]; rfl)) ?_; (with_reducible refine (spec_cutLines.calls kj1 a0 t133 _ A6.out).mono ?_); rintro e w7 ⟨v134, rfl, ho0, hb⟩; refine ⟨_, rfl, ?_⟩; have n0_ := Aside0.mk (Kd.R_lower ho0 (below_size belH)); have n1_ := Aside0.mk (below_step belH hb); clear HB; have HO135 := n0_; have HB := n1_; clear n0_ n1_; (try clear hb); (try clear hb2); (try clear hk); (try clear hi); (try clear ho0); obtain ⟨Ao8, co8, eo8⟩ := Kd.R_slice HO135.out; subst eo8))
    go_loopg [5, 6, 24] kj1 (fun kq v5 v6 v24 w' => ∃ (x5_2 : List (S52)) (x6_2 : ByteArray) (x24_2 : Int), v6 = .string x6_2 ∧ v24 = .int .i64 x24_2 ∧ Aside0 (spec_UnitParse.l0 kq x5_2 x6_2 t133 (t133.length : Int) x24_2 = some (r1, r2, r3)) ∧ Aside0 (kq ≤ kj1) ∧ Aside0 (Kd.R k52 52 w' w.heap.size (fun _ => True) v5 x5_2) ∧ Aside0 (Kd.R Kd.string 9 w' w.heap.size (fun _ => True) (.slice Ao8 t133.length co8) t133) ∧ Aside0 (Below w.heap.size w w'))
    case atStart => exact ⟨(([] : List (S52))), ((⟨#[]⟩ : ByteArray)), (0), (by first | rfl | (simp; done) | (simp [*]; done) | (simp [bne_nil]; done) | (simp [bne_nil, *]; done)), (by first | rfl | (simp; done) | (simp [*]; done) | (simp [bne_nil]; done) | (simp [bne_nil, *]; done)), H', ⟨Nat.le_refl _⟩, ⟨by first | exact Kd.R_nil _ _ _ _ _ | exact Kd.N_nil _ _ _ _ _ | exact Kd.V_nil _ _ _ _ _ | exact Kd.Q_nil _ _ _ _ _ | exact Kd.S_nil _ _ _ _ _⟩, ⟨by (with_reducible repeat (first | apply Kd.R_alloc | apply Kd.R_drewN | apply Kd.R_drew)); exact HO135.out⟩, ⟨by repeat (first | (with_reducible first | exact HB.out | apply below_alloc | apply pw_below_drewN | apply below_drew1) | exact HB.out)⟩⟩
    case round =>
     clear H'
     try clear c1
     try clear c2
     try clear p2
     try clear c4
     try clear c5
     try clear p2
     obtain ⟨x5_2, x6_2, x24_2, rfl, rfl, HA, HK2, HO_5, HO_22, HB⟩ := hrel
     cases gk with
     | zero => exact absurd HA.out (by simp [spec_UnitParse.l0])
     | succ k2 =>
      have H := HA.out
      clear HA
      simp only [spec_UnitParse.l0] at H
      by_cases c9 : x24_2 < (t133.length : Int)
      ·rw [if_pos c9] at H
       have c9b0 : decide (x24_2 < (t133.length : Int)) = true := decide_eq_true c9
       clear c9
       by_cases c10 : 0 ≤ x24_2
       ·rw [if_pos c10] at H
        have c10b0 : decide (0 ≤ x24_2) = true := decide_eq_true c10
        clear c10
        by_cases c11 : x24_2 < (t133.length : Int)
        ·rw [if_pos c11] at H
         have c11b0 : decide (x24_2 < (t133.length : Int)) = true := decide_eq_true c11
         clear c11
         have H' := Aside0.mk H
         clear H
         have p136 : 0 ≤ (x24_2 : Int) := of_decide_eq_true (by first | (with_reducible assumption) | assumption)
         have q136 : x24_2 < (t133.length : Int) := of_decide_eq_true (by first | (with_reducible assumption) | assumption)
         obtain ⟨ad136, e136, hx136_0⟩ := Kd.at_string (Kd.R_reads' HO_22.out).2.2 x24_2 p136 q136
         cases e136
         replace p136 := eq_true p136
         replace q136 := eq_true q136
         go_wp2
         go_loopg [30] k2 (fun kq v30 w' => ∃ (x30_3 : Int), v30 = .int .i64 x30_3 ∧ Aside0 (spec_UnitParse.l1 kq x5_2 x6_2 (rdOf ByteArray.empty t133 x24_2) t133 (t133.length : Int) x24_2 ((rdOf ByteArray.empty t133 x24_2).size : Int) x30_3 = some (r1, r2, r3)) ∧ Aside0 (kq ≤ k2) ∧ Aside0 (Kd.R k52 52 w' w.heap.size (fun _ => True) u5 x5_2) ∧ Aside0 (Kd.R Kd.string 9 w' w.heap.size (fun _ => True) (.slice (some ad136) t133.length co8) t133) ∧ Aside0 (Below w.heap.size w w'))
         case atStart => exact ⟨(0), (by first | rfl | (simp; done) | (simp [*]; done) | (simp [bne_nil]; done) | (simp [bne_nil, *]; done)), H', ⟨Nat.le_refl _⟩, ⟨by (with_reducible repeat (first | apply Kd.R_alloc | apply Kd.R_drewN | apply Kd.R_drew)); exact HO_5.out⟩, ⟨by (with_reducible repeat (first | apply Kd.R_alloc | apply Kd.R_drewN | apply Kd.R_drew)); exact HO_22.out⟩, ⟨by repeat (first | (with_reducible first | exact HB.out | apply below_alloc | apply pw_below_drewN | apply below_drew1) | exact HB.out)⟩⟩
         case round =>
          clear H'
          try clear c1
          try clear p1
          try clear q1
          try clear hx1
          try clear c2
          try clear p2
          try clear c4
          try clear c5
          try clear c9
          try clear c9b0
          try clear c10
          try clear c10b0
          try clear c11
          try clear c11b0
          try clear hx136_0
          try clear p136
          try clear p2
          try clear q136
          obtain ⟨x30_3, rfl, HA, HK3, HO_5, HO_22, HB⟩ := hrel
          cases gk with
          | zero => exact absurd HA.out (by simp [spec_UnitParse.l1])
          | succ k3 =>
           have H := HA.out
           clear HA
           simp only [spec_UnitParse.l1] at H
           by_cases c12 : x30_3 < ((rdOf ByteArray.empty t133 x24_2).size : Int)
           ·rw [if_pos c12] at H
            have c12b0 : decide (x30_3 < ((rdOf ByteArray.empty t133 x24_2).size : Int)) = true := decide_eq_true c12
            clear c12
            by_cases c13 : 0 ≤ x30_3
            ·rw [if_pos c13] at H
             have c13b0 : decide (0 ≤ x30_3) = true := decide_eq_true c13
             clear c13
             by_cases c14 : x30_3 < ((rdOf ByteArray.empty t133 x24_2).size : Int)
             ·rw [if_pos c14] at H
              have c14b0 : decide (x30_3 < ((rdOf ByteArray.empty t133 x24_2).size : Int)) = true := decide_eq_true c14
              clear c14
              by_cases c16 : (bt (rdOf ByteArray.empty t133 x24_2) x30_3) < 32
              ·rw [if_pos c16] at H
               have c16b0 : decide ((bt (rdOf ByteArray.empty t133 x24_2) x30_3) < 32) = true := decide_eq_true c16
               clear c16
               by_cases c18 : (bt (rdOf ByteArray.empty t133 x24_2) x30_3) = 9
               ·rw [if_pos c18] at H
                have c18b0 : ((bt (rdOf ByteArray.empty t133 x24_2) x30_3) == 9) = true := beq_iff_eq.mpr c18
                have c18b1 : ((bt (rdOf ByteArray.empty t133 x24_2) x30_3) != 9) = false := bne_eq_false_iff_eq.mpr c18
                clear c18
                by_cases c20 : (bt (rdOf ByteArray.empty t133 x24_2) x30_3) = 127
                ·rw [if_pos c20] at H
                 have c20b0 : ((bt (rdOf ByteArray.empty t133 x24_2) x30_3) == 127) = true := beq_iff_eq.mpr c20
                 have c20b1 : ((bt (rdOf ByteArray.empty t133 x24_2) x30_3) != 127) = false := bne_eq_false_iff_eq.mpr c20
                 clear c20
                 simp only [Option.some.injEq, Prod.mk.injEq] at H
                 obtain ⟨rfl, rfl, rfl⟩ := H
                 have p15 : 0 ≤ (x30_3 : Int) := of_decide_eq_true (by first | (with_reducible assumption) | assumption)
                 have q15 : x30_3 < ((rdOf ByteArray.empty t133 x24_2).size : Int) := of_decide_eq_true (by first | (with_reducible assumption) | assumption)
                 have hx15 := bt_at (rdOf ByteArray.empty t133 x24_2) x30_3
                 replace p15 := eq_true p15
                 replace q15 := eq_true q15
                 have p17 : 0 ≤ (x30_3 : Int) := of_decide_eq_true (by first | (with_reducible assumption) | assumption)
                 have q17 : x30_3 < ((rdOf ByteArray.empty t133 x24_2).size : Int) := of_decide_eq_true (by first | (with_reducible assumption) | assumption)
                 have hx17 := bt_at (rdOf ByteArray.empty t133 x24_2) x30_3
                 replace p17 := eq_true p17
                 replace q17 := eq_true q17
                 have p19 : 0 ≤ (x30_3 : Int) := of_decide_eq_true (by first | (with_reducible assumption) | assumption)
                 have q19 : x30_3 < ((rdOf ByteArray.empty t133 x24_2).size : Int) := of_decide_eq_true (by first | (with_reducible assumption) | assumption)
                 have hx19 := bt_at (rdOf ByteArray.empty t133 x24_2) x30_3
                 replace p19 := eq_true p19
                 replace q19 := eq_true q19
                 go_wp2
                 go_ret3
                 exact ⟨_, by first | rfl | (simp [errW_none, errW_some] <;> rfl) | (simp [*, errW_none, errW_some] <;> rfl), by first | exact Kd.R_nil _ _ _ _ _ | exact Kd.N_nil _ _ _ _ _ | exact Kd.V_nil _ _ _ _ _ | exact Kd.Q_nil _ _ _ _ _ | exact Kd.S_nil _ _ _ _ _, by repeat (first | (with_reducible first | exact HB.out | apply below_alloc | apply pw_below_drewN | apply below_drew1) | exact HB.out)⟩
                ·rw [if_neg c20] at H
                 have c20b0 : ((bt (rdOf ByteArray.empty t133 x24_2) x30_3) == 127) = false := beq_eq_false_iff_ne.mpr c20
                 have c20b1 : ((bt (rdOf ByteArray.empty t133 x24_2) x30_3) != 127) = true := bne_iff_ne.mpr c20
                 have H' := Aside0.mk H
                 clear H
                 have p15 : 0 ≤ (x30_3 : Int) := of_decide_eq_true (by first | (with_reducible assumption) | assumption)
                 have q15 : x30_3 < ((rdOf ByteArray.empty t133 x24_2).size : Int) := of_decide_eq_true (by first | (with_reducible assumption) | assumption)
                 have hx15 := bt_at (rdOf ByteArray.empty t133 x24_2) x30_3
                 replace p15 := eq_true p15
                 replace q15 := eq_true q15
                 have p17 : 0 ≤ (x30_3 : Int) := of_decide_eq_true (by first | (with_reducible assumption) | assumption)
                 have q17 : x30_3 < ((rdOf ByteArray.empty t133 x24_2).size : Int) := of_decide_eq_true (by first | (with_reducible assumption) | assumption)
                 have hx17 := bt_at (rdOf ByteArray.empty t133 x24_2) x30_3
                 replace p17 := eq_true p17
                 replace q17 := eq_true q17
                 have p19 : 0 ≤ (x30_3 : Int) := of_decide_eq_true (by first | (with_reducible assumption) | assumption)
                 have q19 : x30_3 < ((rdOf ByteArray.empty t133 x24_2).size : Int) := of_decide_eq_true (by first | (with_reducible assumption) | assumption)
                 have hx19 := bt_at (rdOf ByteArray.empty t133 x24_2) x30_3
                 replace p19 := eq_true p19
                 replace q19 := eq_true q19
                 go_wp2
                 go_roundg k3
                 case measure => have := HJ1.out; have := HK2.out; have := HK3.out; omega
                 case rel => exact ⟨(wrap64 (x30_3 + 1)), (by first | rfl | (simp; done) | (simp [*]; done) | (simp [bne_nil]; done) | (simp [bne_nil, *]; done)), H', ⟨by have := HJ1.out; have := HK2.out; have := HK3.out; omega⟩, ⟨by (with_reducible repeat (first | apply Kd.R_alloc | apply Kd.R_drewN | apply Kd.R_drew)); exact HO_5.out⟩, ⟨by (with_reducible repeat (first | apply Kd.R_alloc | apply Kd.R_drewN | apply Kd.R_drew)); exact HO_22.out⟩, ⟨by repeat (first | (with_reducible first | exact HB.out | apply below_alloc | apply pw_below_drewN | apply below_drew1) | exact HB.out)⟩⟩
               ·rw [if_neg c18] at H
                have c18b0 : ((bt (rdOf ByteArray.empty t133 x24_2) x30_3) == 9) = false := beq_eq_false_iff_ne.mpr c18
                have c18b1 : ((bt (rdOf ByteArray.empty t133 x24_2) x30_3) != 9) = true := bne_iff_ne.mpr c18
                simp only [Option.some.injEq, Prod.mk.injEq] at H
                obtain ⟨rfl, rfl, rfl⟩ := H
                have p15 : 0 ≤ (x30_3 : Int) := of_decide_eq_true (by first | (with_reducible assumption) | assumption)
                have q15 : x30_3 < ((rdOf ByteArray.empty t133 x24_2).size : Int) := of_decide_eq_true (by first | (with_reducible assumption) | assumption)
                have hx15 := bt_at (rdOf ByteArray.empty t133 x24_2) x30_3
                replace p15 := eq_true p15
                replace q15 := eq_true q15
                have p17 : 0 ≤ (x30_3 : Int) := of_decide_eq_true (by first | (with_reducible assumption) | assumption)
                have q17 : x30_3 < ((rdOf ByteArray.empty t133 x24_2).size : Int) := of_decide_eq_true (by first | (with_reducible assumption) | assumption)
                have hx17 := bt_at (rdOf ByteArray.empty t133 x24_2) x30_3
                replace p17 := eq_true p17
                replace q17 := eq_true q17
                go_wp2
                go_ret3
                exact ⟨_, by first | rfl | (simp [errW_none, errW_some] <;> rfl) | (simp [*, errW_none, errW_some] <;> rfl), by first | exact Kd.R_nil _ _ _ _ _ | exact Kd.N_nil _ _ _ _ _ | exact Kd.V_nil _ _ _ _ _ | exact Kd.Q_nil _ _ _ _ _ | exact Kd.S_nil _ _ _ _ _, by repeat (first | (with_reducible first | exact HB.out | apply below_alloc | apply pw_below_drewN | apply below_drew1) | exact HB.out)⟩
              ·rw [if_neg c16] at H
               have c16b0 : decide ((bt (rdOf ByteArray.empty t133 x24_2) x30_3) < 32) = false := decide_eq_false c16
               clear c16
               by_cases c22 : (bt (rdOf ByteArray.empty t133 x24_2) x30_3) = 127
               ·rw [if_pos c22] at H
                have c22b0 : ((bt (rdOf ByteArray.empty t133 x24_2) x30_3) == 127) = true := beq_iff_eq.mpr c22
                have c22b1 : ((bt (rdOf ByteArray.empty t133 x24_2) x30_3) != 127) = false := bne_eq_false_iff_eq.mpr c22
                clear c22
                simp only [Option.some.injEq, Prod.mk.injEq] at H
                obtain ⟨rfl, rfl, rfl⟩ := H
                have p15 : 0 ≤ (x30_3 : Int) := of_decide_eq_true (by first | (with_reducible assumption) | assumption)
                have q15 : x30_3 < ((rdOf ByteArray.empty t133 x24_2).size : Int) := of_decide_eq_true (by first | (with_reducible assumption) | assumption)
                have hx15 := bt_at (rdOf ByteArray.empty t133 x24_2) x30_3
                replace p15 := eq_true p15
                replace q15 := eq_true q15
                have p21 : 0 ≤ (x30_3 : Int) := of_decide_eq_true (by first | (with_reducible assumption) | assumption)
                have q21 : x30_3 < ((rdOf ByteArray.empty t133 x24_2).size : Int) := of_decide_eq_true (by first | (with_reducible assumption) | assumption)
                have hx21 := bt_at (rdOf ByteArray.empty t133 x24_2) x30_3
                replace p21 := eq_true p21
                replace q21 := eq_true q21
                go_wp2
                go_ret3
                exact ⟨_, by first | rfl | (simp [errW_none, errW_some] <;> rfl) | (simp [*, errW_none, errW_some] <;> rfl), by first | exact Kd.R_nil _ _ _ _ _ | exact Kd.N_nil _ _ _ _ _ | exact Kd.V_nil _ _ _ _ _ | exact Kd.Q_nil _ _ _ _ _ | exact Kd.S_nil _ _ _ _ _, by repeat (first | (with_reducible first | exact HB.out | apply below_alloc | apply pw_below_drewN | apply below_drew1) | exact HB.out)⟩
               ·rw [if_neg c22] at H
                have c22b0 : ((bt (rdOf ByteArray.empty t133 x24_2) x30_3) == 127) = false := beq_eq_false_iff_ne.mpr c22
                have c22b1 : ((bt (rdOf ByteArray.empty t133 x24_2) x30_3) != 127) = true := bne_iff_ne.mpr c22
                have H' := Aside0.mk H
                clear H
                have p15 : 0 ≤ (x30_3 : Int) := of_decide_eq_true (by first | (with_reducible assumption) | assumption)
                have q15 : x30_3 < ((rdOf ByteArray.empty t133 x24_2).size : Int) := of_decide_eq_true (by first | (with_reducible assumption) | assumption)
                have hx15 := bt_at (rdOf ByteArray.empty t133 x24_2) x30_3
                replace p15 := eq_true p15
                replace q15 := eq_true q15
                have p21 : 0 ≤ (x30_3 : Int) := of_decide_eq_true (by first | (with_reducible assumption) | assumption)
                have q21 : x30_3 < ((rdOf ByteArray.empty t133 x24_2).size : Int) := of_decide_eq_true (by first | (with_reducible assumption) | assumption)
                have hx21 := bt_at (rdOf ByteArray.empty t133 x24_2) x30_3
                replace p21 := eq_true p21
                replace q21 := eq_true q21
                go_wp2
                go_roundg k3
                case measure => have := HJ1.out; have := HK2.out; have := HK3.out; omega
                case rel => exact ⟨(wrap64 (x30_3 + 1)), (by first | rfl | (simp; done) | (simp [*]; done) | (simp [bne_nil]; done) | (simp [bne_nil, *]; done)), H', ⟨by have := HJ1.out; have := HK2.out; have := HK3.out; omega⟩, ⟨by (with_reducible repeat (first | apply Kd.R_alloc | apply Kd.R_drewN | apply Kd.R_drew)); exact HO_5.out⟩, ⟨by (with_reducible repeat (first | apply Kd.R_alloc | apply Kd.R_drewN | apply Kd.R_drew)); exact HO_22.out⟩, ⟨by repeat (first | (with_reducible first | exact HB.out | apply below_alloc | apply pw_below_drewN | apply below_drew1) | exact HB.out)⟩⟩
             ·rw [if_neg c14] at H
              exact absurd H (by simp)
            ·rw [if_neg c13] at H
             exact absurd H (by simp)
           ·rw [if_neg c12] at H
            have c12b0 : decide (x30_3 < ((rdOf ByteArray.empty t133 x24_2).size : Int)) = false := decide_eq_false c12
            clear c12
            replace H := Option.bind_eq_some_iff.mp H
            obtain ⟨t137, A230, H⟩ := H
            have A23 := Aside0.mk A230
            clear A230
            by_cases c24 : t137.toList = ([] : List UInt8)
            ·rw [if_pos c24] at H
             have c24b0 : (t137.toList == ([] : List UInt8)) = true := beq_iff_eq.mpr c24
             have c24b1 : (t137.toList != ([] : List UInt8)) = false := bne_eq_false_iff_eq.mpr c24
             clear c24
             by_cases c25 : (rdOf ByteArray.empty t133 x24_2).toList = ([] : List UInt8)
             ·rw [if_pos c25] at H
              have c25b0 : ((rdOf ByteArray.empty t133 x24_2).toList == ([] : List UInt8)) = true := beq_iff_eq.mpr c25
              have c25b1 : ((rdOf ByteArray.empty t133 x24_2).toList != ([] : List UInt8)) = false := bne_eq_false_iff_eq.mpr c25
              clear c25
              have H' := Aside0.mk H
              clear H
              go_wp2_with (first | ((with_reducible refine gate_callee (f := 24) rfl ?_); refine goesL_ (some 51) rfl rfl Tryd.func24 (by kernel_rfl) rfl #[.string (rdOf ByteArray.empty t133 x24_2)] rfl (by (try simp only [List.map_toArray, List.map_cons, List.map_nil]); first | done | rfl | (simp only [List.length_drop, List.length_take]; rfl)) ?_; (with_reducible refine (spec_trimmed.calls k3 (rdOf ByteArray.empty t133 x24_2) t137 _ A23.out).mono ?_); rintro e w' ⟨rfl, ⟨nd, rfl⟩⟩; refine ⟨_, rfl, ?_⟩))
              go_roundg k3
              case measure => have := HJ1.out; have := HK2.out; have := HK3.out; omega
              case rel => exact ⟨(x5_2), (x6_2), (wrap64 (x24_2 + 1)), (by first | rfl | (simp; done) | (simp [*]; done) | (simp [bne_nil]; done) | (simp [bne_nil, *]; done)), (by first | rfl | (simp; done) | (simp [*]; done) | (simp [bne_nil]; done) | (simp [bne_nil, *]; done)), H', ⟨by have := HJ1.out; have := HK2.out; have := HK3.out; omega⟩, ⟨by (with_reducible repeat (first | apply Kd.R_alloc | apply Kd.R_drewN | apply Kd.R_drew)); exact HO_5.out⟩, ⟨by (with_reducible repeat (first | apply Kd.R_alloc | apply Kd.R_drewN | apply Kd.R_drew)); exact HO_22.out⟩, ⟨by repeat (first | (with_reducible first | exact HB.out | apply below_alloc | apply pw_below_drewN | apply below_drew1) | exact HB.out)⟩⟩
             ·rw [if_neg c25] at H
              have c25b0 : ((rdOf ByteArray.empty t133 x24_2).toList == ([] : List UInt8)) = false := beq_eq_false_iff_ne.mpr c25
              have c25b1 : ((rdOf ByteArray.empty t133 x24_2).toList != ([] : List UInt8)) = true := bne_iff_ne.mpr c25
              simp only [Option.some.injEq, Prod.mk.injEq] at H
              obtain ⟨rfl, rfl, rfl⟩ := H
              go_wp2_with (first | ((with_reducible refine gate_callee (f := 24) rfl ?_); refine goesL_ (some 51) rfl rfl Tryd.func24 (by kernel_rfl) rfl #[.string (rdOf ByteArray.empty t133 x24_2)] rfl (by (try simp only [List.map_toArray, List.map_cons, List.map_nil]); first | done | rfl | (simp only [List.length_drop, List.length_take]; rfl)) ?_; (with_reducible refine (spec_trimmed.calls k3 (rdOf ByteArray.empty t133 x24_2) t137 _ A23.out).mono ?_); rintro e w' ⟨rfl, ⟨nd, rfl⟩⟩; refine ⟨_, rfl, ?_⟩))
              go_ret3
              exact ⟨_, by first | rfl | (simp [errW_none, errW_some] <;> rfl) | (simp [*, errW_none, errW_some] <;> rfl), by first | exact Kd.R_nil _ _ _ _ _ | exact Kd.N_nil _ _ _ _ _ | exact Kd.V_nil _ _ _ _ _ | exact Kd.Q_nil _ _ _ _ _ | exact Kd.S_nil _ _ _ _ _, by repeat (first | (with_reducible first | exact HB.out | apply below_alloc | apply pw_below_drewN | apply below_drew1) | exact HB.out)⟩
            ·rw [if_neg c24] at H
             have c24b0 : (t137.toList == ([] : List UInt8)) = false := beq_eq_false_iff_ne.mpr c24
             have c24b1 : (t137.toList != ([] : List UInt8)) = true := bne_iff_ne.mpr c24
             have HC26 := Aside0.mk H
             clear H
             go_upto_region 17 with (first | ((with_reducible refine gate_callee (f := 24) rfl ?_); refine goesL_ (some 51) rfl rfl Tryd.func24 (by kernel_rfl) rfl #[.string (rdOf ByteArray.empty t133 x24_2)] rfl (by (try simp only [List.map_toArray, List.map_cons, List.map_nil]); first | done | rfl | (simp only [List.length_drop, List.length_take]; rfl)) ?_; (with_reducible refine (spec_trimmed.calls k3 (rdOf ByteArray.empty t133 x24_2) t137 _ A23.out).mono ?_); rintro e w' ⟨rfl, ⟨nd, rfl⟩⟩; refine ⟨_, rfl, ?_⟩))
             (try simp only [Act.put, List.setIfInBounds_toArray, List.set_cons_zero, List.set_cons_succ])
             go_cut [82] (fun v82 wc => ∃ (kq : Nat) (x82_25 : Bool), v82 = .bool x82_25 ∧ Aside0 (spec_UnitParse.j3 kq x5_2 x6_2 (rdOf ByteArray.empty t133 x24_2) t133 (t133.length : Int) x24_2 x82_25 = some (r1, r2, r3)) ∧ Aside0 (kq ≤ k3) ∧ Aside0 (Kd.R k52 52 wc w.heap.size (fun _ => True) u5 x5_2) ∧ Aside0 (Kd.R Kd.string 9 wc w.heap.size (fun _ => True) (.slice (some ad136) t133.length co8) t133) ∧ Aside0 (Below w.heap.size w wc))
             case first =>
              have H := HC26.out
              clear HC26
              obtain ⟨ji27, hji27⟩ : ∃ j_ : Int, (wrap64 (((rdOf ByteArray.empty t133 x24_2).size : Int) - 1)) = j_ := ⟨_, rfl⟩
              replace H : (if 0 ≤ (ji27) then (if (ji27) < ((rdOf ByteArray.empty t133 x24_2).size : Int) then (if (bt (rdOf ByteArray.empty t133 x24_2) (ji27)) = 92 then (spec_UnitParse.j3 k3 x5_2 x6_2 (rdOf ByteArray.empty t133 x24_2) t133 (t133.length : Int) x24_2 true) else (if ((rdOf ByteArray.empty t133 x24_2).size : Int) > 1900 then (spec_UnitParse.j3 k3 x5_2 x6_2 (rdOf ByteArray.empty t133 x24_2) t133 (t133.length : Int) x24_2 true) else (if 0 < ((rdOf ByteArray.empty t133 x24_2).size : Int) then ((spec_blank.f (bt (rdOf ByteArray.empty t133 x24_2) 0)).bind fun t138 => (if t138 = true then ((spec_trimmed.f k3 (rdOf ByteArray.empty t133 x24_2)).bind fun t139 => (if 0 < (t139.size : Int) then (if (bt t139 0) = 35 then (spec_UnitParse.j3 k3 x5_2 x6_2 (rdOf ByteArray.empty t133 x24_2) t133 (t133.length : Int) x24_2 true) else ((spec_trimmed.f k3 (rdOf ByteArray.empty t133 x24_2)).bind fun t140 => (if 0 < (t140.size : Int) then (spec_UnitParse.j3 k3 x5_2 x6_2 (rdOf ByteArray.empty t133 x24_2) t133 (t133.length : Int) x24_2 ((bt t140 0) == 59)) else (none)))) else (none))) else (spec_UnitParse.j3 k3 x5_2 x6_2 (rdOf ByteArray.empty t133 x24_2) t133 (t133.length : Int) x24_2 false))) else (none)))) else (none)) else (none)) = some (r1, r2, r3) := by first | (rw [hji27] at H; exact H) | (simp only [hji27] at H ⊢; exact H)
              have hji27w : (IntKind.i64.wrap (((rdOf ByteArray.empty t133 x24_2).size : Int) - 1)) = ji27 := (i64_w _).trans hji27
              by_cases c28 : 0 ≤ (ji27)
              ·rw [if_pos c28] at H
               have c28b0 : decide (0 ≤ (ji27)) = true := decide_eq_true c28
               clear c28
               (first | rw [c28b0] | (simp only [i64_w, i32_w]; rw [c28b0]) | skip)
               by_cases c29 : (ji27) < ((rdOf ByteArray.empty t133 x24_2).size : Int)
               ·rw [if_pos c29] at H
                have c29b0 : decide ((ji27) < ((rdOf ByteArray.empty t133 x24_2).size : Int)) = true := decide_eq_true c29
                clear c29
                by_cases c31 : (bt (rdOf ByteArray.empty t133 x24_2) (ji27)) = 92
                ·rw [if_pos c31] at H
                 have c31b0 : ((bt (rdOf ByteArray.empty t133 x24_2) (ji27)) == 92) = true := beq_iff_eq.mpr c31
                 have c31b1 : ((bt (rdOf ByteArray.empty t133 x24_2) (ji27)) != 92) = false := bne_eq_false_iff_eq.mpr c31
                 clear c31
                 have H' := Aside0.mk H
                 clear H
                 have p30 : 0 ≤ ((ji27) : Int) := of_decide_eq_true (by first | (with_reducible assumption) | assumption)
                 have q30 : (ji27) < ((rdOf ByteArray.empty t133 x24_2).size : Int) := of_decide_eq_true (by first | (with_reducible assumption) | assumption)
                 have hx30 := bt_at (rdOf ByteArray.empty t133 x24_2) (ji27)
                 replace p30 := eq_true p30
                 replace q30 := eq_true q30
                 go_wp2
                 go_meet
                 case rel => exact ⟨_, (true), (by first | rfl | (simp; done) | (simp [*]; done) | (simp [bne_nil]; done) | (simp [bne_nil, *]; done)), H', ⟨by have := HJ1.out; have := HK2.out; have := HK3.out; first | omega | exact Nat.le_refl _⟩, ⟨by (with_reducible repeat (first | apply Kd.R_alloc | apply Kd.R_drewN | apply Kd.R_drew)); exact HO_5.out⟩, ⟨by (with_reducible repeat (first | apply Kd.R_alloc | apply Kd.R_drewN | apply Kd.R_drew)); exact HO_22.out⟩, ⟨by repeat (first | (with_reducible first | exact HB.out | apply below_alloc | apply pw_below_drewN | apply below_drew1) | exact HB.out)⟩⟩
                ·rw [if_neg c31] at H
                 have c31b0 : ((bt (rdOf ByteArray.empty t133 x24_2) (ji27)) == 92) = false := beq_eq_false_iff_ne.mpr c31
                 have c31b1 : ((bt (rdOf ByteArray.empty t133 x24_2) (ji27)) != 92) = true := bne_iff_ne.mpr c31
                 by_cases c32 : ((rdOf ByteArray.empty t133 x24_2).size : Int) > 1900
                 ·rw [if_pos c32] at H
                  have c32b0 : decide (1900 < ((rdOf ByteArray.empty t133 x24_2).size : Int)) = true := decide_eq_true c32
                  have c32b1 : decide (1900 < (rdOf ByteArray.empty t133 x24_2).size) = true := decide_eq_true (by omega)
                  clear c32
                  have H' := Aside0.mk H
                  clear H
                  have p30 : 0 ≤ ((ji27) : Int) := of_decide_eq_true (by first | (with_reducible assumption) | assumption)
                  have q30 : (ji27) < ((rdOf ByteArray.empty t133 x24_2).size : Int) := of_decide_eq_true (by first | (with_reducible assumption) | assumption)
                  have hx30 := bt_at (rdOf ByteArray.empty t133 x24_2) (ji27)
                  replace p30 := eq_true p30
                  replace q30 := eq_true q30
                  go_wp2
                  go_meet
                  case rel => exact ⟨_, (true), (by first | rfl | (simp; done) | (simp [*]; done) | (simp [bne_nil]; done) | (simp [bne_nil, *]; done)), H', ⟨by have := HJ1.out; have := HK2.out; have := HK3.out; first | omega | exact Nat.le_refl _⟩, ⟨by (with_reducible repeat (first | apply Kd.R_alloc | apply Kd.R_drewN | apply Kd.R_drew)); exact HO_5.out⟩, ⟨by (with_reducible repeat (first | apply Kd.R_alloc | apply Kd.R_drewN | apply Kd.R_drew)); exact HO_22.out⟩, ⟨by repeat (first | (with_reducible first | exact HB.out | apply below_alloc | apply pw_below_drewN | apply below_drew1) | exact HB.out)⟩⟩
                 ·rw [if_neg c32] at H
                  have c32b0 : decide (1900 < ((rdOf ByteArray.empty t133 x24_2).size : Int)) = false := decide_eq_false c32
                  have c32b1 : decide (1900 < (rdOf ByteArray.empty t133 x24_2).size) = false := decide_eq_false (by omega)
                  clear c32
                  by_cases c33 : 0 < ((rdOf ByteArray.empty t133 x24_2).size : Int)
                  ·rw [if_pos c33] at H
                   have c33b0 : decide (0 < ((rdOf ByteArray.empty t133 x24_2).size : Int)) = true := decide_eq_true c33
                   have c33b1 : decide (0 < (rdOf ByteArray.empty t133 x24_2).size) = true := decide_eq_true (by omega)
                   clear c33
                   replace H := Option.bind_eq_some_iff.mp H
                   obtain ⟨t138, A350, H⟩ := H
                   have A35 := Aside0.mk A350
                   clear A350
                   by_cases c36 : t138 = true
                   ·subst c36
                    have H1 : ((spec_trimmed.f k3 (rdOf ByteArray.empty t133 x24_2)).bind fun t139 => (if 0 < (t139.size : Int) then (if (bt t139 0) = 35 then (spec_UnitParse.j3 k3 x5_2 x6_2 (rdOf ByteArray.empty t133 x24_2) t133 (t133.length : Int) x24_2 true) else ((spec_trimmed.f k3 (rdOf ByteArray.empty t133 x24_2)).bind fun t140 => (if 0 < (t140.size : Int) then (spec_UnitParse.j3 k3 x5_2 x6_2 (rdOf ByteArray.empty t133 x24_2) t133 (t133.length : Int) x24_2 ((bt t140 0) == 59)) else (none)))) else (none))) = some (r1, r2, r3) := by rw [if_pos rfl] at H; exact H
                    clear H
                    have H := H1
                    clear H1
                    replace H := Option.bind_eq_some_iff.mp H
                    obtain ⟨t139, A370, H⟩ := H
                    have A37 := Aside0.mk A370
                    clear A370
                    by_cases c38 : 0 < (t139.size : Int)
                    ·rw [if_pos c38] at H
                     have c38b0 : decide (0 < (t139.size : Int)) = true := decide_eq_true c38
                     have c38b1 : decide (0 < t139.size) = true := decide_eq_true (by omega)
                     clear c38
                     by_cases c40 : (bt t139 0) = 35
                     ·rw [if_pos c40] at H
                      have c40b0 : ((bt t139 0) == 35) = true := beq_iff_eq.mpr c40
                      have c40b1 : ((bt t139 0) != 35) = false := bne_eq_false_iff_eq.mpr c40
                      clear c40
                      have H' := Aside0.mk H
                      clear H
                      have p30 : 0 ≤ ((ji27) : Int) := of_decide_eq_true (by first | (with_reducible assumption) | assumption)
                      have q30 : (ji27) < ((rdOf ByteArray.empty t133 x24_2).size : Int) := of_decide_eq_true (by first | (with_reducible assumption) | assumption)
                      have hx30 := bt_at (rdOf ByteArray.empty t133 x24_2) (ji27)
                      replace p30 := eq_true p30
                      replace q30 := eq_true q30
                      have p34 : 0 ≤ (0 : Int) := (by omega)
                      have q34 : 0 < (rdOf ByteArray.empty t133 x24_2).size := (by have : (0 : Int) < ((rdOf ByteArray.empty t133 x24_2).size : Int) := of_decide_eq_true (by first | (with_reducible assumption) | assumption); omega)
                      have hx34 : ∀ h : 0 < (rdOf ByteArray.empty t133 x24_2).size, (((rdOf ByteArray.empty t133 x24_2)[0]'h).toNat : Int) = bt (rdOf ByteArray.empty t133 x24_2) 0 := bt_at (rdOf ByteArray.empty t133 x24_2) 0
                      clear p34
                      have qi34 : (0 < ((rdOf ByteArray.empty t133 x24_2).size : Int)) = True := eq_true (of_decide_eq_true (by first | (with_reducible assumption) | assumption))
                      replace q34 := eq_true q34
                      go_wp2_with (first | (go_at_call 25; (with_reducible refine (spec_blank.calls (bt (rdOf ByteArray.empty t133 x24_2) 0) true _ A35.out).mono ?_); rintro e w' ⟨rfl, ⟨nd, rfl⟩⟩) | (go_at_call 24; (with_reducible refine (spec_trimmed.calls k3 (rdOf ByteArray.empty t133 x24_2) t139 _ A37.out).mono ?_); rintro e w' ⟨rfl, ⟨nd, rfl⟩⟩; have p39 : 0 ≤ (0 : Int) := (by omega); have q39 : 0 < t139.size := (by have : (0 : Int) < (t139.size : Int) := of_decide_eq_true (by first | (with_reducible assumption) | assumption); omega); have hx39 : ∀ h : 0 < t139.size, ((t139[0]'h).toNat : Int) = bt t139 0 := bt_at t139 0; clear p39; have qi39 : (0 < (t139.size : Int)) = True := eq_true (of_decide_eq_true (by first | (with_reducible assumption) | assumption)); replace q39 := eq_true q39))
                      go_meet
                      case rel => exact ⟨_, (true), (by first | rfl | (simp; done) | (simp [*]; done) | (simp [bne_nil]; done) | (simp [bne_nil, *]; done)), H', ⟨by have := HJ1.out; have := HK2.out; have := HK3.out; first | omega | exact Nat.le_refl _⟩, ⟨by (with_reducible repeat (first | apply Kd.R_alloc | apply Kd.R_drewN | apply Kd.R_drew)); exact HO_5.out⟩, ⟨by (with_reducible repeat (first | apply Kd.R_alloc | apply Kd.R_drewN | apply Kd.R_drew)); exact HO_22.out⟩, ⟨by repeat (first | (with_reducible first | exact HB.out | apply below_alloc | apply pw_below_drewN | apply below_drew1) | exact HB.out)⟩⟩
                     ·rw [if_neg c40] at H
                      have c40b0 : ((bt t139 0) == 35) = false := beq_eq_false_iff_ne.mpr c40
                      have c40b1 : ((bt t139 0) != 35) = true := bne_iff_ne.mpr c40
                      replace H := Option.bind_eq_some_iff.mp H
                      obtain ⟨t140, A410, H⟩ := H
                      have ee_ := Aside0.mk (Option.some.inj (A37.out.symm.trans A410) : t139 = t140)
                      have A41 := Aside0.mk A410
                      clear A410
                      by_cases c42 : 0 < (t140.size : Int)
                      ·rw [if_pos c42] at H
                       have c42b0 : decide (0 < (t140.size : Int)) = true := decide_eq_true c42
                       have c42b1 : decide (0 < t140.size) = true := decide_eq_true (by omega)
                       clear c42
                       have H' := Aside0.mk H
                       clear H
                       have p30 : 0 ≤ ((ji27) : Int) := of_decide_eq_true (by first | (with_reducible assumption) | assumption)
                       have q30 : (ji27) < ((rdOf ByteArray.empty t133 x24_2).size : Int) := of_decide_eq_true (by first | (with_reducible assumption) | assumption)
                       have hx30 := bt_at (rdOf ByteArray.empty t133 x24_2) (ji27)
                       replace p30 := eq_true p30
                       replace q30 := eq_true q30
                       have p34 : 0 ≤ (0 : Int) := (by omega)
                       have q34 : 0 < (rdOf ByteArray.empty t133 x24_2).size := (by have : (0 : Int) < ((rdOf ByteArray.empty t133 x24_2).size : Int) := of_decide_eq_true (by first | (with_reducible assumption) | assumption); omega)
                       have hx34 : ∀ h : 0 < (rdOf ByteArray.empty t133 x24_2).size, (((rdOf ByteArray.empty t133 x24_2)[0]'h).toNat : Int) = bt (rdOf ByteArray.empty t133 x24_2) 0 := bt_at (rdOf ByteArray.empty t133 x24_2) 0
                       clear p34
                       have qi34 : (0 < ((rdOf ByteArray.empty t133 x24_2).size : Int)) = True := eq_true (of_decide_eq_true (by first | (with_reducible assumption) | assumption))
                       replace q34 := eq_true q34
                       go_wp2_with (first | (go_at_call 25; (with_reducible refine (spec_blank.calls (bt (rdOf ByteArray.empty t133 x24_2) 0) true _ A35.out).mono ?_); rintro e w' ⟨rfl, ⟨nd, rfl⟩⟩) | (go_at_call 24; (with_reducible refine (spec_trimmed.calls k3 (rdOf ByteArray.empty t133 x24_2) t139 _ A37.out).mono ?_); rintro e w' ⟨rfl, ⟨nd, rfl⟩⟩; have p39 : 0 ≤ (0 : Int) := (by omega); have q39 : 0 < t139.size := (by have : (0 : Int) < (t139.size : Int) := of_decide_eq_true (by first | (with_reducible assumption) | assumption); omega); have hx39 : ∀ h : 0 < t139.size, ((t139[0]'h).toNat : Int) = bt t139 0 := bt_at t139 0; clear p39; have qi39 : (0 < (t139.size : Int)) = True := eq_true (of_decide_eq_true (by first | (with_reducible assumption) | assumption)); replace q39 := eq_true q39) | (go_at_call 24; (with_reducible refine (spec_trimmed.calls k3 (rdOf ByteArray.empty t133 x24_2) t140 _ A41.out).mono ?_); rintro e w' ⟨rfl, ⟨nd, rfl⟩⟩; have p43 : 0 ≤ (0 : Int) := (by omega); have q43 : 0 < t140.size := (by have : (0 : Int) < (t140.size : Int) := of_decide_eq_true (by first | (with_reducible assumption) | assumption); omega); have hx43 : ∀ h : 0 < t140.size, ((t140[0]'h).toNat : Int) = bt t140 0 := bt_at t140 0; clear p43; have qi43 : (0 < (t140.size : Int)) = True := eq_true (of_decide_eq_true (by first | (with_reducible assumption) | assumption)); replace q43 := eq_true q43))
                       go_meet
                       case rel => exact ⟨_, (((bt t140 0) == 59)), (by first | rfl | (rw [ee_.out]; done) | (rw [← ee_.out]; done) | (simp; done) | (simp [*]; done) | (simp [bne_nil]; done) | (simp [bne_nil, *]; done)), H', ⟨by have := HJ1.out; have := HK2.out; have := HK3.out; first | omega | exact Nat.le_refl _⟩, ⟨by (with_reducible repeat (first | apply Kd.R_alloc | apply Kd.R_drewN | apply Kd.R_drew)); exact HO_5.out⟩, ⟨by (with_reducible repeat (first | apply Kd.R_alloc | apply Kd.R_drewN | apply Kd.R_drew)); exact HO_22.out⟩, ⟨by repeat (first | (with_reducible first | exact HB.out | apply below_alloc | apply pw_below_drewN | apply below_drew1) | exact HB.out)⟩⟩
                      ·rw [if_neg c42] at H
                       exact absurd H (by simp)
                    ·rw [if_neg c38] at H
                     exact absurd H (by simp)
                   ·replace c36 := Bool.eq_false_iff.mpr c36
                    subst c36
                    have H1 : (spec_UnitParse.j3 k3 x5_2 x6_2 (rdOf ByteArray.empty t133 x24_2) t133 (t133.length : Int) x24_2 false) = some (r1, r2, r3) := by rw [if_neg (show ¬ (false = true) by decide)] at H; exact H
                    clear H
                    have H := H1
                    clear H1
                    have H' := Aside0.mk H
                    clear H
                    have p30 : 0 ≤ ((ji27) : Int) := of_decide_eq_true (by first | (with_reducible assumption) | assumption)
                    have q30 : (ji27) < ((rdOf ByteArray.empty t133 x24_2).size : Int) := of_decide_eq_true (by first | (with_reducible assumption) | assumption)
                    have hx30 := bt_at (rdOf ByteArray.empty t133 x24_2) (ji27)
                    replace p30 := eq_true p30
                    replace q30 := eq_true q30
                    have p34 : 0 ≤ (0 : Int) := (by omega)
                    have q34 : 0 < (rdOf ByteArray.empty t133 x24_2).size := (by have : (0 : Int) < ((rdOf ByteArray.empty t133 x24_2).size : Int) := of_decide_eq_true (by first | (with_reducible assumption) | assumption); omega)
                    have hx34 : ∀ h : 0 < (rdOf ByteArray.empty t133 x24_2).size, (((rdOf ByteArray.empty t133 x24_2)[0]'h).toNat : Int) = bt (rdOf ByteArray.empty t133 x24_2) 0 := bt_at (rdOf ByteArray.empty t133 x24_2) 0
                    clear p34
                    have qi34 : (0 < ((rdOf ByteArray.empty t133 x24_2).size : Int)) = True := eq_true (of_decide_eq_true (by first | (with_reducible assumption) | assumption))
                    replace q34 := eq_true q34
                    go_wp2_with (first | (go_at_call 25; (with_reducible refine (spec_blank.calls (bt (rdOf ByteArray.empty t133 x24_2) 0) false _ A35.out).mono ?_); rintro e w' ⟨rfl, ⟨nd, rfl⟩⟩))
                    go_meet
                    case rel => exact ⟨_, (false), (by first | rfl | (simp; done) | (simp [*]; done) | (simp [bne_nil]; done) | (simp [bne_nil, *]; done)), H', ⟨by have := HJ1.out; have := HK2.out; have := HK3.out; first | omega | exact Nat.le_refl _⟩, ⟨by (with_reducible repeat (first | apply Kd.R_alloc | apply Kd.R_drewN | apply Kd.R_drew)); exact HO_5.out⟩, ⟨by (with_reducible repeat (first | apply Kd.R_alloc | apply Kd.R_drewN | apply Kd.R_drew)); exact HO_22.out⟩, ⟨by repeat (first | (with_reducible first | exact HB.out | apply below_alloc | apply pw_below_drewN | apply below_drew1) | exact HB.out)⟩⟩
                  ·rw [if_neg c33] at H
                   exact absurd H (by simp)
               ·rw [if_neg c29] at H
                exact absurd H (by simp)
              ·rw [if_neg c28] at H
               exact absurd H (by simp)
             case rest =>
              clear HC26
              try clear c1
              try clear p1
              try clear q1
              try clear hx1
              try clear c2
              try clear p2
              try clear q2
              try clear hx2
              try clear c3
              try clear p3
              try clear q3
              try clear hx3
              try clear qi3
              try clear c4
              try clear p4
              try clear q4
              try clear hx4
              try clear qi4
              try clear c5
              try clear p6
              try clear c9
              try clear c9b0
              try clear c10
              try clear c10b0
              try clear c11
              try clear c11b0
              try clear c12
              try clear c12b0
              try clear c13
              try clear c13b0
              try clear p13
              try clear q13
              try clear hx13
              try clear c14
              try clear c14b0
              try clear p15
              try clear q15
              try clear hx15
              try clear c16
              try clear c16b0
              try clear p17
              try clear q17
              try clear hx17
              try clear c18
              try clear c18b0
              try clear c18b1
              try clear p19
              try clear q19
              try clear hx19
              try clear c20
              try clear c20b0
              try clear c20b1
              try clear p21
              try clear q21
              try clear hx21
              try clear c22
              try clear c22b0
              try clear c22b1
              try clear c23
              try clear c24
              try clear c24b0
              try clear c24b1
              try clear c25
              try clear c25b0
              try clear c25b1
              try clear c28
              try clear c28b0
              try clear c29
              try clear c29b0
              try clear p30
              try clear q30
              try clear hx30
              try clear c31
              try clear c31b0
              try clear c31b1
              try clear c32
              try clear c32b0
              try clear c32b1
              try clear c33
              try clear c33b0
              try clear c33b1
              try clear p34
              try clear q34
              try clear hx34
              try clear qi34
              try clear c36
              try clear c38
              try clear c38b0
              try clear c38b1
              try clear p39
              try clear q39
              try clear hx39
              try clear qi39
              try clear c40
              try clear c40b0
              try clear c40b1
              try clear c42
              try clear c42b0
              try clear c42b1
              try clear p43
              try clear q43
              try clear hx43
              try clear qi43
              try clear hx136_0
              try clear p1
              try clear p136
              try clear p15
              try clear p17
              try clear p19
              try clear p2
              try clear p21
              try clear p30
              try clear p34
              try clear p39
              try clear p43
              try clear q1
              try clear q136
              try clear q15
              try clear q17
              try clear q19
              try clear q21
              try clear q30
              try clear q34
              try clear q39
              try clear q43
              obtain ⟨kq, x82_25, rfl, HA, HJ25, HO_5, HO_22, HB⟩ := hcut
              cases kq with
              | zero => exact absurd HA.out (by simp [spec_UnitParse.j3])
              | succ kj25 =>
               have H := HA.out
               clear HA
               simp only [spec_UnitParse.j3] at H
               by_cases c44 : x82_25 = true
               ·subst c44
                have H1 : (some (([] : List (S52)), false, 2)) = some (r1, r2, r3) := by rw [if_pos rfl] at H; exact H
                clear H
                have H := H1
                clear H1
                simp only [Option.some.injEq, Prod.mk.injEq] at H
                obtain ⟨rfl, rfl, rfl⟩ := H
                go_wp2
                go_ret3
                exact ⟨_, by first | rfl | (simp [errW_none, errW_some] <;> rfl) | (simp [*, errW_none, errW_some] <;> rfl), by first | exact Kd.R_nil _ _ _ _ _ | exact Kd.N_nil _ _ _ _ _ | exact Kd.V_nil _ _ _ _ _ | exact Kd.Q_nil _ _ _ _ _ | exact Kd.S_nil _ _ _ _ _, by repeat (first | (with_reducible first | exact HB.out | apply below_alloc | apply pw_below_drewN | apply below_drew1) | exact HB.out)⟩
               ·replace c44 := Bool.eq_false_iff.mpr c44
                subst c44
                have H1 : ((spec_trimmed.f kj25 (rdOf ByteArray.empty t133 x24_2)).bind fun t141 => (if 0 ≤ (wrap64 ((t141.size : Int) - 1)) then (if (wrap64 ((t141.size : Int) - 1)) < (t141.size : Int) then (if (bt t141 (wrap64 ((t141.size : Int) - 1))) = 92 then (some (([] : List (S52)), false, 2)) else (if 0 < (t141.size : Int) then (if (bt t141 0) = 35 then (spec_UnitParse.j4 kj25 x5_2 x6_2 t141 t133 (t133.length : Int) x24_2 true) else (spec_UnitParse.j4 kj25 x5_2 x6_2 t141 t133 (t133.length : Int) x24_2 ((bt t141 0) == 59))) else (none))) else (none)) else (none))) = some (r1, r2, r3) := by rw [if_neg (show ¬ (false = true) by decide)] at H; exact H
                clear H
                have H := H1
                clear H1
                replace H := Option.bind_eq_some_iff.mp H
                obtain ⟨t141, A450, H⟩ := H
                have A45 := Aside0.mk A450
                clear A450
                obtain ⟨ji46, hji46⟩ : ∃ j_ : Int, (wrap64 ((t141.size : Int) - 1)) = j_ := ⟨_, rfl⟩
                replace H : (if 0 ≤ (ji46) then (if (ji46) < (t141.size : Int) then (if (bt t141 (ji46)) = 92 then (some (([] : List (S52)), false, 2)) else (if 0 < (t141.size : Int) then (if (bt t141 0) = 35 then (spec_UnitParse.j4 kj25 x5_2 x6_2 t141 t133 (t133.length : Int) x24_2 true) else (spec_UnitParse.j4 kj25 x5_2 x6_2 t141 t133 (t133.length : Int) x24_2 ((bt t141 0) == 59))) else (none))) else (none)) else (none)) = some (r1, r2, r3) := by first | (rw [hji46] at H; exact H) | (simp only [hji46] at H ⊢; exact H)
                (try rw [hji46] at A45)
                have hji46w : (IntKind.i64.wrap ((t141.size : Int) - 1)) = ji46 := (i64_w _).trans hji46
                by_cases c47 : 0 ≤ (ji46)
                ·rw [if_pos c47] at H
                 have c47b0 : decide (0 ≤ (ji46)) = true := decide_eq_true c47
                 clear c47
                 by_cases c48 : (ji46) < (t141.size : Int)
                 ·rw [if_pos c48] at H
                  have c48b0 : decide ((ji46) < (t141.size : Int)) = true := decide_eq_true c48
                  clear c48
                  by_cases c50 : (bt t141 (ji46)) = 92
                  ·rw [if_pos c50] at H
                   have c50b0 : ((bt t141 (ji46)) == 92) = true := beq_iff_eq.mpr c50
                   have c50b1 : ((bt t141 (ji46)) != 92) = false := bne_eq_false_iff_eq.mpr c50
                   clear c50
                   simp only [Option.some.injEq, Prod.mk.injEq] at H
                   obtain ⟨rfl, rfl, rfl⟩ := H
                   go_wp2_with (first | ((with_reducible refine gate_callee (f := 24) rfl ?_); refine goesL_ (some 84) rfl rfl Tryd.func24 (by kernel_rfl) rfl #[.string (rdOf ByteArray.empty t133 x24_2)] rfl (by (try simp only [List.map_toArray, List.map_cons, List.map_nil]); first | done | rfl | (simp only [List.length_drop, List.length_take]; rfl)) ?_; (with_reducible refine (spec_trimmed.calls kj25 (rdOf ByteArray.empty t133 x24_2) t141 _ A45.out).mono ?_); rintro e w' ⟨rfl, ⟨nd, rfl⟩⟩; refine ⟨_, rfl, ?_⟩; have p49 : 0 ≤ ((ji46) : Int) := of_decide_eq_true (by first | (with_reducible assumption) | assumption); have q49 : (ji46) < (t141.size : Int) := of_decide_eq_true (by first | (with_reducible assumption) | assumption); have hx49 := bt_at t141 (ji46); replace p49 := eq_true p49; replace q49 := eq_true q49))
                   go_ret3
                   exact ⟨_, by first | rfl | (simp [errW_none, errW_some] <;> rfl) | (simp only [← hji46]; first | rfl | (simp [errW_none, errW_some] <;> rfl)) | (simp [*, errW_none, errW_some] <;> rfl), by first | exact Kd.R_nil _ _ _ _ _ | exact Kd.N_nil _ _ _ _ _ | exact Kd.V_nil _ _ _ _ _ | exact Kd.Q_nil _ _ _ _ _ | exact Kd.S_nil _ _ _ _ _, by repeat (first | (with_reducible first | exact HB.out | apply below_alloc | apply pw_below_drewN | apply below_drew1) | exact HB.out)⟩
                  ·rw [if_neg c50] at H
                   have c50b0 : ((bt t141 (ji46)) == 92) = false := beq_eq_false_iff_ne.mpr c50
                   have c50b1 : ((bt t141 (ji46)) != 92) = true := bne_iff_ne.mpr c50
                   have HC51 := Aside0.mk H
                   clear H
                   go_upto_region 22 with (first | ((with_reducible refine gate_callee (f := 24) rfl ?_); refine goesL_ (some 84) rfl rfl Tryd.func24 (by kernel_rfl) rfl #[.string (rdOf ByteArray.empty t133 x24_2)] rfl (by (try simp only [List.map_toArray, List.map_cons, List.map_nil]); first | done | rfl | (simp only [List.length_drop, List.length_take]; rfl)) ?_; (with_reducible refine (spec_trimmed.calls kj25 (rdOf ByteArray.empty t133 x24_2) t141 _ A45.out).mono ?_); rintro e w' ⟨rfl, ⟨nd, rfl⟩⟩; refine ⟨_, rfl, ?_⟩; have p49 : 0 ≤ ((ji46) : Int) := of_decide_eq_true (by first | (with_reducible assumption) | assumption); have q49 : (ji46) < (t141.size : Int) := of_decide_eq_true (by first | (with_reducible assumption) | assumption); have hx49 := bt_at t141 (ji46); replace p49 := eq_true p49; replace q49 := eq_true q49))
                   (try simp only [Act.put, List.setIfInBounds_toArray, List.set_cons_zero, List.set_cons_succ])
                   go_cut [98] (fun v98 wc => ∃ (kq : Nat) (x98_50 : Bool), v98 = .bool x98_50 ∧ Aside0 (spec_UnitParse.j4 kq x5_2 x6_2 t141 t133 (t133.length : Int) x24_2 x98_50 = some (r1, r2, r3)) ∧ Aside0 (kq ≤ kj25) ∧ Aside0 (Kd.R k52 52 wc w.heap.size (fun _ => True) u5 x5_2) ∧ Aside0 (Kd.R Kd.string 9 wc w.heap.size (fun _ => True) (.slice (some ad136) t133.length co8) t133) ∧ Aside0 (Below w.heap.size w wc))
                   case first =>
                    have H := HC51.out
                    clear HC51
                    by_cases c52 : 0 < (t141.size : Int)
                    ·rw [if_pos c52] at H
                     have c52b0 : decide (0 < (t141.size : Int)) = true := decide_eq_true c52
                     have c52b1 : decide (0 < t141.size) = true := decide_eq_true (by omega)
                     clear c52
                     (first | rw [c52b0] | (simp only [i64_w, i32_w]; rw [c52b0]) | skip)
                     by_cases c54 : (bt t141 0) = 35
                     ·rw [if_pos c54] at H
                      have c54b0 : ((bt t141 0) == 35) = true := beq_iff_eq.mpr c54
                      have c54b1 : ((bt t141 0) != 35) = false := bne_eq_false_iff_eq.mpr c54
                      clear c54
                      have H' := Aside0.mk H
                      clear H
                      have p53 : 0 ≤ (0 : Int) := (by omega)
                      have q53 : 0 < t141.size := (by have : (0 : Int) < (t141.size : Int) := of_decide_eq_true (by first | (with_reducible assumption) | assumption); omega)
                      have hx53 : ∀ h : 0 < t141.size, ((t141[0]'h).toNat : Int) = bt t141 0 := bt_at t141 0
                      clear p53
                      have qi53 : (0 < (t141.size : Int)) = True := eq_true (of_decide_eq_true (by first | (with_reducible assumption) | assumption))
                      replace q53 := eq_true q53
                      go_wp2
                      go_meet
                      case rel => exact ⟨_, (true), (by first | rfl | (simp; done) | (simp [*]; done) | (simp [bne_nil]; done) | (simp [bne_nil, *]; done)), H', ⟨by have := HJ1.out; have := HK2.out; have := HK3.out; have := HJ25.out; first | omega | exact Nat.le_refl _⟩, ⟨by (with_reducible repeat (first | apply Kd.R_alloc | apply Kd.R_drewN | apply Kd.R_drew)); exact HO_5.out⟩, ⟨by (with_reducible repeat (first | apply Kd.R_alloc | apply Kd.R_drewN | apply Kd.R_drew)); exact HO_22.out⟩, ⟨by repeat (first | (with_reducible first | exact HB.out | apply below_alloc | apply pw_below_drewN | apply below_drew1) | exact HB.out)⟩⟩
                     ·rw [if_neg c54] at H
                      have c54b0 : ((bt t141 0) == 35) = false := beq_eq_false_iff_ne.mpr c54
                      have c54b1 : ((bt t141 0) != 35) = true := bne_iff_ne.mpr c54
                      have H' := Aside0.mk H
                      clear H
                      have p53 : 0 ≤ (0 : Int) := (by omega)
                      have q53 : 0 < t141.size := (by have : (0 : Int) < (t141.size : Int) := of_decide_eq_true (by first | (with_reducible assumption) | assumption); omega)
                      have hx53 : ∀ h : 0 < t141.size, ((t141[0]'h).toNat : Int) = bt t141 0 := bt_at t141 0
                      clear p53
                      have qi53 : (0 < (t141.size : Int)) = True := eq_true (of_decide_eq_true (by first | (with_reducible assumption) | assumption))
                      replace q53 := eq_true q53
                      have p55 : 0 ≤ (0 : Int) := (by omega)
                      have q55 : 0 < t141.size := (by have : (0 : Int) < (t141.size : Int) := of_decide_eq_true (by first | (with_reducible assumption) | assumption); omega)
                      have hx55 : ∀ h : 0 < t141.size, ((t141[0]'h).toNat : Int) = bt t141 0 := bt_at t141 0
                      clear p55
                      have qi55 : (0 < (t141.size : Int)) = True := eq_true (of_decide_eq_true (by first | (with_reducible assumption) | assumption))
                      replace q55 := eq_true q55
                      go_wp2
                      go_meet
                      case rel => exact ⟨_, (((bt t141 0) == 59)), (by first | rfl | (simp; done) | (simp [*]; done) | (simp [bne_nil]; done) | (simp [bne_nil, *]; done)), H', ⟨by have := HJ1.out; have := HK2.out; have := HK3.out; have := HJ25.out; first | omega | exact Nat.le_refl _⟩, ⟨by (with_reducible repeat (first | apply Kd.R_alloc | apply Kd.R_drewN | apply Kd.R_drew)); exact HO_5.out⟩, ⟨by (with_reducible repeat (first | apply Kd.R_alloc | apply Kd.R_drewN | apply Kd.R_drew)); exact HO_22.out⟩, ⟨by repeat (first | (with_reducible first | exact HB.out | apply below_alloc | apply pw_below_drewN | apply below_drew1) | exact HB.out)⟩⟩
                    ·rw [if_neg c52] at H
                     exact absurd H (by simp)
                   case rest =>
                    clear HC51
                    try clear c1
                    try clear p1
                    try clear q1
                    try clear hx1
                    try clear c2
                    try clear p2
                    try clear q2
                    try clear hx2
                    try clear c3
                    try clear p3
                    try clear q3
                    try clear hx3
                    try clear qi3
                    try clear c4
                    try clear p4
                    try clear q4
                    try clear hx4
                    try clear qi4
                    try clear c5
                    try clear p5
                    try clear q5
                    try clear hx5
                    try clear qi5
                    try clear p6
                    try clear c9
                    try clear c9b0
                    try clear c10
                    try clear c10b0
                    try clear c11
                    try clear c11b0
                    try clear c12
                    try clear c12b0
                    try clear c13
                    try clear c13b0
                    try clear p13
                    try clear q13
                    try clear hx13
                    try clear c14
                    try clear c14b0
                    try clear p15
                    try clear q15
                    try clear hx15
                    try clear c16
                    try clear c16b0
                    try clear p17
                    try clear q17
                    try clear hx17
                    try clear c18
                    try clear c18b0
                    try clear c18b1
                    try clear p19
                    try clear q19
                    try clear hx19
                    try clear c20
                    try clear c20b0
                    try clear c20b1
                    try clear p21
                    try clear q21
                    try clear hx21
                    try clear c22
                    try clear c22b0
                    try clear c22b1
                    try clear c23
                    try clear c24
                    try clear c24b0
                    try clear c24b1
                    try clear c25
                    try clear c25b0
                    try clear c25b1
                    try clear c28
                    try clear c28b0
                    try clear c29
                    try clear c29b0
                    try clear p30
                    try clear q30
                    try clear hx30
                    try clear c31
                    try clear c31b0
                    try clear c31b1
                    try clear c32
                    try clear c32b0
                    try clear c32b1
                    try clear c33
                    try clear c33b0
                    try clear c33b1
                    try clear p34
                    try clear q34
                    try clear hx34
                    try clear qi34
                    try clear c36
                    try clear c38
                    try clear c38b0
                    try clear c38b1
                    try clear p39
                    try clear q39
                    try clear hx39
                    try clear qi39
                    try clear c40
                    try clear c40b0
                    try clear c40b1
                    try clear c42
                    try clear c42b0
                    try clear c42b1
                    try clear p43
                    try clear q43
                    try clear hx43
                    try clear qi43
                    try clear c44
                    try clear c47
                    try clear c47b0
                    try clear c48
                    try clear c48b0
                    try clear p49
                    try clear q49
                    try clear hx49
                    try clear c50
                    try clear c50b0
                    try clear c50b1
                    try clear c52
                    try clear c52b0
                    try clear c52b1
                    try clear p53
                    try clear q53
                    try clear hx53
                    try clear qi53
                    try clear c54
                    try clear c54b0
                    try clear c54b1
                    try clear p55
                    try clear q55
                    try clear hx55
                    try clear qi55
                    try clear hx136_0
                    try clear p1
                    try clear p13
                    try clear p136
                    try clear p15
                    try clear p17
                    try clear p19
                    try clear p2
                    try clear p21
                    try clear p3
                    try clear p30
                    try clear p34
                    try clear p39
                    try clear p4
                    try clear p43
                    try clear p49
                    try clear p53
                    try clear p55
                    try clear p6
                    try clear q1
                    try clear q13
                    try clear q136
                    try clear q15
                    try clear q17
                    try clear q19
                    try clear q2
                    try clear q21
                    try clear q3
                    try clear q30
                    try clear q34
                    try clear q39
                    try clear q4
                    try clear q43
                    try clear q49
                    try clear q53
                    try clear q55
                    obtain ⟨kq, x98_50, rfl, HA, HJ50, HO_5, HO_22, HB⟩ := hcut
                    cases kq with
                    | zero => exact absurd HA.out (by simp [spec_UnitParse.j4])
                    | succ kj50 =>
                     have H := HA.out
                     clear HA
                     simp only [spec_UnitParse.j4] at H
                     by_cases c56 : x98_50 = true
                     ·subst c56
                      have H1 : (spec_UnitParse.l0 kj50 x5_2 x6_2 t133 (t133.length : Int) (wrap64 (x24_2 + 1))) = some (r1, r2, r3) := by rw [if_pos rfl] at H; exact H
                      clear H
                      have H := H1
                      clear H1
                      have H' := Aside0.mk H
                      clear H
                      go_wp2
                      go_roundg kj50
                      case measure => have := HJ1.out; have := HK2.out; have := HK3.out; have := HJ25.out; have := HJ50.out; omega
                      case rel => exact ⟨(x5_2), (x6_2), (wrap64 (x24_2 + 1)), (by first | rfl | (simp; done) | (simp [*]; done) | (simp [bne_nil]; done) | (simp [bne_nil, *]; done)), (by first | rfl | (simp; done) | (simp [*]; done) | (simp [bne_nil]; done) | (simp [bne_nil, *]; done)), H', ⟨by have := HJ1.out; have := HK2.out; have := HK3.out; have := HJ25.out; have := HJ50.out; omega⟩, ⟨by (with_reducible repeat (first | apply Kd.R_alloc | apply Kd.R_drewN | apply Kd.R_drew)); exact HO_5.out⟩, ⟨by (with_reducible repeat (first | apply Kd.R_alloc | apply Kd.R_drewN | apply Kd.R_drew)); exact HO_22.out⟩, ⟨by repeat (first | (with_reducible first | exact HB.out | apply below_alloc | apply pw_below_drewN | apply below_drew1) | exact HB.out)⟩⟩
                     ·replace c56 := Bool.eq_false_iff.mpr c56
                      subst c56
                      have H1 : (if 0 < (t141.size : Int) then (if (bt t141 0) = 91 then (if 0 ≤ (wrap64 ((t141.size : Int) - 1)) then (if (wrap64 ((t141.size : Int) - 1)) < (t141.size : Int) then (if (bt t141 (wrap64 ((t141.size : Int) - 1))) = 93 then (if 1 ≤ (wrap64 ((t141.size : Int) - 1)) then (if (wrap64 ((t141.size : Int) - 1)) ≤ (t141.size : Int) then ((spec_sectionName.f kj50 (t141.extract 1 ((wrap64 ((t141.size : Int) - 1)) : Int).toNat)).bind fun t142 => (if t142 = true then (spec_UnitParse.l0 kj50 x5_2 (t141.extract 1 ((wrap64 ((t141.size : Int) - 1)) : Int).toNat) t133 (t133.length : Int) (wrap64 (x24_2 + 1))) else (some (([] : List (S52)), false, 2)))) else (none)) else (none)) else (some (([] : List (S52)), false, 2))) else (none)) else (none)) else (spec_UnitParse.l2 kj50 x5_2 x6_2 t141 (-1) t133 (t133.length : Int) x24_2 (t141.size : Int) 0)) else (none)) = some (r1, r2, r3) := by rw [if_neg (show ¬ (false = true) by decide)] at H; exact H
                      clear H
                      have H := H1
                      clear H1
                      by_cases c57 : 0 < (t141.size : Int)
                      ·rw [if_pos c57] at H
                       have c57b0 : decide (0 < (t141.size : Int)) = true := decide_eq_true c57
                       have c57b1 : decide (0 < t141.size) = true := decide_eq_true (by omega)
                       clear c57
                       by_cases c59 : (bt t141 0) = 91
                       ·rw [if_pos c59] at H
                        have c59b0 : ((bt t141 0) == 91) = true := beq_iff_eq.mpr c59
                        have c59b1 : ((bt t141 0) != 91) = false := bne_eq_false_iff_eq.mpr c59
                        clear c59
                        obtain ⟨ji60, hji60⟩ : ∃ j_ : Int, (wrap64 ((t141.size : Int) - 1)) = j_ := ⟨_, rfl⟩
                        have ee_ : ji60 = ji46 := hji60.symm.trans hji46
                        subst ee_
                        replace H : (if 0 ≤ (ji60) then (if (ji60) < (t141.size : Int) then (if (bt t141 (ji60)) = 93 then (if 1 ≤ (ji60) then (if (ji60) ≤ (t141.size : Int) then ((spec_sectionName.f kj50 (t141.extract 1 ((ji60) : Int).toNat)).bind fun t142 => (if t142 = true then (spec_UnitParse.l0 kj50 x5_2 (t141.extract 1 ((ji60) : Int).toNat) t133 (t133.length : Int) (wrap64 (x24_2 + 1))) else (some (([] : List (S52)), false, 2)))) else (none)) else (none)) else (some (([] : List (S52)), false, 2))) else (none)) else (none)) = some (r1, r2, r3) := by first | (rw [hji60] at H; exact H) | (simp only [hji60] at H ⊢; exact H)
                        have hji60w : (IntKind.i64.wrap ((t141.size : Int) - 1)) = ji60 := (i64_w _).trans hji60
                        by_cases c61 : 0 ≤ (ji60)
                        ·rw [if_pos c61] at H
                         have c61b0 : decide (0 ≤ (ji60)) = true := decide_eq_true c61
                         clear c61
                         by_cases c62 : (ji60) < (t141.size : Int)
                         ·rw [if_pos c62] at H
                          have c62b0 : decide ((ji60) < (t141.size : Int)) = true := decide_eq_true c62
                          clear c62
                          by_cases c64 : (bt t141 (ji60)) = 93
                          ·rw [if_pos c64] at H
                           have c64b0 : ((bt t141 (ji60)) == 93) = true := beq_iff_eq.mpr c64
                           have c64b1 : ((bt t141 (ji60)) != 93) = false := bne_eq_false_iff_eq.mpr c64
                           clear c64
                           by_cases c65 : 1 ≤ (ji60)
                           ·rw [if_pos c65] at H
                            have c65b0 := eq_true c65
                            have c65b1 : decide (1 ≤ (ji60)) = true := decide_eq_true c65
                            clear c65
                            by_cases c66 : (ji60) ≤ (t141.size : Int)
                            ·rw [if_pos c66] at H
                             have c66b0 := eq_true c66
                             have c66b1 : decide ((ji60) ≤ (t141.size : Int)) = true := decide_eq_true c66
                             clear c66
                             replace H := Option.bind_eq_some_iff.mp H
                             obtain ⟨t142, A670, H⟩ := H
                             have A67 := Aside0.mk A670
                             clear A670
                             by_cases c68 : t142 = true
                             ·subst c68
                              have H1 : (spec_UnitParse.l0 kj50 x5_2 (t141.extract 1 ((ji60) : Int).toNat) t133 (t133.length : Int) (wrap64 (x24_2 + 1))) = some (r1, r2, r3) := by rw [if_pos rfl] at H; exact H
                              clear H
                              have H := H1
                              clear H1
                              have c69b0 := eq_true (of_decide_eq_true (by first | (with_reducible assumption) | assumption) : 1 ≤ (ji60))
                              have c70b0 := eq_true (of_decide_eq_true (by first | (with_reducible assumption) | assumption) : (ji60) ≤ (t141.size : Int))
                              have H' := Aside0.mk H
                              clear H
                              have p58 : 0 ≤ (0 : Int) := (by omega)
                              have q58 : 0 < t141.size := (by have : (0 : Int) < (t141.size : Int) := of_decide_eq_true (by first | (with_reducible assumption) | assumption); omega)
                              have hx58 : ∀ h : 0 < t141.size, ((t141[0]'h).toNat : Int) = bt t141 0 := bt_at t141 0
                              clear p58
                              have qi58 : (0 < (t141.size : Int)) = True := eq_true (of_decide_eq_true (by first | (with_reducible assumption) | assumption))
                              replace q58 := eq_true q58
                              have p63 : 0 ≤ ((ji60) : Int) := of_decide_eq_true (by first | (with_reducible assumption) | assumption)
                              have q63 : (ji60) < (t141.size : Int) := of_decide_eq_true (by first | (with_reducible assumption) | assumption)
                              have hx63 := bt_at t141 (ji60)
                              replace p63 := eq_true p63
                              replace q63 := eq_true q63
                              go_wp2_with (first | (go_at_call 26; (with_reducible refine (spec_sectionName.calls kj50 (t141.extract 1 ((ji60) : Int).toNat) true _ A67.out).mono ?_); rintro e w' ⟨rfl, ⟨nd, rfl⟩⟩))
                              go_roundg kj50
                              case measure => have := HJ1.out; have := HK2.out; have := HK3.out; have := HJ25.out; have := HJ50.out; omega
                              case rel => exact ⟨(x5_2), (t141.extract 1 ((ji60) : Int).toNat), (wrap64 (x24_2 + 1)), (by first | rfl | (simp; done) | (simp only [← hji60] <;> (first | rfl | simp)) | (simp [*]; done)), (by first | rfl | (simp; done) | (simp [*]; done) | (simp [bne_nil]; done) | (simp [bne_nil, *]; done)), H', ⟨by have := HJ1.out; have := HK2.out; have := HK3.out; have := HJ25.out; have := HJ50.out; omega⟩, ⟨by (with_reducible repeat (first | apply Kd.R_alloc | apply Kd.R_drewN | apply Kd.R_drew)); exact HO_5.out⟩, ⟨by (with_reducible repeat (first | apply Kd.R_alloc | apply Kd.R_drewN | apply Kd.R_drew)); exact HO_22.out⟩, ⟨by repeat (first | (with_reducible first | exact HB.out | apply below_alloc | apply pw_below_drewN | apply below_drew1) | exact HB.out)⟩⟩
                             ·replace c68 := Bool.eq_false_iff.mpr c68
                              subst c68
                              have H1 : (some (([] : List (S52)), false, 2)) = some (r1, r2, r3) := by rw [if_neg (show ¬ (false = true) by decide)] at H; exact H
                              clear H
                              have H := H1
                              clear H1
                              simp only [Option.some.injEq, Prod.mk.injEq] at H
                              obtain ⟨rfl, rfl, rfl⟩ := H
                              have p58 : 0 ≤ (0 : Int) := (by omega)
                              have q58 : 0 < t141.size := (by have : (0 : Int) < (t141.size : Int) := of_decide_eq_true (by first | (with_reducible assumption) | assumption); omega)
                              have hx58 : ∀ h : 0 < t141.size, ((t141[0]'h).toNat : Int) = bt t141 0 := bt_at t141 0
                              clear p58
                              have qi58 : (0 < (t141.size : Int)) = True := eq_true (of_decide_eq_true (by first | (with_reducible assumption) | assumption))
                              replace q58 := eq_true q58
                              have p63 : 0 ≤ ((ji60) : Int) := of_decide_eq_true (by first | (with_reducible assumption) | assumption)
                              have q63 : (ji60) < (t141.size : Int) := of_decide_eq_true (by first | (with_reducible assumption) | assumption)
                              have hx63 := bt_at t141 (ji60)
                              replace p63 := eq_true p63
                              replace q63 := eq_true q63
                              go_wp2_with (first | (go_at_call 26; (with_reducible refine (spec_sectionName.calls kj50 (t141.extract 1 ((ji60) : Int).toNat) false _ A67.out).mono ?_); rintro e w' ⟨rfl, ⟨nd, rfl⟩⟩))
                              go_ret3
                              exact ⟨_, by first | rfl | (simp [errW_none, errW_some] <;> rfl) | (simp only [← hji46, ← hji60]; first | rfl | (simp [errW_none, errW_some] <;> rfl)) | (simp [*, errW_none, errW_some] <;> rfl), by first | exact Kd.R_nil _ _ _ _ _ | exact Kd.N_nil _ _ _ _ _ | exact Kd.V_nil _ _ _ _ _ | exact Kd.Q_nil _ _ _ _ _ | exact Kd.S_nil _ _ _ _ _, by repeat (first | (with_reducible first | exact HB.out | apply below_alloc | apply pw_below_drewN | apply below_drew1) | exact HB.out)⟩
                            ·rw [if_neg c66] at H
                             exact absurd H (by simp)
                           ·rw [if_neg c65] at H
                            exact absurd H (by simp)
                          ·rw [if_neg c64] at H
                           have c64b0 : ((bt t141 (ji60)) == 93) = false := beq_eq_false_iff_ne.mpr c64
                           have c64b1 : ((bt t141 (ji60)) != 93) = true := bne_iff_ne.mpr c64
                           simp only [Option.some.injEq, Prod.mk.injEq] at H
                           obtain ⟨rfl, rfl, rfl⟩ := H
                           have p58 : 0 ≤ (0 : Int) := (by omega)
                           have q58 : 0 < t141.size := (by have : (0 : Int) < (t141.size : Int) := of_decide_eq_true (by first | (with_reducible assumption) | assumption); omega)
                           have hx58 : ∀ h : 0 < t141.size, ((t141[0]'h).toNat : Int) = bt t141 0 := bt_at t141 0
                           clear p58
                           have qi58 : (0 < (t141.size : Int)) = True := eq_true (of_decide_eq_true (by first | (with_reducible assumption) | assumption))
                           replace q58 := eq_true q58
                           have p63 : 0 ≤ ((ji60) : Int) := of_decide_eq_true (by first | (with_reducible assumption) | assumption)
                           have q63 : (ji60) < (t141.size : Int) := of_decide_eq_true (by first | (with_reducible assumption) | assumption)
                           have hx63 := bt_at t141 (ji60)
                           replace p63 := eq_true p63
                           replace q63 := eq_true q63
                           go_wp2
                           go_ret3
                           exact ⟨_, by first | rfl | (simp [errW_none, errW_some] <;> rfl) | (simp only [← hji46, ← hji60]; first | rfl | (simp [errW_none, errW_some] <;> rfl)) | (simp [*, errW_none, errW_some] <;> rfl), by first | exact Kd.R_nil _ _ _ _ _ | exact Kd.N_nil _ _ _ _ _ | exact Kd.V_nil _ _ _ _ _ | exact Kd.Q_nil _ _ _ _ _ | exact Kd.S_nil _ _ _ _ _, by repeat (first | (with_reducible first | exact HB.out | apply below_alloc | apply pw_below_drewN | apply below_drew1) | exact HB.out)⟩
                         ·rw [if_neg c62] at H
                          exact absurd H (by simp)
                        ·rw [if_neg c61] at H
                         exact absurd H (by simp)
                       ·rw [if_neg c59] at H
                        have c59b0 : ((bt t141 0) == 91) = false := beq_eq_false_iff_ne.mpr c59
                        have c59b1 : ((bt t141 0) != 91) = true := bne_iff_ne.mpr c59
                        have H' := Aside0.mk H
                        clear H
                        have p58 : 0 ≤ (0 : Int) := (by omega)
                        have q58 : 0 < t141.size := (by have : (0 : Int) < (t141.size : Int) := of_decide_eq_true (by first | (with_reducible assumption) | assumption); omega)
                        have hx58 : ∀ h : 0 < t141.size, ((t141[0]'h).toNat : Int) = bt t141 0 := bt_at t141 0
                        clear p58
                        have qi58 : (0 < (t141.size : Int)) = True := eq_true (of_decide_eq_true (by first | (with_reducible assumption) | assumption))
                        replace q58 := eq_true q58
                        go_wp2
                        go_loopg [10, 124] kj50 (fun kq v10 v124 w' => ∃ (x10_6 : Int) (x124_6 : Int), v10 = .int .i64 x10_6 ∧ v124 = .int .i64 x124_6 ∧ Aside0 (spec_UnitParse.l2 kq x5_2 x6_2 t141 x10_6 t133 (t133.length : Int) x24_2 (t141.size : Int) x124_6 = some (r1, r2, r3)) ∧ Aside0 (kq ≤ kj50) ∧ Aside0 (Kd.R k52 52 w' w.heap.size (fun _ => True) u5 x5_2) ∧ Aside0 (Kd.R Kd.string 9 w' w.heap.size (fun _ => True) (.slice (some ad136) t133.length co8) t133) ∧ Aside0 (Below w.heap.size w w'))
                        case atStart => exact ⟨((-1)), (0), (by first | rfl | (simp; done) | (simp [*]; done) | (simp [bne_nil]; done) | (simp [bne_nil, *]; done)), (by first | rfl | (simp; done) | (simp [*]; done) | (simp [bne_nil]; done) | (simp [bne_nil, *]; done)), H', ⟨Nat.le_refl _⟩, ⟨by (with_reducible repeat (first | apply Kd.R_alloc | apply Kd.R_drewN | apply Kd.R_drew)); exact HO_5.out⟩, ⟨by (with_reducible repeat (first | apply Kd.R_alloc | apply Kd.R_drewN | apply Kd.R_drew)); exact HO_22.out⟩, ⟨by repeat (first | (with_reducible first | exact HB.out | apply below_alloc | apply pw_below_drewN | apply below_drew1) | exact HB.out)⟩⟩
                        case round =>
                         clear H'
                         try clear c1
                         try clear p1
                         try clear q1
                         try clear hx1
                         try clear c2
                         try clear p2
                         try clear q2
                         try clear hx2
                         try clear c3
                         try clear p3
                         try clear q3
                         try clear hx3
                         try clear qi3
                         try clear c4
                         try clear p4
                         try clear q4
                         try clear hx4
                         try clear qi4
                         try clear c5
                         try clear p5
                         try clear q5
                         try clear hx5
                         try clear qi5
                         try clear c6
                         try clear p6
                         try clear q6
                         try clear hx6
                         try clear c7
                         try clear c9
                         try clear c9b0
                         try clear c10
                         try clear c10b0
                         try clear c11
                         try clear c11b0
                         try clear c12
                         try clear c12b0
                         try clear c13
                         try clear c13b0
                         try clear p13
                         try clear q13
                         try clear hx13
                         try clear c14
                         try clear c14b0
                         try clear p15
                         try clear q15
                         try clear hx15
                         try clear c16
                         try clear c16b0
                         try clear p17
                         try clear q17
                         try clear hx17
                         try clear c18
                         try clear c18b0
                         try clear c18b1
                         try clear p19
                         try clear q19
                         try clear hx19
                         try clear c20
                         try clear c20b0
                         try clear c20b1
                         try clear p21
                         try clear q21
                         try clear hx21
                         try clear c22
                         try clear c22b0
                         try clear c22b1
                         try clear c23
                         try clear c24
                         try clear c24b0
                         try clear c24b1
                         try clear c25
                         try clear c25b0
                         try clear c25b1
                         try clear c28
                         try clear c28b0
                         try clear c29
                         try clear c29b0
                         try clear p30
                         try clear q30
                         try clear hx30
                         try clear c31
                         try clear c31b0
                         try clear c31b1
                         try clear c32
                         try clear c32b0
                         try clear c32b1
                         try clear c33
                         try clear c33b0
                         try clear c33b1
                         try clear p34
                         try clear q34
                         try clear hx34
                         try clear qi34
                         try clear c36
                         try clear c38
                         try clear c38b0
                         try clear c38b1
                         try clear p39
                         try clear q39
                         try clear hx39
                         try clear qi39
                         try clear c40
                         try clear c40b0
                         try clear c40b1
                         try clear c42
                         try clear c42b0
                         try clear c42b1
                         try clear p43
                         try clear q43
                         try clear hx43
                         try clear qi43
                         try clear c44
                         try clear c47
                         try clear c47b0
                         try clear c48
                         try clear c48b0
                         try clear p49
                         try clear q49
                         try clear hx49
                         try clear c50
                         try clear c50b0
                         try clear c50b1
                         try clear c52
                         try clear c52b0
                         try clear c52b1
                         try clear p53
                         try clear q53
                         try clear hx53
                         try clear qi53
                         try clear c54
                         try clear c54b0
                         try clear c54b1
                         try clear p55
                         try clear q55
                         try clear hx55
                         try clear qi55
                         try clear c56
                         try clear c57
                         try clear c57b0
                         try clear c57b1
                         try clear p58
                         try clear q58
                         try clear hx58
                         try clear qi58
                         try clear c59
                         try clear c59b0
                         try clear c59b1
                         try clear c61
                         try clear c61b0
                         try clear c62
                         try clear c62b0
                         try clear p63
                         try clear q63
                         try clear hx63
                         try clear c64
                         try clear c64b0
                         try clear c64b1
                         try clear p64
                         try clear c65
                         try clear c65b0
                         try clear c65b1
                         try clear c66
                         try clear c66b0
                         try clear c66b1
                         try clear c68
                         try clear c69
                         try clear c69b0
                         try clear c70
                         try clear c70b0
                         try clear hx136_0
                         try clear p1
                         try clear p13
                         try clear p136
                         try clear p15
                         try clear p17
                         try clear p19
                         try clear p2
                         try clear p21
                         try clear p3
                         try clear p30
                         try clear p34
                         try clear p39
                         try clear p4
                         try clear p43
                         try clear p49
                         try clear p5
                         try clear p53
                         try clear p55
                         try clear p58
                         try clear p6
                         try clear p63
                         try clear q1
                         try clear q13
                         try clear q136
                         try clear q15
                         try clear q17
                         try clear q19
                         try clear q2
                         try clear q21
                         try clear q3
                         try clear q30
                         try clear q34
                         try clear q39
                         try clear q4
                         try clear q43
                         try clear q49
                         try clear q5
                         try clear q53
                         try clear q55
                         try clear q58
                         try clear q63
                         obtain ⟨x10_6, x124_6, rfl, rfl, HA, HK6, HO_5, HO_22, HB⟩ := hrel
                         cases gk with
                         | zero => exact absurd HA.out (by simp [spec_UnitParse.l2])
                         | succ k6 =>
                          have H := HA.out
                          clear HA
                          simp only [spec_UnitParse.l2] at H
                          by_cases c71 : x124_6 < (t141.size : Int)
                          ·rw [if_pos c71] at H
                           have c71b0 : decide (x124_6 < (t141.size : Int)) = true := decide_eq_true c71
                           clear c71
                           by_cases c72 : 0 ≤ x124_6
                           ·rw [if_pos c72] at H
                            have c72b0 : decide (0 ≤ x124_6) = true := decide_eq_true c72
                            clear c72
                            by_cases c73 : x124_6 < (t141.size : Int)
                            ·rw [if_pos c73] at H
                             have c73b0 : decide (x124_6 < (t141.size : Int)) = true := decide_eq_true c73
                             clear c73
                             by_cases c75 : (bt t141 x124_6) = 61
                             ·rw [if_pos c75] at H
                              have c75b0 : ((bt t141 x124_6) == 61) = true := beq_iff_eq.mpr c75
                              have c75b1 : ((bt t141 x124_6) != 61) = false := bne_eq_false_iff_eq.mpr c75
                              clear c75
                              by_cases c76 : x10_6 < 0
                              ·rw [if_pos c76] at H
                               have c76b0 : decide (x10_6 < 0) = true := decide_eq_true c76
                               clear c76
                               have H' := Aside0.mk H
                               clear H
                               have p74 : 0 ≤ (x124_6 : Int) := of_decide_eq_true (by first | (with_reducible assumption) | assumption)
                               have q74 : x124_6 < (t141.size : Int) := of_decide_eq_true (by first | (with_reducible assumption) | assumption)
                               have hx74 := bt_at t141 x124_6
                               replace p74 := eq_true p74
                               replace q74 := eq_true q74
                               go_wp2
                               go_roundg k6
                               case measure => have := HJ1.out; have := HK2.out; have := HK3.out; have := HJ25.out; have := HJ50.out; have := HK6.out; omega
                               case rel => exact ⟨(x124_6), (wrap64 (x124_6 + 1)), (by first | rfl | (simp; done) | (simp [*]; done) | (simp [bne_nil]; done) | (simp [bne_nil, *]; done)), (by first | rfl | (simp; done) | (simp [*]; done) | (simp [bne_nil]; done) | (simp [bne_nil, *]; done)), H', ⟨by have := HJ1.out; have := HK2.out; have := HK3.out; have := HJ25.out; have := HJ50.out; have := HK6.out; omega⟩, ⟨by (with_reducible repeat (first | apply Kd.R_alloc | apply Kd.R_drewN | apply Kd.R_drew)); exact HO_5.out⟩, ⟨by (with_reducible repeat (first | apply Kd.R_alloc | apply Kd.R_drewN | apply Kd.R_drew)); exact HO_22.out⟩, ⟨by repeat (first | (with_reducible first | exact HB.out | apply below_alloc | apply pw_below_drewN | apply below_drew1) | exact HB.out)⟩⟩
                              ·rw [if_neg c76] at H
                               have c76b0 : decide (x10_6 < 0) = false := decide_eq_false c76
                               clear c76
                               have H' := Aside0.mk H
                               clear H
                               have p74 : 0 ≤ (x124_6 : Int) := of_decide_eq_true (by first | (with_reducible assumption) | assumption)
                               have q74 : x124_6 < (t141.size : Int) := of_decide_eq_true (by first | (with_reducible assumption) | assumption)
                               have hx74 := bt_at t141 x124_6
                               replace p74 := eq_true p74
                               replace q74 := eq_true q74
                               go_wp2
                               go_roundg k6
                               case measure => have := HJ1.out; have := HK2.out; have := HK3.out; have := HJ25.out; have := HJ50.out; have := HK6.out; omega
                               case rel => exact ⟨(x10_6), (wrap64 (x124_6 + 1)), (by first | rfl | (simp; done) | (simp [*]; done) | (simp [bne_nil]; done) | (simp [bne_nil, *]; done)), (by first | rfl | (simp; done) | (simp [*]; done) | (simp [bne_nil]; done) | (simp [bne_nil, *]; done)), H', ⟨by have := HJ1.out; have := HK2.out; have := HK3.out; have := HJ25.out; have := HJ50.out; have := HK6.out; omega⟩, ⟨by (with_reducible repeat (first | apply Kd.R_alloc | apply Kd.R_drewN | apply Kd.R_drew)); exact HO_5.out⟩, ⟨by (with_reducible repeat (first | apply Kd.R_alloc | apply Kd.R_drewN | apply Kd.R_drew)); exact HO_22.out⟩, ⟨by repeat (first | (with_reducible first | exact HB.out | apply below_alloc | apply pw_below_drewN | apply below_drew1) | exact HB.out)⟩⟩
                             ·rw [if_neg c75] at H
                              have c75b0 : ((bt t141 x124_6) == 61) = false := beq_eq_false_iff_ne.mpr c75
                              have c75b1 : ((bt t141 x124_6) != 61) = true := bne_iff_ne.mpr c75
                              have H' := Aside0.mk H
                              clear H
                              have p74 : 0 ≤ (x124_6 : Int) := of_decide_eq_true (by first | (with_reducible assumption) | assumption)
                              have q74 : x124_6 < (t141.size : Int) := of_decide_eq_true (by first | (with_reducible assumption) | assumption)
                              have hx74 := bt_at t141 x124_6
                              replace p74 := eq_true p74
                              replace q74 := eq_true q74
                              go_wp2
                              go_roundg k6
                              case measure => have := HJ1.out; have := HK2.out; have := HK3.out; have := HJ25.out; have := HJ50.out; have := HK6.out; omega
                              case rel => exact ⟨(x10_6), (wrap64 (x124_6 + 1)), (by first | rfl | (simp; done) | (simp [*]; done) | (simp [bne_nil]; done) | (simp [bne_nil, *]; done)), (by first | rfl | (simp; done) | (simp [*]; done) | (simp [bne_nil]; done) | (simp [bne_nil, *]; done)), H', ⟨by have := HJ1.out; have := HK2.out; have := HK3.out; have := HJ25.out; have := HJ50.out; have := HK6.out; omega⟩, ⟨by (with_reducible repeat (first | apply Kd.R_alloc | apply Kd.R_drewN | apply Kd.R_drew)); exact HO_5.out⟩, ⟨by (with_reducible repeat (first | apply Kd.R_alloc | apply Kd.R_drewN | apply Kd.R_drew)); exact HO_22.out⟩, ⟨by repeat (first | (with_reducible first | exact HB.out | apply below_alloc | apply pw_below_drewN | apply below_drew1) | exact HB.out)⟩⟩
                            ·rw [if_neg c73] at H
                             exact absurd H (by simp)
                           ·rw [if_neg c72] at H
                            exact absurd H (by simp)
                          ·rw [if_neg c71] at H
                           have c71b0 : decide (x124_6 < (t141.size : Int)) = false := decide_eq_false c71
                           clear c71
                           by_cases c77 : x6_2.toList = ([] : List UInt8)
                           ·rw [if_pos c77] at H
                            have c77b0 : (x6_2.toList == ([] : List UInt8)) = true := beq_iff_eq.mpr c77
                            have c77b1 : (x6_2.toList != ([] : List UInt8)) = false := bne_eq_false_iff_eq.mpr c77
                            clear c77
                            simp only [Option.some.injEq, Prod.mk.injEq] at H
                            obtain ⟨rfl, rfl, rfl⟩ := H
                            go_wp2
                            go_ret3
                            exact ⟨_, by first | rfl | (simp [errW_none, errW_some] <;> rfl) | (simp only [← hji46]; first | rfl | (simp [errW_none, errW_some] <;> rfl)) | (simp [*, errW_none, errW_some] <;> rfl), by first | exact Kd.R_nil _ _ _ _ _ | exact Kd.N_nil _ _ _ _ _ | exact Kd.V_nil _ _ _ _ _ | exact Kd.Q_nil _ _ _ _ _ | exact Kd.S_nil _ _ _ _ _, by repeat (first | (with_reducible first | exact HB.out | apply below_alloc | apply pw_below_drewN | apply below_drew1) | exact HB.out)⟩
                           ·rw [if_neg c77] at H
                            have c77b0 : (x6_2.toList == ([] : List UInt8)) = false := beq_eq_false_iff_ne.mpr c77
                            have c77b1 : (x6_2.toList != ([] : List UInt8)) = true := bne_iff_ne.mpr c77
                            by_cases c78 : x10_6 < 0
                            ·rw [if_pos c78] at H
                             have c78b0 : decide (x10_6 < 0) = true := decide_eq_true c78
                             clear c78
                             simp only [Option.some.injEq, Prod.mk.injEq] at H
                             obtain ⟨rfl, rfl, rfl⟩ := H
                             go_wp2
                             go_ret3
                             exact ⟨_, by first | rfl | (simp [errW_none, errW_some] <;> rfl) | (simp only [← hji46]; first | rfl | (simp [errW_none, errW_some] <;> rfl)) | (simp [*, errW_none, errW_some] <;> rfl), by first | exact Kd.R_nil _ _ _ _ _ | exact Kd.N_nil _ _ _ _ _ | exact Kd.V_nil _ _ _ _ _ | exact Kd.Q_nil _ _ _ _ _ | exact Kd.S_nil _ _ _ _ _, by repeat (first | (with_reducible first | exact HB.out | apply below_alloc | apply pw_below_drewN | apply below_drew1) | exact HB.out)⟩
                            ·rw [if_neg c78] at H
                             have c78b0 : decide (x10_6 < 0) = false := decide_eq_false c78
                             clear c78
                             by_cases c79 : 0 ≤ x10_6
                             ·rw [if_pos c79] at H
                              have c79b0 := eq_true c79
                              have c79b1 : decide (0 ≤ x10_6) = true := decide_eq_true c79
                              clear c79
                              by_cases c80 : x10_6 ≤ (t141.size : Int)
                              ·rw [if_pos c80] at H
                               have c80b0 := eq_true c80
                               have c80b1 : decide (x10_6 ≤ (t141.size : Int)) = true := decide_eq_true c80
                               clear c80
                               replace H := Option.bind_eq_some_iff.mp H
                               obtain ⟨t143, A810, H⟩ := H
                               have A81 := Aside0.mk A810
                               clear A810
                               obtain ⟨ji82, hji82⟩ : ∃ j_ : Int, (wrap64 (x10_6 + 1)) = j_ := ⟨_, rfl⟩
                               replace H : (if 0 ≤ (ji82) then (if (ji82) ≤ (t141.size : Int) then ((spec_trimmed.f k6 (t141.extract ((ji82) : Int).toNat t141.size)).bind fun t144 => ((spec_optionName.f k6 t143).bind fun t146 => (if t146 = true then (if x5_2.length < 2932031007402 then (spec_UnitParse.l0 k6 (x5_2 ++ [(⟨x6_2, t143, t144⟩ : S52)]) x6_2 t133 (t133.length : Int) (wrap64 (x24_2 + 1))) else (none)) else (some (([] : List (S52)), false, 2))))) else (none)) else (none)) = some (r1, r2, r3) := by first | (rw [hji82] at H; exact H) | (simp only [hji82] at H ⊢; exact H)
                               (try rw [hji82] at A81)
                               have hji82w : (IntKind.i64.wrap (x10_6 + 1)) = ji82 := (i64_w _).trans hji82
                               by_cases c83 : 0 ≤ (ji82)
                               ·rw [if_pos c83] at H
                                have c83b0 := eq_true c83
                                have c83b1 : decide (0 ≤ (ji82)) = true := decide_eq_true c83
                                clear c83
                                by_cases c84 : (ji82) ≤ (t141.size : Int)
                                ·rw [if_pos c84] at H
                                 have c84b0 := eq_true c84
                                 have c84b1 : decide ((ji82) ≤ (t141.size : Int)) = true := decide_eq_true c84
                                 clear c84
                                 replace H := Option.bind_eq_some_iff.mp H
                                 obtain ⟨t144, A850, H⟩ := H
                                 have A85 := Aside0.mk A850
                                 clear A850
                                 replace H := Option.bind_eq_some_iff.mp H
                                 obtain ⟨t146, A860, H⟩ := H
                                 have A86 := Aside0.mk A860
                                 clear A860
                                 by_cases c87 : t146 = true
                                 ·subst c87
                                  have H1 : (if x5_2.length < 2932031007402 then (spec_UnitParse.l0 k6 (x5_2 ++ [(⟨x6_2, t143, t144⟩ : S52)]) x6_2 t133 (t133.length : Int) (wrap64 (x24_2 + 1))) else (none)) = some (r1, r2, r3) := by rw [if_pos rfl] at H; exact H
                                  clear H
                                  have H := H1
                                  clear H1
                                  by_cases c88 : x5_2.length < 2932031007402
                                  ·rw [if_pos c88] at H
                                   have LMc88 := Aside0.mk c88
                                   clear c88
                                   obtain ⟨y147, hy147⟩ : ∃ y_ : List (S52), y_ = (x5_2 ++ [(⟨x6_2, t143, t144⟩ : S52)]) := ⟨_, rfl⟩
                                   replace H : (spec_UnitParse.l0 k6 y147 x6_2 t133 (t133.length : Int) (wrap64 (x24_2 + 1))) = some (r1, r2, r3) := by first | (rw [hy147]; with_reducible exact H) | (have H2_ := (Option.bind_some _ _).symm.trans H; rw [hy147]; with_reducible exact H2_) | (have H2_ := (Option.bind_some _ _).symm.trans H; with_reducible exact H2_) | with_reducible exact H | (rw [hy147]; exact H) | exact H
                                   have Ny147 := Aside0.mk hy147
                                   clear hy147
                                   have H' := Aside0.mk H
                                   clear H
                                   try go_wp2
                                   have n0_ := Aside0.mk (Kd.R_drew HO_5.out)
                                   have n1_ := Aside0.mk (Kd.R_drew HO_22.out)
                                   have n2_ := Aside0.mk (below_drew1 HB.out)
                                   clear HO_5
                                   clear HO_22
                                   clear HB
                                   have HO_5 := n0_
                                   have HO_22 := n1_
                                   have HB := n2_
                                   clear n0_ n1_ n2_
                                   refine start_ (n := 13) (S := fun w' => True) (ds := []) (tfA 0 13) (by kernel_rfl) rfl rfl trivial (fun hHeld => ?_); refine with_tabW spec_UnitParse.tab38 spec_UnitParse.bits38 (fun HT_ HW_ => ?_)
                                   generalize wr.drew = w89 at HO_5 HO_22 HB hHeld ⊢
                                   refine pure_ (i := 0) (N := some 141) (v := ?_) (a' := ?_) (tfA 1 12) rfl rfl (any_of HT_.out (by kernel_rfl)) (fun _ _ _ h => h) (Or.inl ⟨by rfl, ?_⟩) ?_ ?_
                                   rotate_left
                                   ·intro w'
                                    go_simp
                                    with_reducible rfl
                                   rotate_left
                                   ·simp only [Act.put, sA, s0, s1, i64_w, i32_w]
                                    rfl
                                   refine pure_ (i := 1) (N := some 142) (v := ?_) (a' := ?_) (tfA 2 11) rfl rfl (any_of HT_.out (by kernel_rfl)) (fun _ _ _ h => h) (Or.inl ⟨by rfl, ?_⟩) ?_ ?_
                                   rotate_left
                                   ·intro w'
                                    go_simp
                                    with_reducible rfl
                                   rotate_left
                                   ·simp only [Act.put, sA, s0, s1, i64_w, i32_w]
                                    rfl
                                   refine pure_ (i := 2) (N := some 143) (v := ?_) (a' := ?_) (tfA 3 10) rfl rfl (any_of HT_.out (by kernel_rfl)) (fun _ _ _ h => h) (Or.inl ⟨by rfl, ?_⟩) ?_ ?_
                                   rotate_left
                                   ·intro w'
                                    go_simp
                                    with_reducible rfl
                                   rotate_left
                                   ·simp only [Act.put, sA, s0, s1, i64_w, i32_w]
                                    rfl
                                   refine pure_ (i := 3) (N := some 144) (v := ?_) (a' := ?_) (tfA 4 9) rfl rfl (any_of HT_.out (by kernel_rfl)) (fun _ _ _ h => h) (Or.inl ⟨by rfl, ?_⟩) ?_ ?_
                                   rotate_left
                                   ·intro w'
                                    go_simp
                                    with_reducible rfl
                                   rotate_left
                                   ·simp only [Act.put, sA, s0, s1, i64_w, i32_w]
                                    rfl
                                   refine pure_ (i := 5) (N := some 146) (v := ?_) (a' := ?_) (bnA 13 47) rfl rfl (any_of HT_.out (by kernel_rfl)) (fun _ _ _ h => h) (Or.inl ⟨by rfl, ?_⟩) ?_ ?_
                                   rotate_left
                                   ·intro w'
                                    go_simp
                                    with_reducible rfl
                                   rotate_left
                                   ·simp only [Act.put, sA, s0, s1, i64_w, i32_w]
                                    rfl
                                   refine pure_ (i := 6) (N := some 147) (v := ?_) (a' := ?_) (bnA 13 111) rfl rfl (any_of HT_.out (by kernel_rfl)) (fun _ _ _ h => h) (Or.inl ⟨by rfl, ?_⟩) ?_ ?_
                                   rotate_left
                                   ·intro w'
                                    go_simp
                                    with_reducible rfl
                                   rotate_left
                                   ·simp only [Act.put, sA, s0, s1, i64_w, i32_w]
                                    rfl
                                   refine pure_ (i := 7) (N := some 148) (v := ?_) (a' := ?_) (bnA 13 239) rfl rfl (any_of HT_.out (by kernel_rfl)) (fun _ _ _ h => h) (Or.inl ⟨by rfl, ?_⟩) ?_ ?_
                                   rotate_left
                                   ·intro w'
                                    go_simp
                                    with_reducible rfl
                                   rotate_left
                                   ·simp only [Act.put, sA, s0, s1, i64_w, i32_w]
                                    rfl
                                   refine pure_ (i := 8) (N := some 149) (v := ?_) (a' := ?_) (bnA 13 495) rfl rfl (any_of HT_.out (by kernel_rfl)) (fun _ _ _ h => h) (Or.inl ⟨by rfl, ?_⟩) ?_ ?_
                                   rotate_left
                                   ·intro w'
                                    go_simp
                                    with_reducible rfl
                                   rotate_left
                                   ·simp only [Act.put, sA, s0, s1, i64_w, i32_w]
                                    rfl
                                   refine join_ (σ := Nat) 1 (tfA 12 1) (fun s_ => [(145, .string t143), (150, .string t144), (12, .pointer (some ⟨s_, 0, none⟩)), (151, .agg #[.string x6_2, .string t143, .string t144])]) (fun s_ w' => (Kd.R Kd.string 9 w' w.heap.size (fun _ => True) (.slice (some ad136) t133.length co8) t133) ∧ (Kd.R k52 52 w' w.heap.size (fun k_ => k_ ≠ s_) u5 x5_2) ∧ (w'.heap[s_]? = some (.cells #[.string (⟨#[]⟩ : ByteArray), .string (⟨#[]⟩ : ByteArray), .string (⟨#[]⟩ : ByteArray)] 52 (0, 0))) ∧ (w.heap.size ≤ s_) ∧ (w.heap.size ≤ s_) ∧ (Below w.heap.size w w')) ?_ ?_
                                   rotate_left
                                   ·intro hCont
                                    refine two_ (i := 4) (j := 11) (Ni := some 145) (Nj := some 12) (tfA 9 4) (bnA 13 2543) rfl rfl rfl rfl (two_of HT_.out (by kernel_rfl)) (by decide) (by decide) (fun K hK => ?_) (fun K hK => ?_)
                                    ·skip
                                     refine goes_ Tryd.func24 (by kernel_rfl) rfl #[.string (t141.extract 0 (x10_6 : Int).toNat)] (by rfl) rfl rfl (by (try simp only [List.map_toArray, List.map_cons, List.map_nil]); first | done | rfl | (simp only [List.length_drop, List.length_take]; rfl)) ?_
                                     with_reducible refine (spec_trimmed.calls k6 (t141.extract 0 (x10_6 : Int).toNat) t143 _ A81.out).mono ?_
                                     rintro e w' ⟨rfl, ⟨nd, rfl⟩⟩
                                     refine ⟨_, rfl, ?_⟩
                                     refine hK.out _ _ trivial (fun hHeld => ?_)
                                     clear hK K
                                     refine norm_ (a' := ?_) ?_ ?_
                                     rotate_left
                                     ·show Act.put _ (some 145) _ = _
                                      simp only [Act.put, sA, s0, s1, i64_w, i32_w]
                                      rfl
                                     refine two_ (i := 9) (j := 11) (Ni := some 150) (Nj := some 12) (tfA 10 3) (bnA 13 2559) rfl rfl rfl rfl (two_of HT_.out (by kernel_rfl)) (by decide) (by decide) (fun K hK => ?_) (fun K hK => ?_)
                                     ·skip
                                      refine goes_ Tryd.func24 (by kernel_rfl) rfl #[.string (t141.extract ((ji82) : Int).toNat t141.size)] (by rfl) rfl rfl (by (try simp only [List.map_toArray, List.map_cons, List.map_nil]); first | done | (simp only [hji82]; rfl) | rfl | (simp only [List.length_drop, List.length_take]; rfl)) ?_
                                      with_reducible refine (spec_trimmed.calls k6 (t141.extract ((ji82) : Int).toNat t141.size) t144 _ A85.out).mono ?_
                                      rintro e w' ⟨rfl, ⟨nd, rfl⟩⟩
                                      refine ⟨_, rfl, ?_⟩
                                      refine hK.out _ _ trivial (fun hHeld => ?_)
                                      clear hK K
                                      refine norm_ (a' := ?_) ?_ ?_
                                      rotate_left
                                      ·show Act.put _ (some 150) _ = _
                                       simp only [Act.put, sA, s0, s1, i64_w, i32_w]
                                       rfl
                                      refine pure_ (i := 10) (N := some 151) (v := ?_) (a' := ?_) (tfA 11 2) rfl rfl (any_of HT_.out (by kernel_rfl)) (fun _ _ _ h => h) (Or.inl ⟨by rfl, ?_⟩) ?_ ?_
                                      rotate_left
                                      ·intro w'
                                       go_simp
                                       with_reducible rfl
                                      rotate_left
                                      ·simp only [Act.put, sA, s0, s1, i64_w, i32_w]
                                       rfl
                                      refine one_ (i := 11) (N := some 12) (tfA 12 1) rfl rfl (one_of HT_.out (by kernel_rfl)) (by decide) (fun K hK => ?_)
                                      refine box_step ?hg (N := 12) ?hd (cs := #[.string (⟨#[]⟩ : ByteArray), .string (⟨#[]⟩ : ByteArray), .string (⟨#[]⟩ : ByteArray)]) (t := 52) ?hr ?_; (case hd => rfl); (case hg => rfl); (case hr => first | (go_simp; done) | (go_simp; rfl))
                                      intro gb145 hg w90 hbox hb
                                      have n0_ := Aside0.mk (Kd.R_below (Kd.R_elderB (by (with_reducible repeat (first | apply Kd.R_alloc | apply Kd.R_drewN | apply Kd.R_drew)); exact HO_5.out) gb145 (Nat.le_of_eq hg.symm)) hb)
                                      have n1_ := Aside0.mk (Kd.R_below (by (with_reducible repeat (first | apply Kd.R_alloc | apply Kd.R_drewN | apply Kd.R_drew)); exact HO_22.out) hb)
                                      have n2_ := Aside0.mk (below_step belH hb)
                                      have n3_ := Aside0.mk (hbox)
                                      have n4_ := Aside0.mk ((by rw [hg]; exact (below_size belH) : w.heap.size ≤ gb145))
                                      have n5_ := Aside0.mk ((by rw [hg]; exact (below_size belH) : w.heap.size ≤ gb145))
                                      clear HO_5
                                      clear HO_22
                                      clear HB
                                      have HO_5 := n0_
                                      have HO_22 := n1_
                                      have HB := n2_
                                      have BK145 := n3_
                                      have GW145 := n4_
                                      have GE145 := n5_
                                      clear n0_ n1_ n2_ n3_ n4_ n5_
                                      clear hb hbox hg
                                      refine hK.out _ _ trivial (fun hHeld => ?_)
                                      clear hK K
                                      refine norm_ (a' := ?_) ?_ ?_
                                      rotate_left
                                      ·show Act.put _ (some 12) _ = _
                                       simp only [Act.put, sA, s0, s1, i64_w, i32_w]
                                       rfl
                                      exact norm_ (by simp only [putAll, Act.put, List.setIfInBounds_toArray, List.set_cons_zero, List.set_cons_succ]) (hCont (gb145) _ ⟨(by (with_reducible repeat (first | apply Kd.R_alloc | apply Kd.R_drewN | apply Kd.R_drew)); exact HO_22.out), (by (with_reducible repeat (first | apply Kd.R_alloc | apply Kd.R_drewN | apply Kd.R_drew)); exact Kd.R_mono HO_5.out (fun _ hk => hk.2)), (by refine bY ?_; exact BK145.out), GW145.out, GE145.out, belS⟩)
                                     ·skip
                                      refine box_step ?hg (N := 12) ?hd (cs := #[.string (⟨#[]⟩ : ByteArray), .string (⟨#[]⟩ : ByteArray), .string (⟨#[]⟩ : ByteArray)]) (t := 52) ?hr ?_; (case hd => rfl); (case hg => rfl); (case hr => first | (go_simp; done) | (go_simp; rfl))
                                      intro gb145 hg w90 hbox hb
                                      have n0_ := Aside0.mk (Kd.R_below (Kd.R_elderB (by (with_reducible repeat (first | apply Kd.R_alloc | apply Kd.R_drewN | apply Kd.R_drew)); exact HO_5.out) gb145 (Nat.le_of_eq hg.symm)) hb)
                                      have n1_ := Aside0.mk (Kd.R_below (by (with_reducible repeat (first | apply Kd.R_alloc | apply Kd.R_drewN | apply Kd.R_drew)); exact HO_22.out) hb)
                                      have n2_ := Aside0.mk (below_step belH hb)
                                      have n3_ := Aside0.mk (hbox)
                                      have n4_ := Aside0.mk ((by rw [hg]; exact (below_size belH) : w.heap.size ≤ gb145))
                                      have n5_ := Aside0.mk ((by rw [hg]; exact (below_size belH) : w.heap.size ≤ gb145))
                                      clear HO_5
                                      clear HO_22
                                      clear HB
                                      have HO_5 := n0_
                                      have HO_22 := n1_
                                      have HB := n2_
                                      have BK145 := n3_
                                      have GW145 := n4_
                                      have GE145 := n5_
                                      clear n0_ n1_ n2_ n3_ n4_ n5_
                                      clear hb hbox hg
                                      refine hK.out _ _ trivial (fun hHeld => ?_)
                                      clear hK K
                                      refine norm_ (a' := ?_) ?_ ?_
                                      rotate_left
                                      ·show Act.put _ (some 12) _ = _
                                       simp only [Act.put, sA, s0, s1, i64_w, i32_w]
                                       rfl
                                      refine one_ (i := 9) (N := some 150) (bnA 13 3071) rfl rfl (one_of HT_.out (by kernel_rfl)) (by decide) (fun K hK => ?_)
                                      refine goes_ Tryd.func24 (by kernel_rfl) rfl #[.string (t141.extract ((ji82) : Int).toNat t141.size)] (by rfl) rfl rfl (by (try simp only [List.map_toArray, List.map_cons, List.map_nil]); first | done | (simp only [hji82]; rfl) | rfl | (simp only [List.length_drop, List.length_take]; rfl)) ?_
                                      with_reducible refine (spec_trimmed.calls k6 (t141.extract ((ji82) : Int).toNat t141.size) t144 _ A85.out).mono ?_
                                      rintro e w' ⟨rfl, ⟨nd, rfl⟩⟩
                                      refine ⟨_, rfl, ?_⟩
                                      refine hK.out _ _ trivial (fun hHeld => ?_)
                                      clear hK K
                                      refine norm_ (a' := ?_) ?_ ?_
                                      rotate_left
                                      ·show Act.put _ (some 150) _ = _
                                       simp only [Act.put, sA, s0, s1, i64_w, i32_w]
                                       rfl
                                      refine pure_ (i := 10) (N := some 151) (v := ?_) (a' := ?_) (tfA 12 1) rfl rfl (any_of HT_.out (by kernel_rfl)) (fun _ _ _ h => h) (Or.inl ⟨by rfl, ?_⟩) ?_ ?_
                                      rotate_left
                                      ·intro w'
                                       go_simp
                                       with_reducible rfl
                                      rotate_left
                                      ·simp only [Act.put, sA, s0, s1, i64_w, i32_w]
                                       rfl
                                      exact norm_ (by simp only [putAll, Act.put, List.setIfInBounds_toArray, List.set_cons_zero, List.set_cons_succ]) (hCont (gb145) _ ⟨(by (with_reducible repeat (first | apply Kd.R_alloc | apply Kd.R_drewN | apply Kd.R_drew)); exact HO_22.out), (by (with_reducible repeat (first | apply Kd.R_alloc | apply Kd.R_drewN | apply Kd.R_drew)); exact Kd.R_mono HO_5.out (fun _ hk => hk.2)), (by refine bY ?_; exact BK145.out), GW145.out, GE145.out, belS⟩)
                                    ·skip
                                     refine box_step ?hg (N := 12) ?hd (cs := #[.string (⟨#[]⟩ : ByteArray), .string (⟨#[]⟩ : ByteArray), .string (⟨#[]⟩ : ByteArray)]) (t := 52) ?hr ?_; (case hd => rfl); (case hg => rfl); (case hr => first | (go_simp; done) | (go_simp; rfl))
                                     intro gb145 hg w90 hbox hb
                                     have n0_ := Aside0.mk (Kd.R_below (Kd.R_elderB (by (with_reducible repeat (first | apply Kd.R_alloc | apply Kd.R_drewN | apply Kd.R_drew)); exact HO_5.out) gb145 (Nat.le_of_eq hg.symm)) hb)
                                     have n1_ := Aside0.mk (Kd.R_below (by (with_reducible repeat (first | apply Kd.R_alloc | apply Kd.R_drewN | apply Kd.R_drew)); exact HO_22.out) hb)
                                     have n2_ := Aside0.mk (below_step belH hb)
                                     have n3_ := Aside0.mk (hbox)
                                     have n4_ := Aside0.mk ((by rw [hg]; exact (below_size belH) : w.heap.size ≤ gb145))
                                     have n5_ := Aside0.mk ((by rw [hg]; exact (below_size belH) : w.heap.size ≤ gb145))
                                     clear HO_5
                                     clear HO_22
                                     clear HB
                                     have HO_5 := n0_
                                     have HO_22 := n1_
                                     have HB := n2_
                                     have BK145 := n3_
                                     have GW145 := n4_
                                     have GE145 := n5_
                                     clear n0_ n1_ n2_ n3_ n4_ n5_
                                     clear hb hbox hg
                                     refine hK.out _ _ trivial (fun hHeld => ?_)
                                     clear hK K
                                     refine norm_ (a' := ?_) ?_ ?_
                                     rotate_left
                                     ·show Act.put _ (some 12) _ = _
                                      simp only [Act.put, sA, s0, s1, i64_w, i32_w]
                                      rfl
                                     refine one_ (i := 4) (N := some 145) (bnA 13 2559) rfl rfl (one_of HT_.out (by kernel_rfl)) (by decide) (fun K hK => ?_)
                                     refine goes_ Tryd.func24 (by kernel_rfl) rfl #[.string (t141.extract 0 (x10_6 : Int).toNat)] (by rfl) rfl rfl (by (try simp only [List.map_toArray, List.map_cons, List.map_nil]); first | done | rfl | (simp only [List.length_drop, List.length_take]; rfl)) ?_
                                     with_reducible refine (spec_trimmed.calls k6 (t141.extract 0 (x10_6 : Int).toNat) t143 _ A81.out).mono ?_
                                     rintro e w' ⟨rfl, ⟨nd, rfl⟩⟩
                                     refine ⟨_, rfl, ?_⟩
                                     refine hK.out _ _ trivial (fun hHeld => ?_)
                                     clear hK K
                                     refine norm_ (a' := ?_) ?_ ?_
                                     rotate_left
                                     ·show Act.put _ (some 145) _ = _
                                      simp only [Act.put, sA, s0, s1, i64_w, i32_w]
                                      rfl
                                     refine one_ (i := 9) (N := some 150) (bnA 13 3071) rfl rfl (one_of HT_.out (by kernel_rfl)) (by decide) (fun K hK => ?_)
                                     refine goes_ Tryd.func24 (by kernel_rfl) rfl #[.string (t141.extract ((ji82) : Int).toNat t141.size)] (by rfl) rfl rfl (by (try simp only [List.map_toArray, List.map_cons, List.map_nil]); first | done | (simp only [hji82]; rfl) | rfl | (simp only [List.length_drop, List.length_take]; rfl)) ?_
                                     with_reducible refine (spec_trimmed.calls k6 (t141.extract ((ji82) : Int).toNat t141.size) t144 _ A85.out).mono ?_
                                     rintro e w' ⟨rfl, ⟨nd, rfl⟩⟩
                                     refine ⟨_, rfl, ?_⟩
                                     refine hK.out _ _ trivial (fun hHeld => ?_)
                                     clear hK K
                                     refine norm_ (a' := ?_) ?_ ?_
                                     rotate_left
                                     ·show Act.put _ (some 150) _ = _
                                      simp only [Act.put, sA, s0, s1, i64_w, i32_w]
                                      rfl
                                     refine pure_ (i := 10) (N := some 151) (v := ?_) (a' := ?_) (tfA 12 1) rfl rfl (any_of HT_.out (by kernel_rfl)) (fun _ _ _ h => h) (Or.inl ⟨by rfl, ?_⟩) ?_ ?_
                                     rotate_left
                                     ·intro w'
                                      go_simp
                                      with_reducible rfl
                                     rotate_left
                                     ·simp only [Act.put, sA, s0, s1, i64_w, i32_w]
                                      rfl
                                     exact norm_ (by simp only [putAll, Act.put, List.setIfInBounds_toArray, List.set_cons_zero, List.set_cons_succ]) (hCont (gb145) _ ⟨(by (with_reducible repeat (first | apply Kd.R_alloc | apply Kd.R_drewN | apply Kd.R_drew)); exact HO_22.out), (by (with_reducible repeat (first | apply Kd.R_alloc | apply Kd.R_drewN | apply Kd.R_drew)); exact Kd.R_mono HO_5.out (fun _ hk => hk.2)), (by refine bY ?_; exact BK145.out), GW145.out, GE145.out, belS⟩)
                                   rintro gb145 w91 ⟨h0_, h1_, h2_, h3_, h4_, h5_⟩
                                   have n0_ : Aside0 (Kd.R Kd.string 9 w91 w.heap.size (fun _ => True) (.slice (some ad136) t133.length co8) t133) := ⟨h0_⟩
                                   have n1_ : Aside0 (Kd.R k52 52 w91 w.heap.size (fun k_ => k_ ≠ gb145) u5 x5_2) := ⟨h1_⟩
                                   have n2_ : Aside0 (w91.heap[gb145]? = some (.cells #[.string (⟨#[]⟩ : ByteArray), .string (⟨#[]⟩ : ByteArray), .string (⟨#[]⟩ : ByteArray)] 52 (0, 0))) := ⟨h2_⟩
                                   have n3_ : Aside0 (w.heap.size ≤ gb145) := ⟨h3_⟩
                                   have n4_ : Aside0 (w.heap.size ≤ gb145) := ⟨h4_⟩
                                   have n5_ : Aside0 (Below w.heap.size w w91) := ⟨h5_⟩
                                   clear HO_5
                                   clear HO_22
                                   clear HB
                                   clear h0_ h1_ h2_ h3_ h4_ h5_
                                   have HO_22 := n0_
                                   have HO_5 := n1_
                                   have BK145 := n2_
                                   have GW145 := n3_
                                   have GE145 := n4_
                                   have HB := n5_
                                   clear n0_ n1_ n2_ n3_ n4_ n5_
                                   have hHeld := trivial
                                   refine norm_ (a' := ?_) ?_ ?_
                                   rotate_left
                                   ·simp only [putAll, Act.put, List.setIfInBounds_toArray, List.set_cons_zero, List.set_cons_succ]
                                    rfl
                                   refine one_ (i := 12) (N := none) (tfA 13 0) rfl rfl (one_of HT_.out (by kernel_rfl)) (by decide) (fun K hK => ?_)
                                   have hs92 : w91.cell? ⟨gb145, 0, none⟩ = some (.string (⟨#[]⟩ : ByteArray)) := (blk_cell BK145.out 0).trans rfl
                                   have hfs92 := blk_frozen BK145.out 0
                                   have hs93 : w91.cell? ⟨gb145, 1, none⟩ = some (.string (⟨#[]⟩ : ByteArray)) := (blk_cell BK145.out 1).trans rfl
                                   have hfs93 := blk_frozen BK145.out 1
                                   have hs94 : w91.cell? ⟨gb145, 2, none⟩ = some (.string (⟨#[]⟩ : ByteArray)) := (blk_cell BK145.out 2).trans rfl
                                   have hfs94 := blk_frozen BK145.out 2
                                   refine skip_ (w1 := ?_) (by rfl) rfl ?_ ?_
                                   rotate_left
                                   ·go_simp
                                    rfl
                                   refine hK.out _ _ trivial (fun hHeld => ?_)
                                   clear hK K
                                   refine done_ (done_of HT_.out (by kernel_rfl)) ?_
                                   obtain ⟨hcz95_0, hcz95_1, hcz95_2, hfz95_0, hfz95_1, hfz95_2⟩ := rows3 (w := w91) BK145
                                   try go_wp2_with (first | ((with_reducible refine gate_callee (f := 27) rfl ?_); refine goesL_ (some 154) rfl rfl Tryd.func27 (by kernel_rfl) rfl #[.string t143] rfl (by (try simp only [List.map_toArray, List.map_cons, List.map_nil]); first | done | rfl | (simp only [List.length_drop, List.length_take]; rfl)) ?_; (with_reducible refine (spec_optionName.calls k6 t143 true _ A86.out).mono ?_); rintro e w' ⟨rfl, ⟨nd, rfl⟩⟩; refine ⟨_, rfl, ?_⟩) | ((with_reducible refine gate_builtin (b := .append) (xs := #[.tmp 156, .tmp 158]) rfl ?_); (try (refine gate_guard (by rfl) ?_; dsimp only)); at_builtin; refine Kd.R_append k52 (w0 := w) w.heap.size rfl (.tmp 156) (.tmp 158) 34 52 (.agg #[(.string ⟨#[]⟩), (.string ⟨#[]⟩), (.string ⟨#[]⟩)]) 48 rfl Tryd.underlying34 info52 rfl (by decide) (by omega) u5 x5_2 (⟨x6_2, t143, t144⟩ : S52) [.string x6_2, .string t143, .string t144] (fun k_ => k_ ≠ gb145) (fun _ => False) rfl (by first | (go_simp; done) | (go_simp; rfl)) ?aP (fun _ hk => hk.elim) ?aF ?aO ?aB ?aS ?aL ?_; (case aP => exact k52_mkM _ _ _ (⟨x6_2, t143, t144⟩ : S52)); (case aB => exact belS); (case aF => exact (fun k_ hk => Kd.freshB (g := gb145) (o := .cells #[.string x6_2, .string t143, .string t144] 52 (0, 0)) (by refine bY ?_; refine blk_put (cs := #[.string x6_2, .string t143, .string (⟨#[]⟩ : ByteArray)]) ?_ 2 _ rfl; refine bY ?_; refine blk_put (cs := #[.string x6_2, .string (⟨#[]⟩ : ByteArray), .string (⟨#[]⟩ : ByteArray)]) ?_ 1 _ rfl; refine bY ?_; refine blk_put (cs := #[.string (⟨#[]⟩ : ByteArray), .string (⟨#[]⟩ : ByteArray), .string (⟨#[]⟩ : ByteArray)]) ?_ 0 _ rfl; refine bY ?_; exact BK145.out) k_ hk)); (case aO => exact (by (with_reducible repeat (first | apply Kd.R_alloc | apply Kd.R_drewN | apply Kd.R_drew)); exact Kd.R_mono (Kd.R_far (p := ⟨gb145, 2, none⟩) (Kd.R_far (p := ⟨gb145, 1, none⟩) (Kd.R_far (p := ⟨gb145, 0, none⟩) (Kd.R_mono HO_5.out (fun k_ hk => (⟨hk, hk⟩ : _ ∧ k_ ≠ gb145))) (fun _ hk => hk.2) (.string x6_2)) (fun _ hk => hk.2) (.string t143)) (fun _ hk => hk.2) (.string t144)) (fun _ hk => hk.1))); (case aS => exact (below_size belS)); (case aL => have := LMc88.out; omega); intro v148 w96 ho hb hg hat; rw [← Ny147.out] at ho; have n0_ := Aside0.mk (Kd.R_over' (by (with_reducible repeat (first | apply Kd.R_alloc | apply Kd.R_drewN | apply Kd.R_drew)); exact (Kd.R_mono (Kd.R_far (p := ⟨gb145, 2, none⟩) (Kd.R_far (p := ⟨gb145, 1, none⟩) (Kd.R_far (p := ⟨gb145, 0, none⟩) (Kd.R_types HO_22.out BK145.out (by decide)) (fun _ hk => hk.2) (.string x6_2)) (fun _ hk => hk.2) (.string t143)) (fun _ hk => hk.2) (.string t144)) (fun _ h_ => h_.1))) (Kd.R_typed (by (with_reducible repeat (first | apply Kd.R_alloc | apply Kd.R_drewN | apply Kd.R_drew)); exact (Kd.R_mono (Kd.R_far (p := ⟨gb145, 2, none⟩) (Kd.R_far (p := ⟨gb145, 1, none⟩) (Kd.R_far (p := ⟨gb145, 0, none⟩) (Kd.R_mono HO_5.out (fun k_ hk => (⟨hk, hk⟩ : _ ∧ k_ ≠ gb145))) (fun _ hk => hk.2) (.string x6_2)) (fun _ hk => hk.2) (.string t143)) (fun _ hk => hk.2) (.string t144)) (fun _ h_ => h_.1)))) (by decide) hg); have n1_ := Aside0.mk (blk_grown (g := gb145) (o := .cells #[.string x6_2, .string t143, .string t144] 52 (0, 0)) (by refine bY ?_; refine blk_put (cs := #[.string x6_2, .string t143, .string (⟨#[]⟩ : ByteArray)]) ?_ 2 _ rfl; refine bY ?_; refine blk_put (cs := #[.string x6_2, .string (⟨#[]⟩ : ByteArray), .string (⟨#[]⟩ : ByteArray)]) ?_ 1 _ rfl; refine bY ?_; refine blk_put (cs := #[.string (⟨#[]⟩ : ByteArray), .string (⟨#[]⟩ : ByteArray), .string (⟨#[]⟩ : ByteArray)]) ?_ 0 _ rfl; refine bY ?_; exact BK145.out) hg (Kd.R_away HO_5.out (fun _ hk => hk))); have n2_ := Aside0.mk (hb); have n3_ := Aside0.mk (ho); clear HO_22; clear BK145; clear HB; clear HO_5; have HO_22 := n0_; have BK145 := n1_; have HB := n2_; have HO149 := n3_; clear n0_ n1_ n2_ n3_; clear ho hb hg hat))
                                   go_roundg k6
                                   case measure => have := HJ1.out; have := HK2.out; have := HK3.out; have := HJ25.out; have := HJ50.out; have := HK6.out; omega
                                   case rel => exact ⟨(y147), (x6_2), (wrap64 (x24_2 + 1)), (by first | rfl | (simp; done) | (simp [*]; done) | (simp [bne_nil]; done) | (simp [bne_nil, *]; done)), (by first | rfl | (simp; done) | (simp [*]; done) | (simp [bne_nil]; done) | (simp [bne_nil, *]; done)), H', ⟨by have := HJ1.out; have := HK2.out; have := HK3.out; have := HJ25.out; have := HJ50.out; have := HK6.out; omega⟩, ⟨by (with_reducible repeat (first | apply Kd.R_alloc | apply Kd.R_drewN | apply Kd.R_drew)); exact Kd.R_mono HO149.out (fun _ hk => trivial)⟩, ⟨by (with_reducible repeat (first | apply Kd.R_alloc | apply Kd.R_drewN | apply Kd.R_drew)); exact HO_22.out⟩, ⟨by repeat (first | (with_reducible first | exact HB.out | apply below_alloc | apply pw_below_drewN | apply below_drew1 | refine below_set ?_ GE145.out) | exact HB.out)⟩⟩
                                  ·rw [if_neg c88] at H
                                   exact absurd H (by simp)
                                 ·replace c87 := Bool.eq_false_iff.mpr c87
                                  subst c87
                                  have H1 : (some (([] : List (S52)), false, 2)) = some (r1, r2, r3) := by rw [if_neg (show ¬ (false = true) by decide)] at H; exact H
                                  clear H
                                  have H := H1
                                  clear H1
                                  simp only [Option.some.injEq, Prod.mk.injEq] at H
                                  obtain ⟨rfl, rfl, rfl⟩ := H
                                  try go_wp2
                                  have n0_ := Aside0.mk (Kd.R_drew HO_5.out)
                                  have n1_ := Aside0.mk (Kd.R_drew HO_22.out)
                                  have n2_ := Aside0.mk (below_drew1 HB.out)
                                  clear HO_5
                                  clear HO_22
                                  clear HB
                                  have HO_5 := n0_
                                  have HO_22 := n1_
                                  have HB := n2_
                                  clear n0_ n1_ n2_
                                  refine start_ (n := 13) (S := fun w' => True) (ds := []) (tfA 0 13) (by kernel_rfl) rfl rfl trivial (fun hHeld => ?_); refine with_tabW spec_UnitParse.tab38 spec_UnitParse.bits38 (fun HT_ HW_ => ?_)
                                  generalize wr.drew = w97 at HO_5 HO_22 HB hHeld ⊢
                                  refine pure_ (i := 0) (N := some 141) (v := ?_) (a' := ?_) (tfA 1 12) rfl rfl (any_of HT_.out (by kernel_rfl)) (fun _ _ _ h => h) (Or.inl ⟨by rfl, ?_⟩) ?_ ?_
                                  rotate_left
                                  ·intro w'
                                   go_simp
                                   with_reducible rfl
                                  rotate_left
                                  ·simp only [Act.put, sA, s0, s1, i64_w, i32_w]
                                   rfl
                                  refine pure_ (i := 1) (N := some 142) (v := ?_) (a' := ?_) (tfA 2 11) rfl rfl (any_of HT_.out (by kernel_rfl)) (fun _ _ _ h => h) (Or.inl ⟨by rfl, ?_⟩) ?_ ?_
                                  rotate_left
                                  ·intro w'
                                   go_simp
                                   with_reducible rfl
                                  rotate_left
                                  ·simp only [Act.put, sA, s0, s1, i64_w, i32_w]
                                   rfl
                                  refine pure_ (i := 2) (N := some 143) (v := ?_) (a' := ?_) (tfA 3 10) rfl rfl (any_of HT_.out (by kernel_rfl)) (fun _ _ _ h => h) (Or.inl ⟨by rfl, ?_⟩) ?_ ?_
                                  rotate_left
                                  ·intro w'
                                   go_simp
                                   with_reducible rfl
                                  rotate_left
                                  ·simp only [Act.put, sA, s0, s1, i64_w, i32_w]
                                   rfl
                                  refine pure_ (i := 3) (N := some 144) (v := ?_) (a' := ?_) (tfA 4 9) rfl rfl (any_of HT_.out (by kernel_rfl)) (fun _ _ _ h => h) (Or.inl ⟨by rfl, ?_⟩) ?_ ?_
                                  rotate_left
                                  ·intro w'
                                   go_simp
                                   with_reducible rfl
                                  rotate_left
                                  ·simp only [Act.put, sA, s0, s1, i64_w, i32_w]
                                   rfl
                                  refine pure_ (i := 5) (N := some 146) (v := ?_) (a' := ?_) (bnA 13 47) rfl rfl (any_of HT_.out (by kernel_rfl)) (fun _ _ _ h => h) (Or.inl ⟨by rfl, ?_⟩) ?_ ?_
                                  rotate_left
                                  ·intro w'
                                   go_simp
                                   with_reducible rfl
                                  rotate_left
                                  ·simp only [Act.put, sA, s0, s1, i64_w, i32_w]
                                   rfl
                                  refine pure_ (i := 6) (N := some 147) (v := ?_) (a' := ?_) (bnA 13 111) rfl rfl (any_of HT_.out (by kernel_rfl)) (fun _ _ _ h => h) (Or.inl ⟨by rfl, ?_⟩) ?_ ?_
                                  rotate_left
                                  ·intro w'
                                   go_simp
                                   with_reducible rfl
                                  rotate_left
                                  ·simp only [Act.put, sA, s0, s1, i64_w, i32_w]
                                   rfl
                                  refine pure_ (i := 7) (N := some 148) (v := ?_) (a' := ?_) (bnA 13 239) rfl rfl (any_of HT_.out (by kernel_rfl)) (fun _ _ _ h => h) (Or.inl ⟨by rfl, ?_⟩) ?_ ?_
                                  rotate_left
                                  ·intro w'
                                   go_simp
                                   with_reducible rfl
                                  rotate_left
                                  ·simp only [Act.put, sA, s0, s1, i64_w, i32_w]
                                   rfl
                                  refine pure_ (i := 8) (N := some 149) (v := ?_) (a' := ?_) (bnA 13 495) rfl rfl (any_of HT_.out (by kernel_rfl)) (fun _ _ _ h => h) (Or.inl ⟨by rfl, ?_⟩) ?_ ?_
                                  rotate_left
                                  ·intro w'
                                   go_simp
                                   with_reducible rfl
                                  rotate_left
                                  ·simp only [Act.put, sA, s0, s1, i64_w, i32_w]
                                   rfl
                                  refine join_ (σ := Nat) 1 (tfA 12 1) (fun s_ => [(145, .string t143), (150, .string t144), (12, .pointer (some ⟨s_, 0, none⟩)), (151, .agg #[.string x6_2, .string t143, .string t144])]) (fun s_ w' => (Kd.R Kd.string 9 w' w.heap.size (fun _ => True) (.slice (some ad136) t133.length co8) t133) ∧ (Kd.R k52 52 w' w.heap.size (fun k_ => k_ ≠ s_) u5 x5_2) ∧ (w'.heap[s_]? = some (.cells #[.string (⟨#[]⟩ : ByteArray), .string (⟨#[]⟩ : ByteArray), .string (⟨#[]⟩ : ByteArray)] 52 (0, 0))) ∧ (w.heap.size ≤ s_) ∧ (w.heap.size ≤ s_) ∧ (Below w.heap.size w w')) ?_ ?_
                                  rotate_left
                                  ·intro hCont
                                   refine two_ (i := 4) (j := 11) (Ni := some 145) (Nj := some 12) (tfA 9 4) (bnA 13 2543) rfl rfl rfl rfl (two_of HT_.out (by kernel_rfl)) (by decide) (by decide) (fun K hK => ?_) (fun K hK => ?_)
                                   ·skip
                                    refine goes_ Tryd.func24 (by kernel_rfl) rfl #[.string (t141.extract 0 (x10_6 : Int).toNat)] (by rfl) rfl rfl (by (try simp only [List.map_toArray, List.map_cons, List.map_nil]); first | done | rfl | (simp only [List.length_drop, List.length_take]; rfl)) ?_
                                    with_reducible refine (spec_trimmed.calls k6 (t141.extract 0 (x10_6 : Int).toNat) t143 _ A81.out).mono ?_
                                    rintro e w' ⟨rfl, ⟨nd, rfl⟩⟩
                                    refine ⟨_, rfl, ?_⟩
                                    refine hK.out _ _ trivial (fun hHeld => ?_)
                                    clear hK K
                                    refine norm_ (a' := ?_) ?_ ?_
                                    rotate_left
                                    ·show Act.put _ (some 145) _ = _
                                     simp only [Act.put, sA, s0, s1, i64_w, i32_w]
                                     rfl
                                    refine two_ (i := 9) (j := 11) (Ni := some 150) (Nj := some 12) (tfA 10 3) (bnA 13 2559) rfl rfl rfl rfl (two_of HT_.out (by kernel_rfl)) (by decide) (by decide) (fun K hK => ?_) (fun K hK => ?_)
                                    ·skip
                                     refine goes_ Tryd.func24 (by kernel_rfl) rfl #[.string (t141.extract ((ji82) : Int).toNat t141.size)] (by rfl) rfl rfl (by (try simp only [List.map_toArray, List.map_cons, List.map_nil]); first | done | (simp only [hji82]; rfl) | rfl | (simp only [List.length_drop, List.length_take]; rfl)) ?_
                                     with_reducible refine (spec_trimmed.calls k6 (t141.extract ((ji82) : Int).toNat t141.size) t144 _ A85.out).mono ?_
                                     rintro e w' ⟨rfl, ⟨nd, rfl⟩⟩
                                     refine ⟨_, rfl, ?_⟩
                                     refine hK.out _ _ trivial (fun hHeld => ?_)
                                     clear hK K
                                     refine norm_ (a' := ?_) ?_ ?_
                                     rotate_left
                                     ·show Act.put _ (some 150) _ = _
                                      simp only [Act.put, sA, s0, s1, i64_w, i32_w]
                                      rfl
                                     refine pure_ (i := 10) (N := some 151) (v := ?_) (a' := ?_) (tfA 11 2) rfl rfl (any_of HT_.out (by kernel_rfl)) (fun _ _ _ h => h) (Or.inl ⟨by rfl, ?_⟩) ?_ ?_
                                     rotate_left
                                     ·intro w'
                                      go_simp
                                      with_reducible rfl
                                     rotate_left
                                     ·simp only [Act.put, sA, s0, s1, i64_w, i32_w]
                                      rfl
                                     refine one_ (i := 11) (N := some 12) (tfA 12 1) rfl rfl (one_of HT_.out (by kernel_rfl)) (by decide) (fun K hK => ?_)
                                     refine box_step ?hg (N := 12) ?hd (cs := #[.string (⟨#[]⟩ : ByteArray), .string (⟨#[]⟩ : ByteArray), .string (⟨#[]⟩ : ByteArray)]) (t := 52) ?hr ?_; (case hd => rfl); (case hg => rfl); (case hr => first | (go_simp; done) | (go_simp; rfl))
                                     intro gb145 hg w98 hbox hb
                                     have n0_ := Aside0.mk (Kd.R_below (Kd.R_elderB (by (with_reducible repeat (first | apply Kd.R_alloc | apply Kd.R_drewN | apply Kd.R_drew)); exact HO_5.out) gb145 (Nat.le_of_eq hg.symm)) hb)
                                     have n1_ := Aside0.mk (Kd.R_below (by (with_reducible repeat (first | apply Kd.R_alloc | apply Kd.R_drewN | apply Kd.R_drew)); exact HO_22.out) hb)
                                     have n2_ := Aside0.mk (below_step belH hb)
                                     have n3_ := Aside0.mk (hbox)
                                     have n4_ := Aside0.mk ((by rw [hg]; exact (below_size belH) : w.heap.size ≤ gb145))
                                     have n5_ := Aside0.mk ((by rw [hg]; exact (below_size belH) : w.heap.size ≤ gb145))
                                     clear HO_5
                                     clear HO_22
                                     clear HB
                                     have HO_5 := n0_
                                     have HO_22 := n1_
                                     have HB := n2_
                                     have BK145 := n3_
                                     have GW145 := n4_
                                     have GE145 := n5_
                                     clear n0_ n1_ n2_ n3_ n4_ n5_
                                     clear hb hbox hg
                                     refine hK.out _ _ trivial (fun hHeld => ?_)
                                     clear hK K
                                     refine norm_ (a' := ?_) ?_ ?_
                                     rotate_left
                                     ·show Act.put _ (some 12) _ = _
                                      simp only [Act.put, sA, s0, s1, i64_w, i32_w]
                                      rfl
                                     exact norm_ (by simp only [putAll, Act.put, List.setIfInBounds_toArray, List.set_cons_zero, List.set_cons_succ]) (hCont (gb145) _ ⟨(by (with_reducible repeat (first | apply Kd.R_alloc | apply Kd.R_drewN | apply Kd.R_drew)); exact HO_22.out), (by (with_reducible repeat (first | apply Kd.R_alloc | apply Kd.R_drewN | apply Kd.R_drew)); exact Kd.R_mono HO_5.out (fun _ hk => hk.2)), (by refine bY ?_; exact BK145.out), GW145.out, GE145.out, belS⟩)
                                    ·skip
                                     refine box_step ?hg (N := 12) ?hd (cs := #[.string (⟨#[]⟩ : ByteArray), .string (⟨#[]⟩ : ByteArray), .string (⟨#[]⟩ : ByteArray)]) (t := 52) ?hr ?_; (case hd => rfl); (case hg => rfl); (case hr => first | (go_simp; done) | (go_simp; rfl))
                                     intro gb145 hg w98 hbox hb
                                     have n0_ := Aside0.mk (Kd.R_below (Kd.R_elderB (by (with_reducible repeat (first | apply Kd.R_alloc | apply Kd.R_drewN | apply Kd.R_drew)); exact HO_5.out) gb145 (Nat.le_of_eq hg.symm)) hb)
                                     have n1_ := Aside0.mk (Kd.R_below (by (with_reducible repeat (first | apply Kd.R_alloc | apply Kd.R_drewN | apply Kd.R_drew)); exact HO_22.out) hb)
                                     have n2_ := Aside0.mk (below_step belH hb)
                                     have n3_ := Aside0.mk (hbox)
                                     have n4_ := Aside0.mk ((by rw [hg]; exact (below_size belH) : w.heap.size ≤ gb145))
                                     have n5_ := Aside0.mk ((by rw [hg]; exact (below_size belH) : w.heap.size ≤ gb145))
                                     clear HO_5
                                     clear HO_22
                                     clear HB
                                     have HO_5 := n0_
                                     have HO_22 := n1_
                                     have HB := n2_
                                     have BK145 := n3_
                                     have GW145 := n4_
                                     have GE145 := n5_
                                     clear n0_ n1_ n2_ n3_ n4_ n5_
                                     clear hb hbox hg
                                     refine hK.out _ _ trivial (fun hHeld => ?_)
                                     clear hK K
                                     refine norm_ (a' := ?_) ?_ ?_
                                     rotate_left
                                     ·show Act.put _ (some 12) _ = _
                                      simp only [Act.put, sA, s0, s1, i64_w, i32_w]
                                      rfl
                                     refine one_ (i := 9) (N := some 150) (bnA 13 3071) rfl rfl (one_of HT_.out (by kernel_rfl)) (by decide) (fun K hK => ?_)
                                     refine goes_ Tryd.func24 (by kernel_rfl) rfl #[.string (t141.extract ((ji82) : Int).toNat t141.size)] (by rfl) rfl rfl (by (try simp only [List.map_toArray, List.map_cons, List.map_nil]); first | done | (simp only [hji82]; rfl) | rfl | (simp only [List.length_drop, List.length_take]; rfl)) ?_
                                     with_reducible refine (spec_trimmed.calls k6 (t141.extract ((ji82) : Int).toNat t141.size) t144 _ A85.out).mono ?_
                                     rintro e w' ⟨rfl, ⟨nd, rfl⟩⟩
                                     refine ⟨_, rfl, ?_⟩
                                     refine hK.out _ _ trivial (fun hHeld => ?_)
                                     clear hK K
                                     refine norm_ (a' := ?_) ?_ ?_
                                     rotate_left
                                     ·show Act.put _ (some 150) _ = _
                                      simp only [Act.put, sA, s0, s1, i64_w, i32_w]
                                      rfl
                                     refine pure_ (i := 10) (N := some 151) (v := ?_) (a' := ?_) (tfA 12 1) rfl rfl (any_of HT_.out (by kernel_rfl)) (fun _ _ _ h => h) (Or.inl ⟨by rfl, ?_⟩) ?_ ?_
                                     rotate_left
                                     ·intro w'
                                      go_simp
                                      with_reducible rfl
                                     rotate_left
                                     ·simp only [Act.put, sA, s0, s1, i64_w, i32_w]
                                      rfl
                                     exact norm_ (by simp only [putAll, Act.put, List.setIfInBounds_toArray, List.set_cons_zero, List.set_cons_succ]) (hCont (gb145) _ ⟨(by (with_reducible repeat (first | apply Kd.R_alloc | apply Kd.R_drewN | apply Kd.R_drew)); exact HO_22.out), (by (with_reducible repeat (first | apply Kd.R_alloc | apply Kd.R_drewN | apply Kd.R_drew)); exact Kd.R_mono HO_5.out (fun _ hk => hk.2)), (by refine bY ?_; exact BK145.out), GW145.out, GE145.out, belS⟩)
                                   ·skip
                                    refine box_step ?hg (N := 12) ?hd (cs := #[.string (⟨#[]⟩ : ByteArray), .string (⟨#[]⟩ : ByteArray), .string (⟨#[]⟩ : ByteArray)]) (t := 52) ?hr ?_; (case hd => rfl); (case hg => rfl); (case hr => first | (go_simp; done) | (go_simp; rfl))
                                    intro gb145 hg w98 hbox hb
                                    have n0_ := Aside0.mk (Kd.R_below (Kd.R_elderB (by (with_reducible repeat (first | apply Kd.R_alloc | apply Kd.R_drewN | apply Kd.R_drew)); exact HO_5.out) gb145 (Nat.le_of_eq hg.symm)) hb)
                                    have n1_ := Aside0.mk (Kd.R_below (by (with_reducible repeat (first | apply Kd.R_alloc | apply Kd.R_drewN | apply Kd.R_drew)); exact HO_22.out) hb)
                                    have n2_ := Aside0.mk (below_step belH hb)
                                    have n3_ := Aside0.mk (hbox)
                                    have n4_ := Aside0.mk ((by rw [hg]; exact (below_size belH) : w.heap.size ≤ gb145))
                                    have n5_ := Aside0.mk ((by rw [hg]; exact (below_size belH) : w.heap.size ≤ gb145))
                                    clear HO_5
                                    clear HO_22
                                    clear HB
                                    have HO_5 := n0_
                                    have HO_22 := n1_
                                    have HB := n2_
                                    have BK145 := n3_
                                    have GW145 := n4_
                                    have GE145 := n5_
                                    clear n0_ n1_ n2_ n3_ n4_ n5_
                                    clear hb hbox hg
                                    refine hK.out _ _ trivial (fun hHeld => ?_)
                                    clear hK K
                                    refine norm_ (a' := ?_) ?_ ?_
                                    rotate_left
                                    ·show Act.put _ (some 12) _ = _
                                     simp only [Act.put, sA, s0, s1, i64_w, i32_w]
                                     rfl
                                    refine one_ (i := 4) (N := some 145) (bnA 13 2559) rfl rfl (one_of HT_.out (by kernel_rfl)) (by decide) (fun K hK => ?_)
                                    refine goes_ Tryd.func24 (by kernel_rfl) rfl #[.string (t141.extract 0 (x10_6 : Int).toNat)] (by rfl) rfl rfl (by (try simp only [List.map_toArray, List.map_cons, List.map_nil]); first | done | rfl | (simp only [List.length_drop, List.length_take]; rfl)) ?_
                                    with_reducible refine (spec_trimmed.calls k6 (t141.extract 0 (x10_6 : Int).toNat) t143 _ A81.out).mono ?_
                                    rintro e w' ⟨rfl, ⟨nd, rfl⟩⟩
                                    refine ⟨_, rfl, ?_⟩
                                    refine hK.out _ _ trivial (fun hHeld => ?_)
                                    clear hK K
                                    refine norm_ (a' := ?_) ?_ ?_
                                    rotate_left
                                    ·show Act.put _ (some 145) _ = _
                                     simp only [Act.put, sA, s0, s1, i64_w, i32_w]
                                     rfl
                                    refine one_ (i := 9) (N := some 150) (bnA 13 3071) rfl rfl (one_of HT_.out (by kernel_rfl)) (by decide) (fun K hK => ?_)
                                    refine goes_ Tryd.func24 (by kernel_rfl) rfl #[.string (t141.extract ((ji82) : Int).toNat t141.size)] (by rfl) rfl rfl (by (try simp only [List.map_toArray, List.map_cons, List.map_nil]); first | done | (simp only [hji82]; rfl) | rfl | (simp only [List.length_drop, List.length_take]; rfl)) ?_
                                    with_reducible refine (spec_trimmed.calls k6 (t141.extract ((ji82) : Int).toNat t141.size) t144 _ A85.out).mono ?_
                                    rintro e w' ⟨rfl, ⟨nd, rfl⟩⟩
                                    refine ⟨_, rfl, ?_⟩
                                    refine hK.out _ _ trivial (fun hHeld => ?_)
                                    clear hK K
                                    refine norm_ (a' := ?_) ?_ ?_
                                    rotate_left
                                    ·show Act.put _ (some 150) _ = _
                                     simp only [Act.put, sA, s0, s1, i64_w, i32_w]
                                     rfl
                                    refine pure_ (i := 10) (N := some 151) (v := ?_) (a' := ?_) (tfA 12 1) rfl rfl (any_of HT_.out (by kernel_rfl)) (fun _ _ _ h => h) (Or.inl ⟨by rfl, ?_⟩) ?_ ?_
                                    rotate_left
                                    ·intro w'
                                     go_simp
                                     with_reducible rfl
                                    rotate_left
                                    ·simp only [Act.put, sA, s0, s1, i64_w, i32_w]
                                     rfl
                                    exact norm_ (by simp only [putAll, Act.put, List.setIfInBounds_toArray, List.set_cons_zero, List.set_cons_succ]) (hCont (gb145) _ ⟨(by (with_reducible repeat (first | apply Kd.R_alloc | apply Kd.R_drewN | apply Kd.R_drew)); exact HO_22.out), (by (with_reducible repeat (first | apply Kd.R_alloc | apply Kd.R_drewN | apply Kd.R_drew)); exact Kd.R_mono HO_5.out (fun _ hk => hk.2)), (by refine bY ?_; exact BK145.out), GW145.out, GE145.out, belS⟩)
                                  rintro gb145 w99 ⟨h0_, h1_, h2_, h3_, h4_, h5_⟩
                                  have n0_ : Aside0 (Kd.R Kd.string 9 w99 w.heap.size (fun _ => True) (.slice (some ad136) t133.length co8) t133) := ⟨h0_⟩
                                  have n1_ : Aside0 (Kd.R k52 52 w99 w.heap.size (fun k_ => k_ ≠ gb145) u5 x5_2) := ⟨h1_⟩
                                  have n2_ : Aside0 (w99.heap[gb145]? = some (.cells #[.string (⟨#[]⟩ : ByteArray), .string (⟨#[]⟩ : ByteArray), .string (⟨#[]⟩ : ByteArray)] 52 (0, 0))) := ⟨h2_⟩
                                  have n3_ : Aside0 (w.heap.size ≤ gb145) := ⟨h3_⟩
                                  have n4_ : Aside0 (w.heap.size ≤ gb145) := ⟨h4_⟩
                                  have n5_ : Aside0 (Below w.heap.size w w99) := ⟨h5_⟩
                                  clear HO_5
                                  clear HO_22
                                  clear HB
                                  clear h0_ h1_ h2_ h3_ h4_ h5_
                                  have HO_22 := n0_
                                  have HO_5 := n1_
                                  have BK145 := n2_
                                  have GW145 := n3_
                                  have GE145 := n4_
                                  have HB := n5_
                                  clear n0_ n1_ n2_ n3_ n4_ n5_
                                  have hHeld := trivial
                                  refine norm_ (a' := ?_) ?_ ?_
                                  rotate_left
                                  ·simp only [putAll, Act.put, List.setIfInBounds_toArray, List.set_cons_zero, List.set_cons_succ]
                                   rfl
                                  refine one_ (i := 12) (N := none) (tfA 13 0) rfl rfl (one_of HT_.out (by kernel_rfl)) (by decide) (fun K hK => ?_)
                                  have hs100 : w99.cell? ⟨gb145, 0, none⟩ = some (.string (⟨#[]⟩ : ByteArray)) := (blk_cell BK145.out 0).trans rfl
                                  have hfs100 := blk_frozen BK145.out 0
                                  have hs101 : w99.cell? ⟨gb145, 1, none⟩ = some (.string (⟨#[]⟩ : ByteArray)) := (blk_cell BK145.out 1).trans rfl
                                  have hfs101 := blk_frozen BK145.out 1
                                  have hs102 : w99.cell? ⟨gb145, 2, none⟩ = some (.string (⟨#[]⟩ : ByteArray)) := (blk_cell BK145.out 2).trans rfl
                                  have hfs102 := blk_frozen BK145.out 2
                                  refine skip_ (w1 := ?_) (by rfl) rfl ?_ ?_
                                  rotate_left
                                  ·go_simp
                                   rfl
                                  refine hK.out _ _ trivial (fun hHeld => ?_)
                                  clear hK K
                                  refine done_ (done_of HT_.out (by kernel_rfl)) ?_
                                  obtain ⟨hcz103_0, hcz103_1, hcz103_2, hfz103_0, hfz103_1, hfz103_2⟩ := rows3 (w := w99) BK145
                                  try go_wp2_with (first | ((with_reducible refine gate_callee (f := 27) rfl ?_); refine goesL_ (some 154) rfl rfl Tryd.func27 (by kernel_rfl) rfl #[.string t143] rfl (by (try simp only [List.map_toArray, List.map_cons, List.map_nil]); first | done | rfl | (simp only [List.length_drop, List.length_take]; rfl)) ?_; (with_reducible refine (spec_optionName.calls k6 t143 false _ A86.out).mono ?_); rintro e w' ⟨rfl, ⟨nd, rfl⟩⟩; refine ⟨_, rfl, ?_⟩))
                                  go_ret3
                                  exact ⟨_, by first | rfl | (simp [errW_none, errW_some] <;> rfl) | (simp only [← hji46, ← hji82]; first | rfl | (simp [errW_none, errW_some] <;> rfl)) | (simp [*, errW_none, errW_some] <;> rfl), by first | exact Kd.R_nil _ _ _ _ _ | exact Kd.N_nil _ _ _ _ _ | exact Kd.V_nil _ _ _ _ _ | exact Kd.Q_nil _ _ _ _ _ | exact Kd.S_nil _ _ _ _ _, by repeat (first | (with_reducible first | exact HB.out | apply below_alloc | apply pw_below_drewN | apply below_drew1 | refine below_set ?_ GE145.out) | exact HB.out)⟩
                                ·rw [if_neg c84] at H
                                 exact absurd H (by simp)
                               ·rw [if_neg c83] at H
                                exact absurd H (by simp)
                              ·rw [if_neg c80] at H
                               exact absurd H (by simp)
                             ·rw [if_neg c79] at H
                              exact absurd H (by simp)
                      ·rw [if_neg c57] at H
                       exact absurd H (by simp)
                 ·rw [if_neg c48] at H
                  exact absurd H (by simp)
                ·rw [if_neg c47] at H
                 exact absurd H (by simp)
        ·rw [if_neg c11] at H
         exact absurd H (by simp)
       ·rw [if_neg c10] at H
        exact absurd H (by simp)
      ·rw [if_neg c9] at H
       have c9b0 : decide (x24_2 < (t133.length : Int)) = false := decide_eq_false c9
       clear c9
       simp only [Option.some.injEq, Prod.mk.injEq] at H
       obtain ⟨rfl, rfl, rfl⟩ := H
       go_wp2
       go_ret3
       exact ⟨_, by first | rfl | (simp [errW_none, errW_some] <;> rfl) | (simp [*, errW_none, errW_some] <;> rfl), by (with_reducible repeat (first | apply Kd.R_alloc | apply Kd.R_drewN | apply Kd.R_drew)); exact HO_5.out, by repeat (first | (with_reducible first | exact HB.out | apply below_alloc | apply pw_below_drewN | apply below_drew1) | exact HB.out)⟩

end Go.Proofs.YtlmmgienbmghmaaDoor.L
