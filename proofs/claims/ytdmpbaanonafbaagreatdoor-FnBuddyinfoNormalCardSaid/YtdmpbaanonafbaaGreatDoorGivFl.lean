import Derived.Test.YtdmpbaanonafbaaGreatDoorGivZ
import Derived.Test.YtdmpbaanonafbaaGreatDoorFlt
import Derived.Laws.Cover2
namespace Go.Proofs.YtdmpbaanonafbaaGreatDoor.GivFl
open Go.RowKit Go.Proofs.YtdmpbaanonafbaaGreatDoorW.PrintWords Go.Proofs.YtdmpbaanonafbaaGreatDoor.GivZ Go.Proofs.YtdmpbaanonafbaaGreatDoor.Flt
set_option linter.unusedVariables false
theorem run_quo {P : Program} (t : TypeId) (a b r : Nat) (h : FloatKind.f64.format.div a b = some r) (w : World) : (binOp .quo t (.float .f64 a) (.float .f64 b)).run P w = .ok (.float .f64 r) w := by
  simp [binOp, Op.floatArith, h]
set_option maxRecDepth 100000 in
theorem exact_neg (m : Nat) (x : Nat) (r : Nat) (hm : m < 4503599627370496) (hx0 : 0 < x) (hx : x ≤ 22) (hr : FloatKind.f64.format.div (floatOfInt .f64 (m : Int)) (pows10[x]?.getD 0) = some r) (w : World) (hTabs : Tabs w) :
    Calls Tryz.prog 204 #[.int .u64 m, .int .i64 (-(x : Int)), .bool false] w fun e w' => e = .returned (.tuple #[.float .f64 r, .bool true]) ∧ w = w' := by
  obtain ⟨h1, h2, hi, ad, c, h3, hc, h4⟩ := hTabs
  have hp := h4 x (by omega)
  have e1 : (-(x : Int)) ≠ 0 := by omega
  have e2 : ¬ (0 : Int) < -(x : Int) := by omega
  have e3 : (-(x : Int)) < 0 := by omega
  have e4 : (-22 : Int) ≤ -(x : Int) := by omega
  clear h1 h2 h4
  have hs31 : (Tryz.prog.underlying 31).isSome = true := by rw [Tryz.underlying31]; rfl
  have hd32 := Tryz.underlying32
  have hq := run_quo (P := Tryz.prog) 32 _ _ _ hr
  go_enter Tryz.func204, Tryz.ntmps204
  go_wp2
  go_ret2
  exact ⟨rfl, rfl⟩
end Go.Proofs.YtdmpbaanonafbaaGreatDoor.GivFl
