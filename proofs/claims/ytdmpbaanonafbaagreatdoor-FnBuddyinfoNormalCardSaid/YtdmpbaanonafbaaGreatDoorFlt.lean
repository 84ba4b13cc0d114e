/- Floats of 64 bits as a kind of the print's words (their bits), and math.Float64bits: every float. -/
import Derived.Test.YtdmpbaanonafbaaGreatDoorProg
import Derived.WalkKit
import Derived.WalkSpells
import Derived.KernelRfl
import Derived.WideLaws
import Derived.Test.YtdmpbaanonafbaaGreatDoorWWords
import Derived.Test.YtdmpbaanonafbaaGreatDoorWFoot
namespace Go.Proofs.YtdmpbaanonafbaaGreatDoorW.PrintWords
open Go.RowKit
namespace Kd
def flt : Kd Nat := scalar (Value.float .f64) (fun _ => rfl)
theorem at_flt {w : World} {A : Option Addr} {n : Nat} {xs : List Nat} (h : Kd.flt.C w A n xs) (i : Int) (h0 : 0 ≤ i) (h1 : i < n) : ∃ ad, A = some ad ∧ w.cell? (ad.add i.toNat) = some (.float .f64 (rdOf 0 xs i)) :=
  ReadsOf.at_ (reads_of_C (enc := Value.float .f64) (d := (0 : Nat)) (h1 := fun _ => rfl) h) i h0 h1
end Kd
end Go.Proofs.YtdmpbaanonafbaaGreatDoorW.PrintWords
namespace Go.Proofs.YtdmpbaanonafbaaGreatDoor.Flt
open Go.RowKit Go.Proofs.YtdmpbaanonafbaaGreatDoorW.PrintWords
/-- As the walk spells 's != ""'. -/
theorem bne_nil (l : List UInt8) : (l != []) = !l.isEmpty := by cases l <;> rfl
/-- The model's entry for math.Float64bits: the bits. -/
theorem run_fbits (b : Nat) (w : World) : (callFunc 114 #[.float .f64 b]).run Tryz.prog w = .ok (.value (.int .u64 (b : Int))) w := by
  rw [run_callFunc_extern Tryz.func114 (by kernel_rfl) (by kernel_rfl) (by kernel_rfl) (e := Extern.MathFloatBits.float64bits) (by kernel_rfl)]
  rfl
theorem run_store_float {P : Program} (w : World) (a : Addr) (m : Mode) (k : FloatKind) (b : Nat) : (store a (.float k b) m).run P w = stored P w a (.float k b) m := run_store P w a _ m rfl
attribute [go_sem] run_fbits run_store_float
end Go.Proofs.YtdmpbaanonafbaaGreatDoor.Flt
