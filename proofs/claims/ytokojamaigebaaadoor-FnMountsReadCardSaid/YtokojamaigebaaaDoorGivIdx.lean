/- Contracts, by hand, of the library's functions that the print does not take: strings.IndexByte: every string and byte, no condition. -/
import Derived.Test.YtokojamaigebaaaDoorProg
import Derived.WalkKit
import Derived.WalkSpells
import Derived.KernelRfl
import Derived.Lib.Bytealg
import Derived.Test.YtokojamaigebaaaDoorWWords
namespace Go.Proofs.YtokojamaigebaaaDoor.GivIdx
open Go.RowKit Go.Proofs.YtokojamaigebaaaDoorW.PrintWords

/-- What strings.IndexByte answers. -/
def strings_IndexByte.f (a0 : ByteArray) (a1 : Int) : Option Int := some (Lib.indexByte a0.data.toList a1.toNat.toUInt8)

set_option maxRecDepth 100000 in
theorem stringslite_IndexByte_any (s : ByteArray) (c : Int) (w : World) :
    Calls Tryd.prog 60 #[.string s, .int .u8 c] w fun e w' => e = .returned (.int .i64 (Lib.indexByte s.data.toList c.toNat.toUInt8)) ∧ w = w' := by
  go_enter Tryd.func60, Tryd.ntmps60
  go_wp2
  rw [run_callFunc_extern Tryd.func68 (by kernel_rfl) (by kernel_rfl) (by kernel_rfl) (e := Extern.BytealgIndexByte.indexByte) (by kernel_rfl), Lib.run_indexByteString]
  simp only [Result.andThen]
  rw [Oper.upon_value]
  go_wp2
  go_ret
  exact ⟨rfl, rfl⟩

set_option maxRecDepth 100000 in
theorem strings_IndexByte.calls (a0 : ByteArray) (a1 : Int) (r : Int) (w : World) (h : strings_IndexByte.f a0 a1 = some r) :
    Calls Tryd.prog 54 #[.string a0, .int .u8 a1] w fun e w' => e = .returned (.int .i64 r) ∧ Drawn0 w w' := by
  obtain rfl := Option.some.inj h
  go_enter Tryd.func54, Tryd.ntmps54
  go_wp2_with (go_at_call 60; refine (stringslite_IndexByte_any _ _ _).mono ?_; rintro e w' ⟨rfl, rfl⟩)
  go_ret
  exact ⟨rfl, Drawn0.refl _⟩
end Go.Proofs.YtokojamaigebaaaDoor.GivIdx
