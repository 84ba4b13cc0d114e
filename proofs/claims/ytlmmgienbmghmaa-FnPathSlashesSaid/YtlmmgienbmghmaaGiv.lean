/- Contracts, by hand, of the library's functions that the print does not take: strings.IndexByte: every string and byte, no condition. -/
import Derived.Test.YtlmmgienbmghmaaProg
import Derived.WalkKit
import Derived.WalkSpells
import Derived.KernelRfl
import Derived.Lib.Bytealg
import Derived.Test.YtlmmgienbmghmaaWWords
namespace Go.Proofs.Ytlmmgienbmghmaa.Giv
open Go.RowKit Go.Proofs.YtlmmgienbmghmaaW.PrintWords

/-- What strings.IndexByte answers. -/
def strings_IndexByte.f (a0 : ByteArray) (a1 : Int) : Option Int := some (Lib.indexByte a0.data.toList a1.toNat.toUInt8)

theorem stringslite_IndexByte_any (s : ByteArray) (c : Int) (w : World) :
    Calls Try.prog 17 #[.string s, .int .u8 c] w fun e w' => e = .returned (.int .i64 (Lib.indexByte s.data.toList c.toNat.toUInt8)) ∧ w = w' := by
  go_enter Try.func17, Try.ntmps17
  go_wp2
  rw [run_callFunc_extern Try.func18 (by kernel_rfl) (by kernel_rfl) (by kernel_rfl) (e := Extern.BytealgIndexByte.indexByte) (by kernel_rfl), Lib.run_indexByteString]
  simp only [Result.andThen]
  rw [Oper.upon_value]
  go_wp2
  go_ret
  exact ⟨rfl, rfl⟩

theorem strings_IndexByte.calls (a0 : ByteArray) (a1 : Int) (r : Int) (w : World) (h : strings_IndexByte.f a0 a1 = some r) :
    Calls Try.prog 15 #[.string a0, .int .u8 a1] w fun e w' => e = .returned (.int .i64 r) ∧ Drawn0 w w' := by
  obtain rfl := Option.some.inj h
  go_enter Try.func15, Try.ntmps15
  go_wp2_with (go_at_call 17; refine (stringslite_IndexByte_any _ _ _).mono ?_; rintro e w' ⟨rfl, rfl⟩)
  go_ret
  exact ⟨rfl, Drawn0.refl _⟩
end Go.Proofs.Ytlmmgienbmghmaa.Giv
