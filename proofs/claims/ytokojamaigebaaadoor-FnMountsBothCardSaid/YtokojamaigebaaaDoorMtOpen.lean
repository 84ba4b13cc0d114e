/- Mounts and filters as arguments: a struct by value, a slice of structs. -/
import Derived.Test.YtokojamaigebaaaDoorMtLoop
import Derived.Deep.Slices
import Derived.Deep.Fields
import Derived.ChangeSame
import Derived.Lib.SmallJoins
import Derived.SliceStrings
import Derived.Carry
set_option linter.unusedVariables false
set_option linter.unusedSimpArgs false
namespace Go.Proofs.YtokojamaigebaaaDoor.MtOpen
open Go.RowKit Go.ChangeShapes Go.WideShapes Go.Deep Go.Joins Go.Proofs.YtokojamaigebaaaDoorW.PrintWords Go.Proofs.YtokojamaigebaaaDoorW.PrintLast Go.Proofs.YtokojamaigebaaaDoorW.PrintMore Go.Proofs.YtokojamaigebaaaDoor.M
section
variable {H : Type} {enc : TypeId × Value → H} {w : World} {base : Nat} {spare : Nat → Bool} {held : Bool}
def mCells (m : S23) : List Value := [.int .i64 m.f0, .int .i64 m.f1, .int .i64 m.f2, .int .i64 m.f3, .string m.f4, .string m.f5, .string m.f6, .string m.f7, .string m.f8, .string m.f9, .string m.f10]
/-- Eleven fields of a cell each: each cell by itself. -/
theorem open_cells11 {P : Program} {t : TypeId} {f0 f1 f2 f3 f4 f5 f6 f7 f8 f9 f10 : Field} {c0 c1 c2 c3 c4 c5 c6 c7 c8 c9 c10 : Value} {fuel : Nat} {x : DataW H × List MemPlace} (hs : P.underlying t = some (.struct #[f0, f1, f2, f3, f4, f5, f6, f7, f8, f9, f10])) (hone : oneCellFields P #[f0, f1, f2, f3, f4, f5, f6, f7, f8, f9, f10] = true)
    (h : DataW.trod enc P w base spare held fuel t [c0, c1, c2, c3, c4, c5, c6, c7, c8, c9, c10] = some x) : ∃ (y0 y1 y2 y3 y4 y5 y6 y7 y8 y9 y10 : DataW H × List MemPlace) (n : Nat), DataW.trod enc P w base spare held n f0.type [c0] = some y0 ∧ DataW.trod enc P w base spare held n f1.type [c1] = some y1 ∧ DataW.trod enc P w base spare held n f2.type [c2] = some y2 ∧ DataW.trod enc P w base spare held n f3.type [c3] = some y3 ∧ DataW.trod enc P w base spare held n f4.type [c4] = some y4 ∧ DataW.trod enc P w base spare held n f5.type [c5] = some y5 ∧ DataW.trod enc P w base spare held n f6.type [c6] = some y6 ∧ DataW.trod enc P w base spare held n f7.type [c7] = some y7 ∧ DataW.trod enc P w base spare held n f8.type [c8] = some y8 ∧ DataW.trod enc P w base spare held n f9.type [c9] = some y9 ∧ DataW.trod enc P w base spare held n f10.type [c10] = some y10 := by
  obtain ⟨ys, n, _, _, _, hyl, hg⟩ := DataW.trod_struct hs h
  match ys, hyl with
  | [y0, y1, y2, y3, y4, y5, y6, y7, y8, y9, y10], _ =>
    obtain ⟨o0, k0⟩ := hone_of hone 0 f0 rfl
    obtain ⟨o1, k1⟩ := hone_of hone 1 f1 rfl
    obtain ⟨o2, k2⟩ := hone_of hone 2 f2 rfl
    obtain ⟨o3, k3⟩ := hone_of hone 3 f3 rfl
    obtain ⟨o4, k4⟩ := hone_of hone 4 f4 rfl
    obtain ⟨o5, k5⟩ := hone_of hone 5 f5 rfl
    obtain ⟨o6, k6⟩ := hone_of hone 6 f6 rfl
    obtain ⟨o7, k7⟩ := hone_of hone 7 f7 rfl
    obtain ⟨o8, k8⟩ := hone_of hone 8 f8 rfl
    obtain ⟨o9, k9⟩ := hone_of hone 9 f9 rfl
    obtain ⟨o10, k10⟩ := hone_of hone 10 f10 rfl
    exact ⟨y0, y1, y2, y3, y4, y5, y6, y7, y8, y9, y10, n, by simpa [o0, k0] using hg 0 f0 rfl, by simpa [o1, k1] using hg 1 f1 rfl, by simpa [o2, k2] using hg 2 f2 rfl, by simpa [o3, k3] using hg 3 f3 rfl, by simpa [o4, k4] using hg 4 f4 rfl, by simpa [o5, k5] using hg 5 f5 rfl, by simpa [o6, k6] using hg 6 f6 rfl, by simpa [o7, k7] using hg 7 f7 rfl, by simpa [o8, k8] using hg 8 f8 rfl, by simpa [o9, k9] using hg 9 f9 rfl, by simpa [o10, k10] using hg 10 f10 rfl⟩
/-- A mount's cells. -/
theorem open_mount {fuel : Nat} {cs : List Value} {x : DataW H × List MemPlace} (hlen : cs.length = 11) (h : DataW.trod enc Tryd.prog w base spare held fuel 23 cs = some x) : ∃ m : S23, cs = mCells m := by
  match cs, hlen, h with
  | [c0, c1, c2, c3, c4, c5, c6, c7, c8, c9, c10], _, h =>
    obtain ⟨y0, y1, y2, y3, y4, y5, y6, y7, y8, y9, y10, n, g0, g1, g2, g3, g4, g5, g6, g7, g8, g9, g10⟩ := open_cells11 Tryd.underlying23 (by kernel_rfl) h
    obtain ⟨n0, e0, _, _⟩ := DataW.trod_int Tryd.underlying3 g0
    obtain ⟨n1, e1, _, _⟩ := DataW.trod_int Tryd.underlying3 g1
    obtain ⟨n2, e2, _, _⟩ := DataW.trod_int Tryd.underlying3 g2
    obtain ⟨n3, e3, _, _⟩ := DataW.trod_int Tryd.underlying3 g3
    obtain ⟨n4, e4, _, _⟩ := DataW.trod_string Tryd.underlying9 g4
    obtain ⟨n5, e5, _, _⟩ := DataW.trod_string Tryd.underlying9 g5
    obtain ⟨n6, e6, _, _⟩ := DataW.trod_string Tryd.underlying9 g6
    obtain ⟨n7, e7, _, _⟩ := DataW.trod_string Tryd.underlying9 g7
    obtain ⟨n8, e8, _, _⟩ := DataW.trod_string Tryd.underlying9 g8
    obtain ⟨n9, e9, _, _⟩ := DataW.trod_string Tryd.underlying9 g9
    obtain ⟨n10, e10, _, _⟩ := DataW.trod_string Tryd.underlying9 g10
    obtain rfl := (List.cons.inj e0).1
    obtain rfl := (List.cons.inj e1).1
    obtain rfl := (List.cons.inj e2).1
    obtain rfl := (List.cons.inj e3).1
    obtain rfl := (List.cons.inj e4).1
    obtain rfl := (List.cons.inj e5).1
    obtain rfl := (List.cons.inj e6).1
    obtain rfl := (List.cons.inj e7).1
    obtain rfl := (List.cons.inj e8).1
    obtain rfl := (List.cons.inj e9).1
    obtain rfl := (List.cons.inj e10).1
    exact ⟨⟨n0, n1, n2, n3, n4, n5, n6, n7, n8, n9, n10⟩, rfl⟩
end
end Go.Proofs.YtokojamaigebaaaDoor.MtOpen
