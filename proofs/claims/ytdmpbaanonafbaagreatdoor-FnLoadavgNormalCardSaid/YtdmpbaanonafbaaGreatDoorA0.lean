-- written by a program of this session (wip/tools/pp.py)
import Derived.Test.YtdmpbaanonafbaaGreatDoorProg
import Derived.Below
import Derived.Deep.Draws
import Derived.Deep.AppendLies
import Derived.Maps.AppendAt
import Derived.OwnWalk
import Derived.Laws.BytesArg
import Derived.Laws.MakeOwn
import Derived.Laws.OwnMore
import Derived.Deep.OwnRows
import Derived.Tactics
import Derived.Lib.ConvBytes
import Derived.Laws.Slices
import Derived.WalkKit
import Derived.KernelRfl
import Derived.RowKit3
import Derived.Deep.LoopGhost
import Derived.Deep.QuietTactic
import Derived.BigQuiet
import Derived.WideLaws
import Derived.Deep.DeepCutAuto
import Derived.Deep.CutBlock
import Derived.Deep.RegionHeld3
import Derived.Laws.Rows
import Derived.Lib.AppendStr
import Derived.ArgAppend
import Derived.Laws.IdiomCopy
import Derived.OrdersHeld
import Derived.Laws.BitsLemmas
import Derived.RowKit
import Derived.Test.YtdmpbaanonafbaaGreatDoorSq
import Derived.Test.YtdmpbaanonafbaaGreatDoorFlt
import Derived.Test.YtdmpbaanonafbaaGreatDoorGivZ
import Derived.Test.YtdmpbaanonafbaaGreatDoorE0
import Derived.Test.YtdmpbaanonafbaaGreatDoorL3
import Derived.Test.YtdmpbaanonafbaaGreatDoorV2
import Derived.Test.YtdmpbaanonafbaaGreatDoorDoorLoad
import Derived.Test.YtdmpbaanonafbaaGreatDoorLives
import Derived.Test.YtdmpbaanonafbaaGreatDoorL1
import Derived.Test.YtdmpbaanonafbaaGreatDoorL2
import Derived.Test.YtdmpbaanonafbaaGreatDoorV1
import Derived.Test.YtdmpbaanonafbaaGreatDoorR1
import Derived.Test.YtdmpbaanonafbaaGreatDoorWWords
import Derived.Test.YtdmpbaanonafbaaGreatDoorWLast
import Derived.Test.YtdmpbaanonafbaaGreatDoorWTab
import Derived.Test.YtdmpbaanonafbaaGreatDoorWApart
import Derived.Test.YtdmpbaanonafbaaGreatDoorWArr
import Derived.Test.YtdmpbaanonafbaaGreatDoorWZeros
import Derived.Test.YtdmpbaanonafbaaGreatDoorWFoot
import Derived.Test.YtdmpbaanonafbaaGreatDoorWKept
import Derived.Test.YtdmpbaanonafbaaGreatDoorWShare
import Derived.Test.YtdmpbaanonafbaaGreatDoorWN
import Derived.Test.YtdmpbaanonafbaaGreatDoorWRepsOne
import Derived.Test.YtdmpbaanonafbaaGreatDoorWGuard
import Derived.Test.YtdmpbaanonafbaaGreatDoorWNEv
import Derived.Test.YtdmpbaanonafbaaGreatDoorWMore
namespace Go.Proofs.YtdmpbaanonafbaaGreatDoor.A
open Go.RowKit Go.Proofs.YtdmpbaanonafbaaGreatDoorW.PrintWords Go.Proofs.YtdmpbaanonafbaaGreatDoorW.PrintLast Go.Proofs.YtdmpbaanonafbaaGreatDoor.Flt Go.Proofs.YtdmpbaanonafbaaGreatDoor.GivZ Go.Proofs.YtdmpbaanonafbaaGreatDoor.E Go.Proofs.YtdmpbaanonafbaaGreatDoor.L Go.Proofs.YtdmpbaanonafbaaGreatDoor.V Go.Proofs.YtdmpbaanonafbaaGreatDoor.DoorLoad Go.Proofs.YtdmpbaanonafbaaGreatDoor.Lives Go.Proofs.YtdmpbaanonafbaaGreatDoor.R Go.Proofs.YtdmpbaanonafbaaGreatDoorW.PrintMore
attribute [local go_sem] max2_int min2_int max_two min_two max_three min_three max_four min_four   -- for this text's walks alone
set_option linter.unusedVariables false
set_option linter.unusedSimpArgs false




theorem info9 : (Tryz.prog.info? 9).map (fun i => (i.zero, i.size, i.bytes)) = some (some (.string ⟨#[]⟩), 1, 16) := by kernel_rfl
theorem info31 : (Tryz.prog.info? 31).map (fun i => (i.zero, i.size, i.bytes)) = some (some (.int .u64 0), 1, 8) := by kernel_rfl
-- the values' own types
/-! #### struct type 48 -/
structure S48 where
 f0 : ByteArray
 f1 : (List Int)
 f2 : (List ByteArray)
def z48 : S48 := ⟨(⟨#[]⟩ : ByteArray), ([] : List Int), ([] : List ByteArray)⟩
def k48 : Kd S48 := Kd.iso (Kd.pair Kd.string (Kd.pair (Kd.slice 31 (Kd.int .u64)) (Kd.slice 9 Kd.string))) (fun x : S48 => (x.f0, x.f1, x.f2))
theorem k48_open {w : World} {x : S48} {cs : List Value} (h : k48.K w x cs) : ∃ A1 c1 A2 c2, cs = [.string x.f0, .slice A1 x.f1.length c1, .slice A2 x.f2.length c2] ∧ x.f1.length ≤ c1 ∧ (Kd.int .u64).C w A1 x.f1.length x.f1 ∧ x.f2.length ≤ c2 ∧ Kd.string.C w A2 x.f2.length x.f2 := by
 obtain ⟨_, _, rfl, rfl, ⟨_, _, rfl, ⟨A1, c1, rfl, l1, g1⟩, ⟨A2, c2, rfl, l2, g2⟩⟩⟩ := h
 exact ⟨A1, c1, A2, c2, rfl, l1, g1, l2, g2⟩
theorem k48_mk (w : World) (x : S48) {A1 : Option Addr} {c1 : Nat} (l1 : x.f1.length ≤ c1) (g1 : (Kd.int .u64).C w A1 x.f1.length x.f1) {A2 : Option Addr} {c2 : Nat} (l2 : x.f2.length ≤ c2) (g2 : Kd.string.C w A2 x.f2.length x.f2) : k48.K w x [.string x.f0, .slice A1 x.f1.length c1, .slice A2 x.f2.length c2] := ⟨[.string x.f0], [.slice A1 x.f1.length c1, .slice A2 x.f2.length c2], rfl, rfl, ⟨[.slice A1 x.f1.length c1], [.slice A2 x.f2.length c2], rfl, ⟨A1, c1, rfl, l1, g1⟩, ⟨A2, c2, rfl, l2, g2⟩⟩⟩
theorem k48_mkF (W : World) (ok : Nat → Prop) (x : S48) {A1 : Option Addr} {c1 : Nat} (l1 : x.f1.length ≤ c1) (g1 : Kd.F (Kd.int .u64) W ok A1 x.f1.length x.f1) {A2 : Option Addr} {c2 : Nat} (l2 : x.f2.length ≤ c2) (g2 : Kd.F Kd.string W ok A2 x.f2.length x.f2) : Kd.FK k48 W ok x [.string x.f0, .slice A1 x.f1.length c1, .slice A2 x.f2.length c2] := fun W2 hW => k48_mk W2 x l1 (g1 W2 hW) l2 (g2 W2 hW)
def rd_T48 (xs : List S48) (i : Int) : S48 := xs.getD i.toNat z48
theorem at_T48 {w : World} {A : Option Addr} {n : Nat} {xs : List S48} (h : Kd.C k48 w A n xs) (i : Int) (h0 : 0 ≤ i) (h1 : i < n) : ∃ ad A1 c1 A2 c2, A = some ad ∧ w.cell? (ad.add (i.toNat * 3)) = some (.string (rd_T48 xs i).f0) ∧ w.cell? ⟨(ad.add (i.toNat * 3)).block, (ad.add (i.toNat * 3)).off + 1, none⟩ = some (.slice A1 (rd_T48 xs i).f1.length c1) ∧ w.cell? ⟨(ad.add (i.toNat * 3)).block, (ad.add (i.toNat * 3)).off + 2, none⟩ = some (.slice A2 (rd_T48 xs i).f2.length c2) ∧ (rd_T48 xs i).f1.length ≤ c1 ∧ (Kd.int .u64).C w A1 (rd_T48 xs i).f1.length (rd_T48 xs i).f1 ∧ (rd_T48 xs i).f2.length ≤ c2 ∧ Kd.string.C w A2 (rd_T48 xs i).f2.length (rd_T48 xs i).f2 := by
 obtain ⟨ad, c, e, _, hK, hc0⟩ := Kd.C_get h z48 i h0 h1
 have hc : ∀ j u, c[j]? = some u → w.cell? (ad.add (i.toNat * 3 + j)) = some u := hc0
 obtain ⟨A1, c1, A2, c2, rfl, l1, g1, l2, g2⟩ := k48_open hK
 exact ⟨ad, A1, c1, A2, c2, e, hc 0 _ rfl, by rw [← add_field _ _ 1 (by omega)]; exact hc 1 _ rfl, by rw [← add_field _ _ 2 (by omega)]; exact hc 2 _ rfl, l1, g1, l2, g2⟩

/-! #### struct type 35, nested in itself -/
end Go.Proofs.YtdmpbaanonafbaaGreatDoor.A
