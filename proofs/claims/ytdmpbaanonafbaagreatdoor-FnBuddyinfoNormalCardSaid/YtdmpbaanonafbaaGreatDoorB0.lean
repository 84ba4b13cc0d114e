-- written by a program of this session (wip/tools/pp.py)
import Derived.Test.YtdmpbaanonafbaaGreatDoorProg
import Derived.Below
import Derived.Deep.Draws
import Derived.Deep.AppendLies
import Derived.Maps.AppendAt
import Derived.OwnWalk
import Derived.Laws.BytesArg
import Derived.Laws.MakeOwn
import Derived.Laws.OwnMore
import Derived.Deep.OwnRows
import Derived.Tactics
import Derived.Lib.ConvBytes
import Derived.Laws.Slices
import Derived.WalkKit
import Derived.KernelRfl
import Derived.RowKit3
import Derived.Deep.LoopGhost
import Derived.Deep.QuietTactic
import Derived.BigQuiet
import Derived.WideLaws
import Derived.Deep.DeepCutAuto
import Derived.Deep.CutBlock
import Derived.Deep.RegionHeld3
import Derived.Laws.Rows
import Derived.Lib.AppendStr
import Derived.ArgAppend
import Derived.Laws.IdiomCopy
import Derived.OrdersHeld
import Derived.Laws.BitsLemmas
import Derived.RowKit
import Derived.Test.YtdmpbaanonafbaaGreatDoorSq
import Derived.Test.YtdmpbaanonafbaaGreatDoorFlt
import Derived.Test.YtdmpbaanonafbaaGreatDoorGivZ
import Derived.Test.YtdmpbaanonafbaaGreatDoorE0
import Derived.Test.YtdmpbaanonafbaaGreatDoorGoesV
import Derived.Test.YtdmpbaanonafbaaGreatDoorGivPW
import Derived.Test.YtdmpbaanonafbaaGreatDoorWWords
import Derived.Test.YtdmpbaanonafbaaGreatDoorWLast
import Derived.Test.YtdmpbaanonafbaaGreatDoorWTab
import Derived.Test.YtdmpbaanonafbaaGreatDoorWApart
import Derived.Test.YtdmpbaanonafbaaGreatDoorWArr
import Derived.Test.YtdmpbaanonafbaaGreatDoorWZeros
import Derived.Test.YtdmpbaanonafbaaGreatDoorWFoot
import Derived.Test.YtdmpbaanonafbaaGreatDoorWKept
import Derived.Test.YtdmpbaanonafbaaGreatDoorWShare
import Derived.Test.YtdmpbaanonafbaaGreatDoorWN
import Derived.Test.YtdmpbaanonafbaaGreatDoorWRepsOne
import Derived.Test.YtdmpbaanonafbaaGreatDoorWGuard
import Derived.Test.YtdmpbaanonafbaaGreatDoorWNEv
import Derived.Test.YtdmpbaanonafbaaGreatDoorWMore
namespace Go.Proofs.YtdmpbaanonafbaaGreatDoor.B
open Go.RowKit Go.Proofs.YtdmpbaanonafbaaGreatDoorW.PrintWords Go.Proofs.YtdmpbaanonafbaaGreatDoorW.PrintLast Go.Proofs.YtdmpbaanonafbaaGreatDoor.Flt Go.Proofs.YtdmpbaanonafbaaGreatDoor.GivZ Go.Proofs.YtdmpbaanonafbaaGreatDoor.E Go.Proofs.YtdmpbaanonafbaaGreatDoor.GivPW Go.Proofs.YtdmpbaanonafbaaGreatDoorW.PrintMore
attribute [local go_sem] max2_int min2_int max_two min_two max_three min_three max_four min_four   -- for this text's walks alone
set_option linter.unusedVariables false
set_option linter.unusedSimpArgs false




theorem info35 : (Tryz.prog.info? 35).map (fun i => (i.zero, i.size, i.bytes)) = some (some (.agg #[(.string ⟨#[]⟩), (.int .i64 0), (.bool false), (.int .i64 0), (.int .u64 0), (.float .f64 0), (.string ⟨#[]⟩), (.slice none 0 0)]), 8, 96) := by kernel_rfl
-- the values' own types
/-! #### struct type 35, nested in itself -/
/-! #### struct type 79 -/
structure S79 where
 f0 : ByteArray
 f1 : ByteArray
 f2 : (List Nat)
def z79 : S79 := ⟨(⟨#[]⟩ : ByteArray), (⟨#[]⟩ : ByteArray), ([] : List Nat)⟩
def k79 : Kd S79 := Kd.iso (Kd.pair Kd.string (Kd.pair Kd.string (Kd.slice 32 Kd.flt))) (fun x : S79 => (x.f0, x.f1, x.f2))
theorem k79_open {w : World} {x : S79} {cs : List Value} (h : k79.K w x cs) : ∃ A2 c2, cs = [.string x.f0, .string x.f1, .slice A2 x.f2.length c2] ∧ x.f2.length ≤ c2 ∧ Kd.flt.C w A2 x.f2.length x.f2 := by
 obtain ⟨_, _, rfl, rfl, ⟨_, _, rfl, rfl, ⟨A2, c2, rfl, l2, g2⟩⟩⟩ := h
 exact ⟨A2, c2, rfl, l2, g2⟩
theorem k79_mkM (w : World) (base : Nat) (ok : Nat → Prop) (x : S79) {v2 : Value} (g2 : Kd.flt.R 32 w base ok v2 x.f2) : k79.M w base ok x [.string x.f0, .string x.f1, v2] := ⟨[.string x.f0], [.string x.f1, v2], rfl, rfl, ⟨[.string x.f1], [v2], rfl, rfl, ⟨v2, rfl, g2⟩⟩⟩
def rd_T79 (xs : List S79) (i : Int) : S79 := xs.getD i.toNat z79
theorem at_T79 {w : World} {A : Option Addr} {n : Nat} {xs : List S79} (h : Kd.C k79 w A n xs) (i : Int) (h0 : 0 ≤ i) (h1 : i < n) : ∃ ad A2 c2, A = some ad ∧ w.cell? (ad.add (i.toNat * 3)) = some (.string (rd_T79 xs i).f0) ∧ w.cell? ⟨(ad.add (i.toNat * 3)).block, (ad.add (i.toNat * 3)).off + 1, none⟩ = some (.string (rd_T79 xs i).f1) ∧ w.cell? ⟨(ad.add (i.toNat * 3)).block, (ad.add (i.toNat * 3)).off + 2, none⟩ = some (.slice A2 (rd_T79 xs i).f2.length c2) ∧ (rd_T79 xs i).f2.length ≤ c2 ∧ Kd.flt.C w A2 (rd_T79 xs i).f2.length (rd_T79 xs i).f2 := by
 obtain ⟨ad, c, e, _, hK, hc0⟩ := Kd.C_get h z79 i h0 h1
 have hc : ∀ j u, c[j]? = some u → w.cell? (ad.add (i.toNat * 3 + j)) = some u := hc0
 obtain ⟨A2, c2, rfl, l2, g2⟩ := k79_open hK
 exact ⟨ad, A2, c2, e, hc 0 _ rfl, by rw [← add_field _ _ 1 (by omega)]; exact hc 1 _ rfl, by rw [← add_field _ _ 2 (by omega)]; exact hc 2 _ rfl, l2, g2⟩

end Go.Proofs.YtdmpbaanonafbaaGreatDoor.B
