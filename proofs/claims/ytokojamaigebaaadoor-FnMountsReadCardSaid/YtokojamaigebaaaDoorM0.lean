-- written by a program of this session (wip/tools/pp.py)
import Derived.Test.YtokojamaigebaaaDoorProg
import Derived.Below
import Derived.Deep.Draws
import Derived.Deep.AppendLies
import Derived.Maps.AppendAt
import Derived.OwnWalk
import Derived.Laws.BytesArg
import Derived.Laws.MakeOwn
import Derived.Laws.OwnMore
import Derived.Deep.OwnRows
import Derived.Tactics
import Derived.Lib.ConvBytes
import Derived.Laws.Slices
import Derived.WalkKit
import Derived.KernelRfl
import Derived.RowKit3
import Derived.Deep.LoopGhost
import Derived.Deep.QuietTactic
import Derived.BigQuiet
import Derived.WideLaws
import Derived.Deep.DeepCutAuto
import Derived.Deep.CutBlock
import Derived.Deep.RegionHeld3
import Derived.Laws.Rows
import Derived.Lib.AppendStr
import Derived.ArgAppend
import Derived.Laws.IdiomCopy
import Derived.OrdersHeld
import Derived.Laws.BitsLemmas
import Derived.RowKit
import Derived.Test.YtokojamaigebaaaDoorSq
import Derived.Test.YtokojamaigebaaaDoorWWords
import Derived.Test.YtokojamaigebaaaDoorWLast
import Derived.Test.YtokojamaigebaaaDoorWTab
import Derived.Test.YtokojamaigebaaaDoorWQPut
import Derived.Test.YtokojamaigebaaaDoorWApart
import Derived.Test.YtokojamaigebaaaDoorWArr
import Derived.Test.YtokojamaigebaaaDoorWZeros
import Derived.Test.YtokojamaigebaaaDoorWFoot
import Derived.Test.YtokojamaigebaaaDoorWKept
import Derived.Test.YtokojamaigebaaaDoorWShare
import Derived.Test.YtokojamaigebaaaDoorWN
import Derived.Test.YtokojamaigebaaaDoorWRepsOne
import Derived.Test.YtokojamaigebaaaDoorWGuard
import Derived.Test.YtokojamaigebaaaDoorWNEv
import Derived.Test.YtokojamaigebaaaDoorWMore
namespace Go.Proofs.YtokojamaigebaaaDoor.M
open Go.RowKit Go.Proofs.YtokojamaigebaaaDoorW.PrintWords Go.Proofs.YtokojamaigebaaaDoorW.PrintLast Go.Proofs.YtokojamaigebaaaDoorW.PrintMore
attribute [local go_sem] max2_int min2_int max_two min_two max_three min_three max_four min_four   -- for this text's walks alone
set_option linter.unusedVariables false
set_option linter.unusedSimpArgs false




theorem info3 : (Tryd.prog.info? 3).map (fun i => (i.zero, i.size, i.bytes)) = some (some (.int .i64 0), 1, 8) := by kernel_rfl
theorem info5 : (Tryd.prog.info? 5).map (fun i => (i.zero, i.size, i.bytes)) = some (some (.int .u8 0), 1, 1) := by kernel_rfl
theorem info9 : (Tryd.prog.info? 9).map (fun i => (i.zero, i.size, i.bytes)) = some (some (.string ⟨#[]⟩), 1, 16) := by kernel_rfl
theorem info23 : (Tryd.prog.info? 23).map (fun i => (i.zero, i.size, i.bytes)) = some (some (.agg #[(.int .i64 0), (.int .i64 0), (.int .i64 0), (.int .i64 0), (.string ⟨#[]⟩), (.string ⟨#[]⟩), (.string ⟨#[]⟩), (.string ⟨#[]⟩), (.string ⟨#[]⟩), (.string ⟨#[]⟩), (.string ⟨#[]⟩)]), 11, 144) := by kernel_rfl
theorem info62 : (Tryd.prog.info? 62).map (fun i => (i.zero, i.size, i.bytes)) = some (some (.agg #[(.int .i64 0), (.int .i64 0), (.int .i64 0), (.int .i64 0), (.string ⟨#[]⟩), (.string ⟨#[]⟩), (.string ⟨#[]⟩), (.string ⟨#[]⟩), (.string ⟨#[]⟩), (.string ⟨#[]⟩), (.string ⟨#[]⟩)]), 11, 144) := by kernel_rfl
-- the values' own types
/-! #### struct type 62 -/
structure S62 where
 f0 : Int
 f1 : Int
 f2 : Int
 f3 : Int
 f4 : ByteArray
 f5 : ByteArray
 f6 : ByteArray
 f7 : ByteArray
 f8 : ByteArray
 f9 : ByteArray
 f10 : ByteArray
def z62 : S62 := ⟨(0 : Int), (0 : Int), (0 : Int), (0 : Int), (⟨#[]⟩ : ByteArray), (⟨#[]⟩ : ByteArray), (⟨#[]⟩ : ByteArray), (⟨#[]⟩ : ByteArray), (⟨#[]⟩ : ByteArray), (⟨#[]⟩ : ByteArray), (⟨#[]⟩ : ByteArray)⟩
def k62 : Kd S62 := Kd.iso (Kd.pair (Kd.int .i64) (Kd.pair (Kd.int .i64) (Kd.pair (Kd.int .i64) (Kd.pair (Kd.int .i64) (Kd.pair Kd.string (Kd.pair Kd.string (Kd.pair Kd.string (Kd.pair Kd.string (Kd.pair Kd.string (Kd.pair Kd.string Kd.string)))))))))) (fun x : S62 => (x.f0, x.f1, x.f2, x.f3, x.f4, x.f5, x.f6, x.f7, x.f8, x.f9, x.f10))
theorem k62_open {w : World} {x : S62} {cs : List Value} (h : k62.K w x cs) : cs = [.int .i64 x.f0, .int .i64 x.f1, .int .i64 x.f2, .int .i64 x.f3, .string x.f4, .string x.f5, .string x.f6, .string x.f7, .string x.f8, .string x.f9, .string x.f10] := by
 obtain ⟨_, _, rfl, rfl, ⟨_, _, rfl, rfl, ⟨_, _, rfl, rfl, ⟨_, _, rfl, rfl, ⟨_, _, rfl, rfl, ⟨_, _, rfl, rfl, ⟨_, _, rfl, rfl, ⟨_, _, rfl, rfl, ⟨_, _, rfl, rfl, ⟨_, _, rfl, rfl, rfl⟩⟩⟩⟩⟩⟩⟩⟩⟩⟩ := h
 exact rfl
theorem k62_mkM (w : World) (base : Nat) (ok : Nat → Prop) (x : S62)  : k62.M w base ok x [.int .i64 x.f0, .int .i64 x.f1, .int .i64 x.f2, .int .i64 x.f3, .string x.f4, .string x.f5, .string x.f6, .string x.f7, .string x.f8, .string x.f9, .string x.f10] := ⟨[.int .i64 x.f0], [.int .i64 x.f1, .int .i64 x.f2, .int .i64 x.f3, .string x.f4, .string x.f5, .string x.f6, .string x.f7, .string x.f8, .string x.f9, .string x.f10], rfl, rfl, ⟨[.int .i64 x.f1], [.int .i64 x.f2, .int .i64 x.f3, .string x.f4, .string x.f5, .string x.f6, .string x.f7, .string x.f8, .string x.f9, .string x.f10], rfl, rfl, ⟨[.int .i64 x.f2], [.int .i64 x.f3, .string x.f4, .string x.f5, .string x.f6, .string x.f7, .string x.f8, .string x.f9, .string x.f10], rfl, rfl, ⟨[.int .i64 x.f3], [.string x.f4, .string x.f5, .string x.f6, .string x.f7, .string x.f8, .string x.f9, .string x.f10], rfl, rfl, ⟨[.string x.f4], [.string x.f5, .string x.f6, .string x.f7, .string x.f8, .string x.f9, .string x.f10], rfl, rfl, ⟨[.string x.f5], [.string x.f6, .string x.f7, .string x.f8, .string x.f9, .string x.f10], rfl, rfl, ⟨[.string x.f6], [.string x.f7, .string x.f8, .string x.f9, .string x.f10], rfl, rfl, ⟨[.string x.f7], [.string x.f8, .string x.f9, .string x.f10], rfl, rfl, ⟨[.string x.f8], [.string x.f9, .string x.f10], rfl, rfl, ⟨[.string x.f9], [.string x.f10], rfl, rfl, rfl⟩⟩⟩⟩⟩⟩⟩⟩⟩⟩
def rd_T62 (xs : List S62) (i : Int) : S62 := xs.getD i.toNat z62
theorem at_T62 {w : World} {A : Option Addr} {n : Nat} {xs : List S62} (h : Kd.C k62 w A n xs) (i : Int) (h0 : 0 ≤ i) (h1 : i < n) : ∃ ad , A = some ad ∧ w.cell? (ad.add (i.toNat * 11)) = some (.int .i64 (rd_T62 xs i).f0) ∧ w.cell? ⟨(ad.add (i.toNat * 11)).block, (ad.add (i.toNat * 11)).off + 1, none⟩ = some (.int .i64 (rd_T62 xs i).f1) ∧ w.cell? ⟨(ad.add (i.toNat * 11)).block, (ad.add (i.toNat * 11)).off + 2, none⟩ = some (.int .i64 (rd_T62 xs i).f2) ∧ w.cell? ⟨(ad.add (i.toNat * 11)).block, (ad.add (i.toNat * 11)).off + 3, none⟩ = some (.int .i64 (rd_T62 xs i).f3) ∧ w.cell? ⟨(ad.add (i.toNat * 11)).block, (ad.add (i.toNat * 11)).off + 4, none⟩ = some (.string (rd_T62 xs i).f4) ∧ w.cell? ⟨(ad.add (i.toNat * 11)).block, (ad.add (i.toNat * 11)).off + 5, none⟩ = some (.string (rd_T62 xs i).f5) ∧ w.cell? ⟨(ad.add (i.toNat * 11)).block, (ad.add (i.toNat * 11)).off + 6, none⟩ = some (.string (rd_T62 xs i).f6) ∧ w.cell? ⟨(ad.add (i.toNat * 11)).block, (ad.add (i.toNat * 11)).off + 7, none⟩ = some (.string (rd_T62 xs i).f7) ∧ w.cell? ⟨(ad.add (i.toNat * 11)).block, (ad.add (i.toNat * 11)).off + 8, none⟩ = some (.string (rd_T62 xs i).f8) ∧ w.cell? ⟨(ad.add (i.toNat * 11)).block, (ad.add (i.toNat * 11)).off + 9, none⟩ = some (.string (rd_T62 xs i).f9) ∧ w.cell? ⟨(ad.add (i.toNat * 11)).block, (ad.add (i.toNat * 11)).off + 10, none⟩ = some (.string (rd_T62 xs i).f10) := by
 obtain ⟨ad, c, e, _, hK, hc0⟩ := Kd.C_get h z62 i h0 h1
 have hc : ∀ j u, c[j]? = some u → w.cell? (ad.add (i.toNat * 11 + j)) = some u := hc0
 obtain rfl := k62_open hK
 exact ⟨ad, e, hc 0 _ rfl, by rw [← add_field _ _ 1 (by omega)]; exact hc 1 _ rfl, by rw [← add_field _ _ 2 (by omega)]; exact hc 2 _ rfl, by rw [← add_field _ _ 3 (by omega)]; exact hc 3 _ rfl, by rw [← add_field _ _ 4 (by omega)]; exact hc 4 _ rfl, by rw [← add_field _ _ 5 (by omega)]; exact hc 5 _ rfl, by rw [← add_field _ _ 6 (by omega)]; exact hc 6 _ rfl, by rw [← add_field _ _ 7 (by omega)]; exact hc 7 _ rfl, by rw [← add_field _ _ 8 (by omega)]; exact hc 8 _ rfl, by rw [← add_field _ _ 9 (by omega)]; exact hc 9 _ rfl, by rw [← add_field _ _ 10 (by omega)]; exact hc 10 _ rfl⟩

/-! #### struct type 23 -/
structure S23 where
 f0 : Int
 f1 : Int
 f2 : Int
 f3 : Int
 f4 : ByteArray
 f5 : ByteArray
 f6 : ByteArray
 f7 : ByteArray
 f8 : ByteArray
 f9 : ByteArray
 f10 : ByteArray
def z23 : S23 := ⟨(0 : Int), (0 : Int), (0 : Int), (0 : Int), (⟨#[]⟩ : ByteArray), (⟨#[]⟩ : ByteArray), (⟨#[]⟩ : ByteArray), (⟨#[]⟩ : ByteArray), (⟨#[]⟩ : ByteArray), (⟨#[]⟩ : ByteArray), (⟨#[]⟩ : ByteArray)⟩
def k23 : Kd S23 := Kd.iso (Kd.pair (Kd.int .i64) (Kd.pair (Kd.int .i64) (Kd.pair (Kd.int .i64) (Kd.pair (Kd.int .i64) (Kd.pair Kd.string (Kd.pair Kd.string (Kd.pair Kd.string (Kd.pair Kd.string (Kd.pair Kd.string (Kd.pair Kd.string Kd.string)))))))))) (fun x : S23 => (x.f0, x.f1, x.f2, x.f3, x.f4, x.f5, x.f6, x.f7, x.f8, x.f9, x.f10))
theorem k23_open {w : World} {x : S23} {cs : List Value} (h : k23.K w x cs) : cs = [.int .i64 x.f0, .int .i64 x.f1, .int .i64 x.f2, .int .i64 x.f3, .string x.f4, .string x.f5, .string x.f6, .string x.f7, .string x.f8, .string x.f9, .string x.f10] := by
 obtain ⟨_, _, rfl, rfl, ⟨_, _, rfl, rfl, ⟨_, _, rfl, rfl, ⟨_, _, rfl, rfl, ⟨_, _, rfl, rfl, ⟨_, _, rfl, rfl, ⟨_, _, rfl, rfl, ⟨_, _, rfl, rfl, ⟨_, _, rfl, rfl, ⟨_, _, rfl, rfl, rfl⟩⟩⟩⟩⟩⟩⟩⟩⟩⟩ := h
 exact rfl
theorem k23_mkM (w : World) (base : Nat) (ok : Nat → Prop) (x : S23)  : k23.M w base ok x [.int .i64 x.f0, .int .i64 x.f1, .int .i64 x.f2, .int .i64 x.f3, .string x.f4, .string x.f5, .string x.f6, .string x.f7, .string x.f8, .string x.f9, .string x.f10] := ⟨[.int .i64 x.f0], [.int .i64 x.f1, .int .i64 x.f2, .int .i64 x.f3, .string x.f4, .string x.f5, .string x.f6, .string x.f7, .string x.f8, .string x.f9, .string x.f10], rfl, rfl, ⟨[.int .i64 x.f1], [.int .i64 x.f2, .int .i64 x.f3, .string x.f4, .string x.f5, .string x.f6, .string x.f7, .string x.f8, .string x.f9, .string x.f10], rfl, rfl, ⟨[.int .i64 x.f2], [.int .i64 x.f3, .string x.f4, .string x.f5, .string x.f6, .string x.f7, .string x.f8, .string x.f9, .string x.f10], rfl, rfl, ⟨[.int .i64 x.f3], [.string x.f4, .string x.f5, .string x.f6, .string x.f7, .string x.f8, .string x.f9, .string x.f10], rfl, rfl, ⟨[.string x.f4], [.string x.f5, .string x.f6, .string x.f7, .string x.f8, .string x.f9, .string x.f10], rfl, rfl, ⟨[.string x.f5], [.string x.f6, .string x.f7, .string x.f8, .string x.f9, .string x.f10], rfl, rfl, ⟨[.string x.f6], [.string x.f7, .string x.f8, .string x.f9, .string x.f10], rfl, rfl, ⟨[.string x.f7], [.string x.f8, .string x.f9, .string x.f10], rfl, rfl, ⟨[.string x.f8], [.string x.f9, .string x.f10], rfl, rfl, ⟨[.string x.f9], [.string x.f10], rfl, rfl, rfl⟩⟩⟩⟩⟩⟩⟩⟩⟩⟩
def rd_T23 (xs : List S23) (i : Int) : S23 := xs.getD i.toNat z23
theorem at_T23 {w : World} {A : Option Addr} {n : Nat} {xs : List S23} (h : Kd.C k23 w A n xs) (i : Int) (h0 : 0 ≤ i) (h1 : i < n) : ∃ ad , A = some ad ∧ w.cell? (ad.add (i.toNat * 11)) = some (.int .i64 (rd_T23 xs i).f0) ∧ w.cell? ⟨(ad.add (i.toNat * 11)).block, (ad.add (i.toNat * 11)).off + 1, none⟩ = some (.int .i64 (rd_T23 xs i).f1) ∧ w.cell? ⟨(ad.add (i.toNat * 11)).block, (ad.add (i.toNat * 11)).off + 2, none⟩ = some (.int .i64 (rd_T23 xs i).f2) ∧ w.cell? ⟨(ad.add (i.toNat * 11)).block, (ad.add (i.toNat * 11)).off + 3, none⟩ = some (.int .i64 (rd_T23 xs i).f3) ∧ w.cell? ⟨(ad.add (i.toNat * 11)).block, (ad.add (i.toNat * 11)).off + 4, none⟩ = some (.string (rd_T23 xs i).f4) ∧ w.cell? ⟨(ad.add (i.toNat * 11)).block, (ad.add (i.toNat * 11)).off + 5, none⟩ = some (.string (rd_T23 xs i).f5) ∧ w.cell? ⟨(ad.add (i.toNat * 11)).block, (ad.add (i.toNat * 11)).off + 6, none⟩ = some (.string (rd_T23 xs i).f6) ∧ w.cell? ⟨(ad.add (i.toNat * 11)).block, (ad.add (i.toNat * 11)).off + 7, none⟩ = some (.string (rd_T23 xs i).f7) ∧ w.cell? ⟨(ad.add (i.toNat * 11)).block, (ad.add (i.toNat * 11)).off + 8, none⟩ = some (.string (rd_T23 xs i).f8) ∧ w.cell? ⟨(ad.add (i.toNat * 11)).block, (ad.add (i.toNat * 11)).off + 9, none⟩ = some (.string (rd_T23 xs i).f9) ∧ w.cell? ⟨(ad.add (i.toNat * 11)).block, (ad.add (i.toNat * 11)).off + 10, none⟩ = some (.string (rd_T23 xs i).f10) := by
 obtain ⟨ad, c, e, _, hK, hc0⟩ := Kd.C_get h z23 i h0 h1
 have hc : ∀ j u, c[j]? = some u → w.cell? (ad.add (i.toNat * 11 + j)) = some u := hc0
 obtain rfl := k23_open hK
 exact ⟨ad, e, hc 0 _ rfl, by rw [← add_field _ _ 1 (by omega)]; exact hc 1 _ rfl, by rw [← add_field _ _ 2 (by omega)]; exact hc 2 _ rfl, by rw [← add_field _ _ 3 (by omega)]; exact hc 3 _ rfl, by rw [← add_field _ _ 4 (by omega)]; exact hc 4 _ rfl, by rw [← add_field _ _ 5 (by omega)]; exact hc 5 _ rfl, by rw [← add_field _ _ 6 (by omega)]; exact hc 6 _ rfl, by rw [← add_field _ _ 7 (by omega)]; exact hc 7 _ rfl, by rw [← add_field _ _ 8 (by omega)]; exact hc 8 _ rfl, by rw [← add_field _ _ 9 (by omega)]; exact hc 9 _ rfl, by rw [← add_field _ _ 10 (by omega)]; exact hc 10 _ rfl⟩

end Go.Proofs.YtokojamaigebaaaDoor.M
