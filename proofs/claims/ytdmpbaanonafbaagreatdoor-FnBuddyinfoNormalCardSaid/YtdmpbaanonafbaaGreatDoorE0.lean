-- written by a program of this session (wip/tools/pp.py)
import Derived.Test.YtdmpbaanonafbaaGreatDoorProg
import Derived.Below
import Derived.Deep.Draws
import Derived.Deep.AppendLies
import Derived.Maps.AppendAt
import Derived.OwnWalk
import Derived.Laws.BytesArg
import Derived.Laws.MakeOwn
import Derived.Laws.OwnMore
import Derived.Deep.OwnRows
import Derived.Tactics
import Derived.Lib.ConvBytes
import Derived.Laws.Slices
import Derived.WalkKit
import Derived.KernelRfl
import Derived.RowKit3
import Derived.Deep.LoopGhost
import Derived.Deep.QuietTactic
import Derived.BigQuiet
import Derived.WideLaws
import Derived.Deep.DeepCutAuto
import Derived.Deep.CutBlock
import Derived.Deep.RegionHeld3
import Derived.Laws.Rows
import Derived.Lib.AppendStr
import Derived.ArgAppend
import Derived.Laws.IdiomCopy
import Derived.OrdersHeld
import Derived.Laws.BitsLemmas
import Derived.RowKit
import Derived.Test.YtdmpbaanonafbaaGreatDoorSq
import Derived.Test.YtdmpbaanonafbaaGreatDoorFlt
import Derived.Test.YtdmpbaanonafbaaGreatDoorGivZ
import Derived.Test.YtdmpbaanonafbaaGreatDoorWWords
import Derived.Test.YtdmpbaanonafbaaGreatDoorWLast
import Derived.Test.YtdmpbaanonafbaaGreatDoorWTab
import Derived.Test.YtdmpbaanonafbaaGreatDoorWApart
import Derived.Test.YtdmpbaanonafbaaGreatDoorWArr
import Derived.Test.YtdmpbaanonafbaaGreatDoorWZeros
import Derived.Test.YtdmpbaanonafbaaGreatDoorWFoot
import Derived.Test.YtdmpbaanonafbaaGreatDoorWKept
import Derived.Test.YtdmpbaanonafbaaGreatDoorWShare
import Derived.Test.YtdmpbaanonafbaaGreatDoorWN
import Derived.Test.YtdmpbaanonafbaaGreatDoorWRepsOne
import Derived.Test.YtdmpbaanonafbaaGreatDoorWGuard
import Derived.Test.YtdmpbaanonafbaaGreatDoorWNEv
import Derived.Test.YtdmpbaanonafbaaGreatDoorWMore
namespace Go.Proofs.YtdmpbaanonafbaaGreatDoor.E
open Go.RowKit Go.Proofs.YtdmpbaanonafbaaGreatDoorW.PrintWords Go.Proofs.YtdmpbaanonafbaaGreatDoorW.PrintLast Go.Proofs.YtdmpbaanonafbaaGreatDoor.Flt Go.Proofs.YtdmpbaanonafbaaGreatDoor.GivZ Go.Proofs.YtdmpbaanonafbaaGreatDoorW.PrintMore
attribute [local go_sem] max2_int min2_int max_two min_two max_three min_three max_four min_four   -- for this text's walks alone
set_option linter.unusedVariables false
set_option linter.unusedSimpArgs false




theorem info9 : (Tryz.prog.info? 9).map (fun i => (i.zero, i.size, i.bytes)) = some (some (.string ⟨#[]⟩), 1, 16) := by kernel_rfl
theorem info31 : (Tryz.prog.info? 31).map (fun i => (i.zero, i.size, i.bytes)) = some (some (.int .u64 0), 1, 8) := by kernel_rfl
theorem info35 : (Tryz.prog.info? 35).map (fun i => (i.zero, i.size, i.bytes)) = some (some (.agg #[(.string ⟨#[]⟩), (.int .i64 0), (.bool false), (.int .i64 0), (.int .u64 0), (.float .f64 0), (.string ⟨#[]⟩), (.slice none 0 0)]), 8, 96) := by kernel_rfl
-- the values' own types
/-! #### struct type 35, nested in itself -/
structure S35 where
 f0 : ByteArray
 f1 : Int
 f2 : Bool
 f3 : Int
 f4 : Int
 f5 : Nat
 f6 : ByteArray
 f7 : (List S35)
def z35 : S35 := ⟨(⟨#[]⟩ : ByteArray), (0 : Int), false, (0 : Int), (0 : Int), 0, (⟨#[]⟩ : ByteArray), ([] : List S35)⟩
def F35 (d : Kd S35) : Kd S35 := Kd.iso (Kd.pair Kd.string (Kd.pair (Kd.int .i64) (Kd.pair Kd.bool (Kd.pair (Kd.int .i64) (Kd.pair (Kd.int .u64) (Kd.pair Kd.flt (Kd.pair Kd.string (Kd.slice 35 d)))))))) (fun x : S35 => (x.f0, x.f1, x.f2, x.f3, x.f4, x.f5, x.f6, x.f7))
theorem mono35 : Kd.Mono F35 := Kd.mono_iso _ (Kd.mono_pair (Kd.mono_const _) (Kd.mono_pair (Kd.mono_const _) (Kd.mono_pair (Kd.mono_const _) (Kd.mono_pair (Kd.mono_const _) (Kd.mono_pair (Kd.mono_const _) (Kd.mono_pair (Kd.mono_const _) (Kd.mono_pair (Kd.mono_const _) (Kd.mono_slice 35 Kd.mono_id))))))))
theorem sub35 : Kd.Sub F35 [35] := Kd.sub_iso _ (Kd.sub_pair (Kd.sub_const _ (by decide)) (Kd.sub_pair (Kd.sub_const _ (by decide)) (Kd.sub_pair (Kd.sub_const _ (by decide)) (Kd.sub_pair (Kd.sub_const _ (by decide)) (Kd.sub_pair (Kd.sub_const _ (by decide)) (Kd.sub_pair (Kd.sub_const _ (by decide)) (Kd.sub_pair (Kd.sub_const _ (by decide)) (Kd.sub_slice 35 (by decide) Kd.sub_id))))))))
theorem sz35 : ∀ n, (Kd.upto F35 8 [35] n).sz = 8 := Kd.upto_sz (fun _ => rfl)
def k35 : Kd S35 := Kd.fix F35 8 [35] sz35 (Kd.upto_E sub35)
theorem k35_open {w : World} {x : S35} {cs : List Value} (h : k35.K w x cs) : ∃ A7 c7, cs = [.string x.f0, .int .i64 x.f1, .bool x.f2, .int .i64 x.f3, .int .u64 x.f4, .float .f64 x.f5, .string x.f6, .slice A7 x.f7.length c7] ∧ x.f7.length ≤ c7 ∧ k35.C w A7 x.f7.length x.f7 := by
 obtain ⟨n, h⟩ := h
 cases n with
 | zero => exact h.elim
 | succ n =>
  obtain ⟨_, _, rfl, rfl, ⟨_, _, rfl, rfl, ⟨_, _, rfl, rfl, ⟨_, _, rfl, rfl, ⟨_, _, rfl, rfl, ⟨_, _, rfl, rfl, ⟨_, _, rfl, rfl, ⟨A7, c7, rfl, l7, g7⟩⟩⟩⟩⟩⟩⟩⟩ := h
  exact ⟨A7, c7, rfl, l7, Kd.fix_C g7⟩
theorem k35_mkM (w : World) (base : Nat) (ok : Nat → Prop) (x : S35) {v7 : Value} (g7 : k35.R 35 w base ok v7 x.f7) : k35.M w base ok x [.string x.f0, .int .i64 x.f1, .bool x.f2, .int .i64 x.f3, .int .u64 x.f4, .float .f64 x.f5, .string x.f6, v7] := by
 obtain ⟨n7, q7⟩ := Kd.fix_R_back mono35 g7
 have r7 := Kd.upto_R_le mono35 sz35 (show n7 ≤ n7 by omega) q7
 exact ⟨n7 + 1, ⟨[.string x.f0], [.int .i64 x.f1, .bool x.f2, .int .i64 x.f3, .int .u64 x.f4, .float .f64 x.f5, .string x.f6, v7], rfl, rfl, ⟨[.int .i64 x.f1], [.bool x.f2, .int .i64 x.f3, .int .u64 x.f4, .float .f64 x.f5, .string x.f6, v7], rfl, rfl, ⟨[.bool x.f2], [.int .i64 x.f3, .int .u64 x.f4, .float .f64 x.f5, .string x.f6, v7], rfl, rfl, ⟨[.int .i64 x.f3], [.int .u64 x.f4, .float .f64 x.f5, .string x.f6, v7], rfl, rfl, ⟨[.int .u64 x.f4], [.float .f64 x.f5, .string x.f6, v7], rfl, rfl, ⟨[.float .f64 x.f5], [.string x.f6, v7], rfl, rfl, ⟨[.string x.f6], [v7], rfl, rfl, ⟨v7, rfl, r7⟩⟩⟩⟩⟩⟩⟩⟩⟩
def rd_T35 (xs : List S35) (i : Int) : S35 := xs.getD i.toNat z35
theorem at_T35 {w : World} {A : Option Addr} {n : Nat} {xs : List S35} (h : Kd.C k35 w A n xs) (i : Int) (h0 : 0 ≤ i) (h1 : i < n) : ∃ ad A7 c7, A = some ad ∧ w.cell? (ad.add (i.toNat * 8)) = some (.string (rd_T35 xs i).f0) ∧ w.cell? ⟨(ad.add (i.toNat * 8)).block, (ad.add (i.toNat * 8)).off + 1, none⟩ = some (.int .i64 (rd_T35 xs i).f1) ∧ w.cell? ⟨(ad.add (i.toNat * 8)).block, (ad.add (i.toNat * 8)).off + 2, none⟩ = some (.bool (rd_T35 xs i).f2) ∧ w.cell? ⟨(ad.add (i.toNat * 8)).block, (ad.add (i.toNat * 8)).off + 3, none⟩ = some (.int .i64 (rd_T35 xs i).f3) ∧ w.cell? ⟨(ad.add (i.toNat * 8)).block, (ad.add (i.toNat * 8)).off + 4, none⟩ = some (.int .u64 (rd_T35 xs i).f4) ∧ w.cell? ⟨(ad.add (i.toNat * 8)).block, (ad.add (i.toNat * 8)).off + 5, none⟩ = some (.float .f64 (rd_T35 xs i).f5) ∧ w.cell? ⟨(ad.add (i.toNat * 8)).block, (ad.add (i.toNat * 8)).off + 6, none⟩ = some (.string (rd_T35 xs i).f6) ∧ w.cell? ⟨(ad.add (i.toNat * 8)).block, (ad.add (i.toNat * 8)).off + 7, none⟩ = some (.slice A7 (rd_T35 xs i).f7.length c7) ∧ (rd_T35 xs i).f7.length ≤ c7 ∧ k35.C w A7 (rd_T35 xs i).f7.length (rd_T35 xs i).f7 := by
 obtain ⟨ad, c, e, _, hK, hc0⟩ := Kd.C_get h z35 i h0 h1
 have hc : ∀ j u, c[j]? = some u → w.cell? (ad.add (i.toNat * 8 + j)) = some u := hc0
 obtain ⟨A7, c7, rfl, l7, g7⟩ := k35_open hK
 exact ⟨ad, A7, c7, e, hc 0 _ rfl, by rw [← add_field _ _ 1 (by omega)]; exact hc 1 _ rfl, by rw [← add_field _ _ 2 (by omega)]; exact hc 2 _ rfl, by rw [← add_field _ _ 3 (by omega)]; exact hc 3 _ rfl, by rw [← add_field _ _ 4 (by omega)]; exact hc 4 _ rfl, by rw [← add_field _ _ 5 (by omega)]; exact hc 5 _ rfl, by rw [← add_field _ _ 6 (by omega)]; exact hc 6 _ rfl, by rw [← add_field _ _ 7 (by omega)]; exact hc 7 _ rfl, l7, g7⟩

end Go.Proofs.YtdmpbaanonafbaaGreatDoor.E
