import Derived.Test.YtdmpbaanonafbaaGreatDoorProg
import Derived.Below
import Derived.Deep.Draws
import Derived.Deep.AppendLies
import Derived.Maps.AppendAt
import Derived.OwnWalk
import Derived.Laws.BytesArg
import Derived.Laws.MakeOwn
import Derived.Laws.OwnMore
import Derived.Deep.OwnRows
import Derived.Tactics
import Derived.Lib.ConvBytes
import Derived.Laws.Slices
import Derived.WalkKit
import Derived.KernelRfl
import Derived.RowKit3
import Derived.Deep.LoopGhost
import Derived.Deep.QuietTactic
import Derived.BigQuiet
import Derived.WideLaws
import Derived.Deep.DeepCutAuto
import Derived.Deep.CutBlock
import Derived.Deep.RegionHeld3
import Derived.Laws.Rows
import Derived.Lib.AppendStr
import Derived.ArgAppend
import Derived.Laws.IdiomCopy
import Derived.OrdersHeld
import Derived.Laws.BitsLemmas
import Derived.RowKit
import Derived.Test.YtdmpbaanonafbaaGreatDoorSq
import Derived.Test.YtdmpbaanonafbaaGreatDoorFlt
import Derived.Test.YtdmpbaanonafbaaGreatDoorGivZ
import Derived.Test.YtdmpbaanonafbaaGreatDoorE0
import Derived.Test.YtdmpbaanonafbaaGreatDoorWWords
import Derived.Test.YtdmpbaanonafbaaGreatDoorWLast
import Derived.Test.YtdmpbaanonafbaaGreatDoorWTab
import Derived.Test.YtdmpbaanonafbaaGreatDoorWApart
import Derived.Test.YtdmpbaanonafbaaGreatDoorWArr
import Derived.Test.YtdmpbaanonafbaaGreatDoorWZeros
import Derived.Test.YtdmpbaanonafbaaGreatDoorWFoot
import Derived.Test.YtdmpbaanonafbaaGreatDoorWKept
import Derived.Test.YtdmpbaanonafbaaGreatDoorWShare
import Derived.Test.YtdmpbaanonafbaaGreatDoorWN
import Derived.Test.YtdmpbaanonafbaaGreatDoorWRepsOne
import Derived.Test.YtdmpbaanonafbaaGreatDoorWGuard
import Derived.Test.YtdmpbaanonafbaaGreatDoorWNEv
import Derived.Test.YtdmpbaanonafbaaGreatDoorWMore
-- written by a program of this session (wip/tools/pp.py)
namespace Go.Proofs.YtdmpbaanonafbaaGreatDoor.V
open Go.RowKit Go.Proofs.YtdmpbaanonafbaaGreatDoorW.PrintWords Go.Proofs.YtdmpbaanonafbaaGreatDoorW.PrintLast Go.Proofs.YtdmpbaanonafbaaGreatDoor.Flt Go.Proofs.YtdmpbaanonafbaaGreatDoor.GivZ Go.Proofs.YtdmpbaanonafbaaGreatDoor.E Go.Proofs.YtdmpbaanonafbaaGreatDoorW.PrintMore
attribute [local go_sem] max2_int min2_int max_two min_two max_three min_three max_four min_four   -- for this text's walks alone
set_option linter.unusedVariables false
set_option linter.unusedSimpArgs false




theorem info40 : (Tryz.prog.info? 40).map (fun i => (i.zero, i.size, i.bytes)) = some (some (.agg #[(.string ⟨#[]⟩), (.int .i64 0), (.bool false), (.int .i64 0), (.int .u64 0), (.float .f64 0), (.string ⟨#[]⟩), (.slice none 0 0)]), 8, 96) := by kernel_rfl
-- the values' own types
/-! #### struct type 40, nested in itself -/
structure S40 where
 f0 : ByteArray
 f1 : Int
 f2 : Bool
 f3 : Int
 f4 : Int
 f5 : Nat
 f6 : ByteArray
 f7 : (List S40)
def z40 : S40 := ⟨(⟨#[]⟩ : ByteArray), (0 : Int), false, (0 : Int), (0 : Int), 0, (⟨#[]⟩ : ByteArray), ([] : List S40)⟩
def F40 (d : Kd S40) : Kd S40 := Kd.iso (Kd.pair Kd.string (Kd.pair (Kd.int .i64) (Kd.pair Kd.bool (Kd.pair (Kd.int .i64) (Kd.pair (Kd.int .u64) (Kd.pair Kd.flt (Kd.pair Kd.string (Kd.slice 40 d)))))))) (fun x : S40 => (x.f0, x.f1, x.f2, x.f3, x.f4, x.f5, x.f6, x.f7))
theorem mono40 : Kd.Mono F40 := Kd.mono_iso _ (Kd.mono_pair (Kd.mono_const _) (Kd.mono_pair (Kd.mono_const _) (Kd.mono_pair (Kd.mono_const _) (Kd.mono_pair (Kd.mono_const _) (Kd.mono_pair (Kd.mono_const _) (Kd.mono_pair (Kd.mono_const _) (Kd.mono_pair (Kd.mono_const _) (Kd.mono_slice 40 Kd.mono_id))))))))
theorem sub40 : Kd.Sub F40 [40] := Kd.sub_iso _ (Kd.sub_pair (Kd.sub_const _ (by decide)) (Kd.sub_pair (Kd.sub_const _ (by decide)) (Kd.sub_pair (Kd.sub_const _ (by decide)) (Kd.sub_pair (Kd.sub_const _ (by decide)) (Kd.sub_pair (Kd.sub_const _ (by decide)) (Kd.sub_pair (Kd.sub_const _ (by decide)) (Kd.sub_pair (Kd.sub_const _ (by decide)) (Kd.sub_slice 40 (by decide) Kd.sub_id))))))))
theorem sz40 : ∀ n, (Kd.upto F40 8 [40] n).sz = 8 := Kd.upto_sz (fun _ => rfl)
def k40 : Kd S40 := Kd.fix F40 8 [40] sz40 (Kd.upto_E sub40)
theorem k40_open {w : World} {x : S40} {cs : List Value} (h : k40.K w x cs) : ∃ A7 c7, cs = [.string x.f0, .int .i64 x.f1, .bool x.f2, .int .i64 x.f3, .int .u64 x.f4, .float .f64 x.f5, .string x.f6, .slice A7 x.f7.length c7] ∧ x.f7.length ≤ c7 ∧ k40.C w A7 x.f7.length x.f7 := by
 obtain ⟨n, h⟩ := h
 cases n with
 | zero => exact h.elim
 | succ n =>
  obtain ⟨_, _, rfl, rfl, ⟨_, _, rfl, rfl, ⟨_, _, rfl, rfl, ⟨_, _, rfl, rfl, ⟨_, _, rfl, rfl, ⟨_, _, rfl, rfl, ⟨_, _, rfl, rfl, ⟨A7, c7, rfl, l7, g7⟩⟩⟩⟩⟩⟩⟩⟩ := h
  exact ⟨A7, c7, rfl, l7, Kd.fix_C g7⟩
theorem k40_mkM (w : World) (base : Nat) (ok : Nat → Prop) (x : S40) {v7 : Value} (g7 : k40.R 40 w base ok v7 x.f7) : k40.M w base ok x [.string x.f0, .int .i64 x.f1, .bool x.f2, .int .i64 x.f3, .int .u64 x.f4, .float .f64 x.f5, .string x.f6, v7] := by
 obtain ⟨n7, q7⟩ := Kd.fix_R_back mono40 g7
 have r7 := Kd.upto_R_le mono40 sz40 (show n7 ≤ n7 by omega) q7
 exact ⟨n7 + 1, ⟨[.string x.f0], [.int .i64 x.f1, .bool x.f2, .int .i64 x.f3, .int .u64 x.f4, .float .f64 x.f5, .string x.f6, v7], rfl, rfl, ⟨[.int .i64 x.f1], [.bool x.f2, .int .i64 x.f3, .int .u64 x.f4, .float .f64 x.f5, .string x.f6, v7], rfl, rfl, ⟨[.bool x.f2], [.int .i64 x.f3, .int .u64 x.f4, .float .f64 x.f5, .string x.f6, v7], rfl, rfl, ⟨[.int .i64 x.f3], [.int .u64 x.f4, .float .f64 x.f5, .string x.f6, v7], rfl, rfl, ⟨[.int .u64 x.f4], [.float .f64 x.f5, .string x.f6, v7], rfl, rfl, ⟨[.float .f64 x.f5], [.string x.f6, v7], rfl, rfl, ⟨[.string x.f6], [v7], rfl, rfl, ⟨v7, rfl, r7⟩⟩⟩⟩⟩⟩⟩⟩⟩
def rd_T40 (xs : List S40) (i : Int) : S40 := xs.getD i.toNat z40
theorem at_T40 {w : World} {A : Option Addr} {n : Nat} {xs : List S40} (h : Kd.C k40 w A n xs) (i : Int) (h0 : 0 ≤ i) (h1 : i < n) : ∃ ad A7 c7, A = some ad ∧ w.cell? (ad.add (i.toNat * 8)) = some (.string (rd_T40 xs i).f0) ∧ w.cell? ⟨(ad.add (i.toNat * 8)).block, (ad.add (i.toNat * 8)).off + 1, none⟩ = some (.int .i64 (rd_T40 xs i).f1) ∧ w.cell? ⟨(ad.add (i.toNat * 8)).block, (ad.add (i.toNat * 8)).off + 2, none⟩ = some (.bool (rd_T40 xs i).f2) ∧ w.cell? ⟨(ad.add (i.toNat * 8)).block, (ad.add (i.toNat * 8)).off + 3, none⟩ = some (.int .i64 (rd_T40 xs i).f3) ∧ w.cell? ⟨(ad.add (i.toNat * 8)).block, (ad.add (i.toNat * 8)).off + 4, none⟩ = some (.int .u64 (rd_T40 xs i).f4) ∧ w.cell? ⟨(ad.add (i.toNat * 8)).block, (ad.add (i.toNat * 8)).off + 5, none⟩ = some (.float .f64 (rd_T40 xs i).f5) ∧ w.cell? ⟨(ad.add (i.toNat * 8)).block, (ad.add (i.toNat * 8)).off + 6, none⟩ = some (.string (rd_T40 xs i).f6) ∧ w.cell? ⟨(ad.add (i.toNat * 8)).block, (ad.add (i.toNat * 8)).off + 7, none⟩ = some (.slice A7 (rd_T40 xs i).f7.length c7) ∧ (rd_T40 xs i).f7.length ≤ c7 ∧ k40.C w A7 (rd_T40 xs i).f7.length (rd_T40 xs i).f7 := by
 obtain ⟨ad, c, e, _, hK, hc0⟩ := Kd.C_get h z40 i h0 h1
 have hc : ∀ j u, c[j]? = some u → w.cell? (ad.add (i.toNat * 8 + j)) = some u := hc0
 obtain ⟨A7, c7, rfl, l7, g7⟩ := k40_open hK
 exact ⟨ad, A7, c7, e, hc 0 _ rfl, by rw [← add_field _ _ 1 (by omega)]; exact hc 1 _ rfl, by rw [← add_field _ _ 2 (by omega)]; exact hc 2 _ rfl, by rw [← add_field _ _ 3 (by omega)]; exact hc 3 _ rfl, by rw [← add_field _ _ 4 (by omega)]; exact hc 4 _ rfl, by rw [← add_field _ _ 5 (by omega)]; exact hc 5 _ rfl, by rw [← add_field _ _ 6 (by omega)]; exact hc 6 _ rfl, by rw [← add_field _ _ 7 (by omega)]; exact hc 7 _ rfl, l7, g7⟩

/-! #### struct type 35, nested in itself -/
end Go.Proofs.YtdmpbaanonafbaaGreatDoor.V

-- written by a program of this session (wip/tools/pp.py)
namespace Go.Proofs.YtdmpbaanonafbaaGreatDoor.V
open Go.RowKit Go.Proofs.YtdmpbaanonafbaaGreatDoorW.PrintWords Go.Proofs.YtdmpbaanonafbaaGreatDoorW.PrintLast Go.Proofs.YtdmpbaanonafbaaGreatDoor.Flt Go.Proofs.YtdmpbaanonafbaaGreatDoor.GivZ Go.Proofs.YtdmpbaanonafbaaGreatDoor.E Go.Proofs.YtdmpbaanonafbaaGreatDoorW.PrintMore
attribute [local go_sem] max2_int min2_int max_two min_two max_three min_three max_four min_four   -- for this text's walks alone
set_option linter.unusedVariables false
set_option linter.unusedSimpArgs false

/-! ### spec_SameNode: function 37 -/
mutual
def spec_SameNode.j0 : Nat → Bool → ByteArray → Int → Bool → Int → Int → Nat → ByteArray → List (S40) → ByteArray → Int → Bool → Int → Int → Nat → ByteArray → List (S40) → Option (Bool)
 | 0, _, _, _, _, _, _, _, _, _, _, _, _, _, _, _, _, _ => none
 | k + 1, x63, x102000, x102001, x102002, x102003, x102004, x102005, x102006, x102007, x103000, x103001, x103002, x103003, x103004, x103005, x103006, x103007 => if x63 = true then (some false) else (spec_SameNode.l0 k (x102007.length : Int) 0 x102000 x102001 x102002 x102003 x102004 x102005 x102006 x102007 x103000 x103001 x103002 x103003 x103004 x103005 x103006 x103007)
def spec_SameNode.l0 : Nat → Int → Int → ByteArray → Int → Bool → Int → Int → Nat → ByteArray → List (S40) → ByteArray → Int → Bool → Int → Int → Nat → ByteArray → List (S40) → Option (Bool)
 | 0, _, _, _, _, _, _, _, _, _, _, _, _, _, _, _, _, _, _ => none
 | k + 1, x66, x67, x102000, x102001, x102002, x102003, x102004, x102005, x102006, x102007, x103000, x103001, x103002, x103003, x103004, x103005, x103006, x103007 => if x67 < x66 then (if 0 ≤ x67 then (if x67 < (x102007.length : Int) then (if x67 < (x103007.length : Int) then ((spec_SameNode.f k ((rd_T40 x102007 x67).f0) ((rd_T40 x102007 x67).f1) ((rd_T40 x102007 x67).f2) ((rd_T40 x102007 x67).f3) ((rd_T40 x102007 x67).f4) ((rd_T40 x102007 x67).f5) ((rd_T40 x102007 x67).f6) ((rd_T40 x102007 x67).f7) ((rd_T40 x103007 x67).f0) ((rd_T40 x103007 x67).f1) ((rd_T40 x103007 x67).f2) ((rd_T40 x103007 x67).f3) ((rd_T40 x103007 x67).f4) ((rd_T40 x103007 x67).f5) ((rd_T40 x103007 x67).f6) ((rd_T40 x103007 x67).f7)).bind fun t105 => (if t105 = true then (spec_SameNode.l0 k x66 (wrap64 (x67 + 1)) x102000 x102001 x102002 x102003 x102004 x102005 x102006 x102007 x103000 x103001 x103002 x103003 x103004 x103005 x103006 x103007) else (some false))) else (none)) else (none)) else (none)) else (some true)
def spec_SameNode.f : Nat → ByteArray → Int → Bool → Int → Int → Nat → ByteArray → List (S40) → ByteArray → Int → Bool → Int → Int → Nat → ByteArray → List (S40) → Option (Bool)
 | 0, _, _, _, _, _, _, _, _, _, _, _, _, _, _, _, _ => none
 | k + 1, a0_0, a0_1, a0_2, a0_3, a0_4, a0_5, a0_6, l0_7, a1_0, a1_1, a1_2, a1_3, a1_4, a1_5, a1_6, l1_7 => if a0_0.toList = a1_0.toList then (if a0_1 = a1_1 then (if (a0_2 != a1_2) = true then (spec_SameNode.j0 k true a0_0 a0_1 a0_2 a0_3 a0_4 a0_5 a0_6 l0_7 a1_0 a1_1 a1_2 a1_3 a1_4 a1_5 a1_6 l1_7) else (if a0_3 = a1_3 then (if a0_4 = a1_4 then (if ((a0_5 : Nat) : Int) = ((a1_5 : Nat) : Int) then (if a0_6.toList = a1_6.toList then (spec_SameNode.j0 k ((l0_7.length : Int) != (l1_7.length : Int)) a0_0 a0_1 a0_2 a0_3 a0_4 a0_5 a0_6 l0_7 a1_0 a1_1 a1_2 a1_3 a1_4 a1_5 a1_6 l1_7) else (none)) else (none)) else (none)) else (none))) else (none)) else (none)
end
theorem spec_SameNode.mono_l : ∀ k, (∀ y0 y1 y2 y3 y4 y5 y6 y7 y8 y9 y10 y11 y12 y13 y14 y15, LeO (spec_SameNode.f k y0 y1 y2 y3 y4 y5 y6 y7 y8 y9 y10 y11 y12 y13 y14 y15) (spec_SameNode.f (k + 1) y0 y1 y2 y3 y4 y5 y6 y7 y8 y9 y10 y11 y12 y13 y14 y15)) ∧ (∀ y0 y1 y2 y3 y4 y5 y6 y7 y8 y9 y10 y11 y12 y13 y14 y15 y16, LeO (spec_SameNode.j0 k y0 y1 y2 y3 y4 y5 y6 y7 y8 y9 y10 y11 y12 y13 y14 y15 y16) (spec_SameNode.j0 (k + 1) y0 y1 y2 y3 y4 y5 y6 y7 y8 y9 y10 y11 y12 y13 y14 y15 y16)) ∧ (∀ y0 y1 y2 y3 y4 y5 y6 y7 y8 y9 y10 y11 y12 y13 y14 y15 y16 y17, LeO (spec_SameNode.l0 k y0 y1 y2 y3 y4 y5 y6 y7 y8 y9 y10 y11 y12 y13 y14 y15 y16 y17) (spec_SameNode.l0 (k + 1) y0 y1 y2 y3 y4 y5 y6 y7 y8 y9 y10 y11 y12 y13 y14 y15 y16 y17))
 | 0 => ⟨fun _ _ _ _ _ _ _ _ _ _ _ _ _ _ _ _ r h => by simp [spec_SameNode.f] at h, fun _ _ _ _ _ _ _ _ _ _ _ _ _ _ _ _ _ r h => by simp [spec_SameNode.j0] at h, fun _ _ _ _ _ _ _ _ _ _ _ _ _ _ _ _ _ _ r h => by simp [spec_SameNode.l0] at h⟩
 | k + 1 => by
  obtain ⟨ih0, ih1, ih2⟩ := spec_SameNode.mono_l k
  refine ⟨?_, ?_, ?_⟩
  ·intro y0 y1 y2 y3 y4 y5 y6 y7 y8 y9 y10 y11 y12 y13 y14 y15
   unfold spec_SameNode.f
   repeat' first
   | (with_reducible exact ih0 _ _ _ _ _ _ _ _ _ _ _ _ _ _ _ _)
   | (with_reducible exact ih1 _ _ _ _ _ _ _ _ _ _ _ _ _ _ _ _ _)
   | (with_reducible exact ih2 _ _ _ _ _ _ _ _ _ _ _ _ _ _ _ _ _ _)
   | (with_reducible exact LeO.refl _)
   | (with_reducible exact LeO.none _)
   | (with_reducible refine LeO.ite ?_ ?_)
   | (with_reducible refine LeO.bind ?_ (fun _ => ?_))
   | exact ih0 _ _ _ _ _ _ _ _ _ _ _ _ _ _ _ _
   | exact ih1 _ _ _ _ _ _ _ _ _ _ _ _ _ _ _ _ _
   | exact ih2 _ _ _ _ _ _ _ _ _ _ _ _ _ _ _ _ _ _
   | exact LeO.none _
   | refine LeO.ite ?_ ?_
   | refine LeO.bind ?_ (fun _ => ?_)
  ·intro y0 y1 y2 y3 y4 y5 y6 y7 y8 y9 y10 y11 y12 y13 y14 y15 y16
   unfold spec_SameNode.j0
   repeat' first
   | (with_reducible exact ih0 _ _ _ _ _ _ _ _ _ _ _ _ _ _ _ _)
   | (with_reducible exact ih1 _ _ _ _ _ _ _ _ _ _ _ _ _ _ _ _ _)
   | (with_reducible exact ih2 _ _ _ _ _ _ _ _ _ _ _ _ _ _ _ _ _ _)
   | (with_reducible exact LeO.refl _)
   | (with_reducible exact LeO.none _)
   | (with_reducible refine LeO.ite ?_ ?_)
   | (with_reducible refine LeO.bind ?_ (fun _ => ?_))
   | exact ih0 _ _ _ _ _ _ _ _ _ _ _ _ _ _ _ _
   | exact ih1 _ _ _ _ _ _ _ _ _ _ _ _ _ _ _ _ _
   | exact ih2 _ _ _ _ _ _ _ _ _ _ _ _ _ _ _ _ _ _
   | exact LeO.none _
   | refine LeO.ite ?_ ?_
   | refine LeO.bind ?_ (fun _ => ?_)
  ·intro y0 y1 y2 y3 y4 y5 y6 y7 y8 y9 y10 y11 y12 y13 y14 y15 y16 y17
   unfold spec_SameNode.l0
   repeat' first
   | (with_reducible exact ih0 _ _ _ _ _ _ _ _ _ _ _ _ _ _ _ _)
   | (with_reducible exact ih1 _ _ _ _ _ _ _ _ _ _ _ _ _ _ _ _ _)
   | (with_reducible exact ih2 _ _ _ _ _ _ _ _ _ _ _ _ _ _ _ _ _ _)
   | (with_reducible exact LeO.refl _)
   | (with_reducible exact LeO.none _)
   | (with_reducible refine LeO.ite ?_ ?_)
   | (with_reducible refine LeO.bind ?_ (fun _ => ?_))
   | exact ih0 _ _ _ _ _ _ _ _ _ _ _ _ _ _ _ _
   | exact ih1 _ _ _ _ _ _ _ _ _ _ _ _ _ _ _ _ _
   | exact ih2 _ _ _ _ _ _ _ _ _ _ _ _ _ _ _ _ _ _
   | exact LeO.none _
   | refine LeO.ite ?_ ?_
   | refine LeO.bind ?_ (fun _ => ?_)
theorem spec_SameNode.mono : ∀ a0 a1 a2 a3 a4 a5 a6 a7 a8 a9 a10 a11 a12 a13 a14 a15 k, LeO (spec_SameNode.f k a0 a1 a2 a3 a4 a5 a6 a7 a8 a9 a10 a11 a12 a13 a14 a15) (spec_SameNode.f (k + 1) a0 a1 a2 a3 a4 a5 a6 a7 a8 a9 a10 a11 a12 a13 a14 a15) := by
 intro a0 a1 a2 a3 a4 a5 a6 a7 a8 a9 a10 a11 a12 a13 a14 a15 k
 obtain ⟨ih0, ih1, ih2⟩ := spec_SameNode.mono_l k
 exact ih0 a0 a1 a2 a3 a4 a5 a6 a7 a8 a9 a10 a11 a12 a13 a14 a15
def spec_SameNode.T1 : Bool × List (List Nat × List Nat) := (true, [([], []), ([0], [0]), ([], []), ([2], [2]), ([1, 3], [1, 3]), ([4], [4]), ([5], [5]), ([6, 5], [5, 6]), ([5], [5]), ([8, 5], [5, 8]), ([7, 9, 5], [5, 7, 9]), ([5, 10], [5, 10]), ([11, 5], [11]), ([12], [12]), ([13, 12], [12, 13]), ([12], [12]), ([15, 12], [12, 15]), ([14, 16, 12], [12, 14, 16]), ([12, 17], [12, 17]), ([18, 12], [18]), ([19], [19]), ([20, 19], [19, 20]), ([19], [19]), ([22, 19], [19, 22]), ([21, 23, 19], [19, 21, 23]), ([19, 24], [19, 24]), ([25, 19], [25]), ([26], [26]), ([27, 26], [26, 27]), ([26], [26]), ([29, 26], [26, 29]), ([28, 30, 26], [26, 28, 30]), ([26, 31], [26, 31]), ([32, 26], [32]), ([33], [33]), ([34, 33], [33, 34]), ([35, 33, 33], [33, 35]), ([33], [33]), ([37, 33], [33, 37]), ([38, 36, 33], [33, 38]), ([36, 39, 33], [33, 36, 39]), ([33, 40], [33, 40]), ([41, 39], [41]), ([42], [42]), ([43, 42], [42, 43]), ([42], [42]), ([45, 42], [42, 45]), ([44, 46, 42], [42, 44, 46]), ([42, 47], [42, 47]), ([48, 42], [48]), ([49], [49]), ([50, 49], [49, 50]), ([51, 49], [49, 51]), ([49], [49]), ([53, 49], [49, 53]), ([54, 49], [49, 54]), ([52, 55, 49], [49, 52, 55]), ([49, 56], [49, 56])])
def spec_SameNode.B1 : List Nat := [0, 1, 0, 4, 15, 31, 63, 127, 63, 319, 1023, 2047, 4095, 8191, 16383, 8191, 40959, 131071, 262143, 524287, 1048575, 2097151, 1048575, 5242879, 16777215, 33554431, 67108863, 134217727, 268435455, 134217727, 671088639, 2147483647, 4294967295, 8589934591, 17179869183, 34359738367, 68719476735, 17179869183, 154618822655, 549755813887, 1099511627775, 2199023255551, 4398046511103, 8796093022207, 17592186044415, 8796093022207, 43980465111039, 140737488355327, 281474976710655, 562949953421311, 1125899906842623, 2251799813685247, 4503599627370495, 1125899906842623, 10133099161583615, 28147497671065599, 72057594037927935, 144115188075855871]
theorem spec_SameNode.tab1 : rtab .any (opsOf Tryz.f37 1) = spec_SameNode.T1 := by kernel_rfl
theorem spec_SameNode.bits1 : waitsOk spec_SameNode.T1.2 spec_SameNode.B1 = true := by kernel_rfl
def spec_SameNode.T6 : Bool × List (List Nat × List Nat) := (true, [([], []), ([0], [0]), ([], []), ([1, 2], [1, 2]), ([3], [3]), ([], []), ([5], [5]), ([], []), ([6, 7], [6, 7]), ([8], [8]), ([4, 9], [4, 9]), ([10], [10])])
def spec_SameNode.B6 : List Nat := [0, 1, 0, 7, 15, 0, 32, 0, 224, 480, 1023, 2047]
theorem spec_SameNode.tab6 : rtab .any (opsOf Tryz.f37 6) = spec_SameNode.T6 := by kernel_rfl
theorem spec_SameNode.bits6 : waitsOk spec_SameNode.T6.2 spec_SameNode.B6 = true := by kernel_rfl
set_option maxHeartbeats 8000000 in
set_option maxRecDepth 100000 in
theorem spec_SameNode.calls (k : Nat) : ∀ (a0_0 : ByteArray) (a0_1 : Int) (a0_2 : Bool) (a0_3 : Int) (a0_4 : Int) (a0_5 : Nat) (a0_6 : ByteArray) (A0_7 : Option Addr) (c0_7 : Nat) (l0_7 : List (S40)) (a1_0 : ByteArray) (a1_1 : Int) (a1_2 : Bool) (a1_3 : Int) (a1_4 : Int) (a1_5 : Nat) (a1_6 : ByteArray) (A1_7 : Option Addr) (c1_7 : Nat) (l1_7 : List (S40)) (r : Bool) (w : World) (hr0_7 : Kd.C k40 w A0_7 l0_7.length l0_7) (hc0_7 : l0_7.length ≤ c0_7) (hr1_7 : Kd.C k40 w A1_7 l1_7.length l1_7) (hc1_7 : l1_7.length ≤ c1_7) (h : spec_SameNode.f k a0_0 a0_1 a0_2 a0_3 a0_4 a0_5 a0_6 l0_7 a1_0 a1_1 a1_2 a1_3 a1_4 a1_5 a1_6 l1_7 = some r),
  Calls Tryz.prog 37 #[.agg #[.string a0_0, .int .i64 a0_1, .bool a0_2, .int .i64 a0_3, .int .u64 a0_4, .float .f64 a0_5, .string a0_6, .slice A0_7 l0_7.length c0_7], .agg #[.string a1_0, .int .i64 a1_1, .bool a1_2, .int .i64 a1_3, .int .u64 a1_4, .float .f64 a1_5, .string a1_6, .slice A1_7 l1_7.length c1_7]] w fun e w' => e = .returned (.bool r) ∧ Below w.heap.size w w' := by
 induction k using Nat.strongRecOn with
 | _ k ih =>
 intro a0_0 a0_1 a0_2 a0_3 a0_4 a0_5 a0_6 A0_7 c0_7 l0_7 a1_0 a1_1 a1_2 a1_3 a1_4 a1_5 a1_6 A1_7 c1_7 l1_7 r w hr0_7 hc0_7 hr1_7 hc1_7 h
 cases k with
 | zero => exact absurd h (by simp [spec_SameNode.f])
 | succ k =>
 simp only [spec_SameNode.f] at h
 have hu40 := Tryz.underlying40
 have HR0_7 := Aside0.mk hr0_7
 have HC0_7 := Aside0.mk hc0_7
 clear hr0_7 hc0_7
 have HR1_7 := Aside0.mk hr1_7
 have HC1_7 := Aside0.mk hc1_7
 clear hr1_7 hc1_7
 have HB := Aside0.mk (Below.refl w.heap.size w)
 have H : (if a0_0.toList = a1_0.toList then (if a0_1 = a1_1 then (if (a0_2 != a1_2) = true then (spec_SameNode.j0 k true a0_0 a0_1 a0_2 a0_3 a0_4 a0_5 a0_6 l0_7 a1_0 a1_1 a1_2 a1_3 a1_4 a1_5 a1_6 l1_7) else (if a0_3 = a1_3 then (if a0_4 = a1_4 then (if ((a0_5 : Nat) : Int) = ((a1_5 : Nat) : Int) then (if a0_6.toList = a1_6.toList then (spec_SameNode.j0 k ((l0_7.length : Int) != (l1_7.length : Int)) a0_0 a0_1 a0_2 a0_3 a0_4 a0_5 a0_6 l0_7 a1_0 a1_1 a1_2 a1_3 a1_4 a1_5 a1_6 l1_7) else (none)) else (none)) else (none)) else (none))) else (none)) else (none)) = some r := h
 clear h
 have HC3 := Aside0.mk H
 clear H
 go_enter Tryz.func37, Tryz.ntmps37
 go_upto_region 1 with (first | ((with_reducible refine gate_dst (N := 2) rfl ?_); (try (refine gate_guard (by rfl) ?_; dsimp only)); refine box_event ?hg (N := 2) ?hd (cs := #[.string a0_0, .int .i64 a0_1, .bool a0_2, .int .i64 a0_3, .int .u64 a0_4, .float .f64 a0_5, .string a0_6, .slice A0_7 l0_7.length c0_7]) (t := 40) ?hr ?_; (case hd => rfl); (case hg => rfl); (case hr => first | (go_simp; done) | (go_simp; rfl)); intro gb101 hg w4 hbox hb; have n0_ := Aside0.mk (below_step belH hb); have n1_ := Aside0.mk (hbox); have n2_ := Aside0.mk ((by rw [hg]; exact (below_size belH) : w.heap.size ≤ gb101)); have n3_ := Aside0.mk ((by rw [hg]; exact (below_size belH) : w.heap.size ≤ gb101)); clear HB; have HB := n0_; have BK101 := n1_; have GW101 := n2_; have GE101 := n3_; clear n0_ n1_ n2_ n3_; clear hb hbox hg) | ((with_reducible refine gate_dst (N := 3) rfl ?_); (try (refine gate_guard (by rfl) ?_; dsimp only)); refine box_event ?hg (N := 3) ?hd (cs := #[.string a1_0, .int .i64 a1_1, .bool a1_2, .int .i64 a1_3, .int .u64 a1_4, .float .f64 a1_5, .string a1_6, .slice A1_7 l1_7.length c1_7]) (t := 40) ?hr ?_; (case hd => rfl); (case hg => rfl); (case hr => first | (go_simp; done) | (go_simp; rfl)); intro gb102 hg w5 hbox hb; have n0_ := Aside0.mk (blk_below (g := gb101) (o := .cells #[.string a0_0, .int .i64 a0_1, .bool a0_2, .int .i64 a0_3, .int .u64 a0_4, .float .f64 a0_5, .string a0_6, .slice A0_7 l0_7.length c0_7] 40 (0, 0)) (by refine bY ?_; exact BK101.out) hb); have n1_ := Aside0.mk (below_step belS hb); have n2_ := Aside0.mk (hbox); have n3_ := Aside0.mk ((by rw [hg]; exact (below_size belS) : w.heap.size ≤ gb102)); have n4_ := Aside0.mk ((by rw [hg]; exact (below_size belS) : w.heap.size ≤ gb102)); have n5_ := Aside0.mk ((by rw [hg]; exact Nat.ne_of_lt (blk_lt (g := gb101) (o := .cells #[.string a0_0, .int .i64 a0_1, .bool a0_2, .int .i64 a0_3, .int .u64 a0_4, .float .f64 a0_5, .string a0_6, .slice A0_7 l0_7.length c0_7] 40 (0, 0)) (by refine bY ?_; exact BK101.out)) : gb101 ≠ gb102)); have n6_ := Aside0.mk ((by rw [hg]; exact Nat.ne_of_gt (blk_lt (g := gb101) (o := .cells #[.string a0_0, .int .i64 a0_1, .bool a0_2, .int .i64 a0_3, .int .u64 a0_4, .float .f64 a0_5, .string a0_6, .slice A0_7 l0_7.length c0_7] 40 (0, 0)) (by refine bY ?_; exact BK101.out)) : gb102 ≠ gb101)); clear BK101; clear HB; have BK101 := n0_; have HB := n1_; have BK102 := n2_; have GW102 := n3_; have GE102 := n4_; have NB101_102 := n5_; have NB102_101 := n6_; clear n0_ n1_ n2_ n3_ n4_ n5_ n6_; clear hb hbox hg))
 (try simp only [Act.put, List.setIfInBounds_toArray, List.set_cons_zero, List.set_cons_succ])
 go_cut [63] (fun v63 wc => ∃ (kq : Nat) (x63_2 : Bool), v63 = .bool x63_2 ∧ Aside0 (spec_SameNode.j0 kq x63_2 a0_0 a0_1 a0_2 a0_3 a0_4 a0_5 a0_6 l0_7 a1_0 a1_1 a1_2 a1_3 a1_4 a1_5 a1_6 l1_7 = some r) ∧ Aside0 (kq ≤ k) ∧ Aside0 (wc.heap[gb101]? = some (.cells #[.string a0_0, .int .i64 a0_1, .bool a0_2, .int .i64 a0_3, .int .u64 a0_4, .float .f64 a0_5, .string a0_6, (.slice A0_7 l0_7.length c0_7)] 40 (0, 0))) ∧ Aside0 (wc.heap[gb102]? = some (.cells #[.string a1_0, .int .i64 a1_1, .bool a1_2, .int .i64 a1_3, .int .u64 a1_4, .float .f64 a1_5, .string a1_6, (.slice A1_7 l1_7.length c1_7)] 40 (0, 0))) ∧ Aside0 (Below w.heap.size w wc))
 case first =>
  have H := HC3.out
  clear HC3
  by_cases c6 : a0_0.toList = a1_0.toList
  ·rw [if_pos c6] at H
   have c6b0 : (a0_0.toList == a1_0.toList) = true := beq_iff_eq.mpr c6
   have c6b1 : (a0_0.toList != a1_0.toList) = false := bne_eq_false_iff_eq.mpr c6
   clear c6
   (first | rw [c6b0] | (simp only [i64_w, i32_w]; rw [c6b0]) | skip)
   by_cases c7 : a0_1 = a1_1
   ·rw [if_pos c7] at H
    have c7b0 : (a0_1 == a1_1) = true := beq_iff_eq.mpr c7
    have c7b1 : (a0_1 != a1_1) = false := bne_eq_false_iff_eq.mpr c7
    clear c7
    by_cases c8 : (a0_2 != a1_2) = true
    ·rw [if_pos c8] at H
     have c8b0 : (a0_2 != a1_2) = true := c8
     (try (have c8b1 : decide (a0_2 = a1_2) = false := by simpa using c8))
     (try (have c8b2 : (a0_2 == a1_2) = false := by simpa using c8))
     (try (have c8b3 : ¬ (a0_2 = a1_2) := by simpa using c8))
     clear c8
     have H' := Aside0.mk H
     clear H
     try go_wp2
     have n0_ := Aside0.mk (blk_drew BK101.out)
     have n1_ := Aside0.mk (blk_drew BK102.out)
     have n2_ := Aside0.mk (below_drew1 HB.out)
     clear BK101
     clear BK102
     clear HB
     have BK101 := n0_
     have BK102 := n1_
     have HB := n2_
     clear n0_ n1_ n2_
     refine start_ (n := 58) (S := fun w' => w'.cell? ⟨gb101, 0, none⟩ = some (.string a0_0) ∧ w'.cell? ⟨gb101, 1, none⟩ = some (.int .i64 a0_1) ∧ w'.cell? ⟨gb101, 2, none⟩ = some (.bool a0_2) ∧ w'.cell? ⟨gb101, 3, none⟩ = some (.int .i64 a0_3) ∧ w'.cell? ⟨gb101, 4, none⟩ = some (.int .u64 a0_4) ∧ w'.cell? ⟨gb101, 5, none⟩ = some (.float .f64 a0_5) ∧ w'.cell? ⟨gb101, 6, none⟩ = some (.string a0_6) ∧ w'.cell? ⟨gb101, 7, none⟩ = some (.slice A0_7 l0_7.length c0_7) ∧ w'.cell? ⟨gb102, 0, none⟩ = some (.string a1_0) ∧ w'.cell? ⟨gb102, 1, none⟩ = some (.int .i64 a1_1) ∧ w'.cell? ⟨gb102, 2, none⟩ = some (.bool a1_2) ∧ w'.cell? ⟨gb102, 3, none⟩ = some (.int .i64 a1_3) ∧ w'.cell? ⟨gb102, 4, none⟩ = some (.int .u64 a1_4) ∧ w'.cell? ⟨gb102, 5, none⟩ = some (.float .f64 a1_5) ∧ w'.cell? ⟨gb102, 6, none⟩ = some (.string a1_6) ∧ w'.cell? ⟨gb102, 7, none⟩ = some (.slice A1_7 l1_7.length c1_7)) (ds := []) (tfA 0 58) (by kernel_rfl) rfl rfl ⟨(blk_cell BK101.out 0).trans rfl, (blk_cell BK101.out 1).trans rfl, (blk_cell BK101.out 2).trans rfl, (blk_cell BK101.out 3).trans rfl, (blk_cell BK101.out 4).trans rfl, (blk_cell BK101.out 5).trans rfl, (blk_cell BK101.out 6).trans rfl, (blk_cell BK101.out 7).trans rfl, (blk_cell BK102.out 0).trans rfl, (blk_cell BK102.out 1).trans rfl, (blk_cell BK102.out 2).trans rfl, (blk_cell BK102.out 3).trans rfl, (blk_cell BK102.out 4).trans rfl, (blk_cell BK102.out 5).trans rfl, (blk_cell BK102.out 6).trans rfl, (blk_cell BK102.out 7).trans rfl⟩ (fun hHeld => ?_); refine with_tabW spec_SameNode.tab1 spec_SameNode.bits1 (fun HT_ HW_ => ?_)
     generalize w5.drew = w9 at BK101 BK102 HB hHeld ⊢
     refine pure_ (i := 0) (N := some 6) (v := ?_) (a' := ?_) (tfA 1 57) rfl rfl (any_of HT_.out (by kernel_rfl)) (fun _ _ _ h => h) (Or.inl ⟨by rfl, ?_⟩) ?_ ?_
     rotate_left
     ·intro w'
      go_simp
      with_reducible rfl
     rotate_left
     ·simp only [Act.put, sA, s0, s1, i64_w, i32_w]
      rfl
     refine pure_ (i := 2) (N := some 8) (v := ?_) (a' := ?_) (bnA 58 5) rfl rfl (any_of HT_.out (by kernel_rfl)) (fun _ _ _ h => h) (Or.inl ⟨by rfl, ?_⟩) ?_ ?_
     rotate_left
     ·intro w'
      go_simp
      with_reducible rfl
     rotate_left
     ·simp only [Act.put, sA, s0, s1, i64_w, i32_w]
      rfl
     refine take_ (i := 1) (N := some 7) (v := ?_) (a' := ?_) (tfA 3 55) rfl rfl (take_ofW HT_.out HW_.out (by kernel_rfl)) (fun _ _ _ h => h) (Or.inl ⟨by rfl, ?_⟩) hHeld ?_ ?_
     rotate_left
     ·rintro w' ⟨s0, s1, s2, s3, s4, s5, s6, s7, s8, s9, s10, s11, s12, s13, s14, s15⟩
      go_simp
      with_reducible rfl
     rotate_left
     ·simp only [Act.put, sA, s0, s1, i64_w, i32_w]
      rfl
     refine take_ (i := 3) (N := some 9) (v := ?_) (a' := ?_) (tfA 4 54) rfl rfl (take_ofW HT_.out HW_.out (by kernel_rfl)) (fun _ _ _ h => h) (Or.inl ⟨by rfl, ?_⟩) hHeld ?_ ?_
     rotate_left
     ·rintro w' ⟨s0, s1, s2, s3, s4, s5, s6, s7, s8, s9, s10, s11, s12, s13, s14, s15⟩
      go_simp
      with_reducible rfl
     rotate_left
     ·simp only [Act.put, sA, s0, s1, i64_w, i32_w]
      rfl
     refine pure_ (i := 4) (N := some 10) (v := ?_) (a' := ?_) (tfA 5 53) rfl rfl (any_of HT_.out (by kernel_rfl)) (fun _ _ _ h => h) (Or.inl ⟨by rfl, ?_⟩) ?_ ?_
     rotate_left
     ·intro w'
      go_simp
      with_reducible rfl
     rotate_left
     ·simp only [Act.put, sA, s0, s1, i64_w, i32_w]
      rfl
     refine pure_ (i := 5) (N := some 11) (v := ?_) (a' := ?_) (tfA 6 52) rfl rfl (any_of HT_.out (by kernel_rfl)) (fun _ _ _ h => h) (Or.inl ⟨by rfl, ?_⟩) ?_ ?_
     rotate_left
     ·intro w'
      go_simp
      with_reducible rfl
     rotate_left
     ·simp only [Act.put, sA, s0, s1, i64_w, i32_w]
      rfl
     refine pure_ (i := 6) (N := some 12) (v := ?_) (a' := ?_) (tfA 7 51) rfl rfl (any_of HT_.out (by kernel_rfl)) (fun _ _ _ h => h) (Or.inl ⟨by rfl, ?_⟩) ?_ ?_
     rotate_left
     ·intro w'
      go_simp
      with_reducible rfl
     rotate_left
     ·simp only [Act.put, sA, s0, s1, i64_w, i32_w]
      rfl
     refine pure_ (i := 8) (N := some 14) (v := ?_) (a' := ?_) (bnA 58 383) rfl rfl (any_of HT_.out (by kernel_rfl)) (fun _ _ _ h => h) (Or.inl ⟨by rfl, ?_⟩) ?_ ?_
     rotate_left
     ·intro w'
      go_simp
      with_reducible rfl
     rotate_left
     ·simp only [Act.put, sA, s0, s1, i64_w, i32_w]
      rfl
     refine take_ (i := 7) (N := some 13) (v := ?_) (a' := ?_) (tfA 9 49) rfl rfl (take_ofW HT_.out HW_.out (by kernel_rfl)) (fun _ _ _ h => h) (Or.inl ⟨by rfl, ?_⟩) hHeld ?_ ?_
     rotate_left
     ·rintro w' ⟨s0, s1, s2, s3, s4, s5, s6, s7, s8, s9, s10, s11, s12, s13, s14, s15⟩
      go_simp
      with_reducible rfl
     rotate_left
     ·simp only [Act.put, sA, s0, s1, i64_w, i32_w]
      rfl
     refine take_ (i := 9) (N := some 15) (v := ?_) (a' := ?_) (tfA 10 48) rfl rfl (take_ofW HT_.out HW_.out (by kernel_rfl)) (fun _ _ _ h => h) (Or.inl ⟨by rfl, ?_⟩) hHeld ?_ ?_
     rotate_left
     ·rintro w' ⟨s0, s1, s2, s3, s4, s5, s6, s7, s8, s9, s10, s11, s12, s13, s14, s15⟩
      go_simp
      with_reducible rfl
     rotate_left
     ·simp only [Act.put, sA, s0, s1, i64_w, i32_w]
      rfl
     refine pure_ (i := 10) (N := some 16) (v := ?_) (a' := ?_) (tfA 11 47) rfl rfl (any_of HT_.out (by kernel_rfl)) (fun _ _ _ h => h) (Or.inl ⟨by rfl, ?_⟩) ?_ ?_
     rotate_left
     ·intro w'
      go_simp
      with_reducible rfl
     rotate_left
     ·simp only [Act.put, sA, s0, s1, i64_w, i32_w]
      rfl
     refine pure_ (i := 11) (N := some 17) (v := ?_) (a' := ?_) (tfA 12 46) rfl rfl (any_of HT_.out (by kernel_rfl)) (fun _ _ _ h => h) (Or.inl ⟨by rfl, ?_⟩) ?_ ?_
     rotate_left
     ·intro w'
      go_simp
      with_reducible rfl
     rotate_left
     ·simp only [Act.put, sA, s0, s1, i64_w, i32_w]
      rfl
     refine pure_ (i := 12) (N := some 18) (v := ?_) (a' := ?_) (tfA 13 45) rfl rfl (any_of HT_.out (by kernel_rfl)) (fun _ _ _ h => h) (Or.inl ⟨by rfl, ?_⟩) ?_ ?_
     rotate_left
     ·intro w'
      go_simp
      with_reducible rfl
     rotate_left
     ·simp only [Act.put, sA, s0, s1, i64_w, i32_w]
      rfl
     refine pure_ (i := 13) (N := some 19) (v := ?_) (a' := ?_) (tfA 14 44) rfl rfl (any_of HT_.out (by kernel_rfl)) (fun _ _ _ h => h) (Or.inl ⟨by rfl, ?_⟩) ?_ ?_
     rotate_left
     ·intro w'
      go_simp
      with_reducible rfl
     rotate_left
     ·simp only [Act.put, sA, s0, s1, i64_w, i32_w]
      rfl
     refine pure_ (i := 15) (N := some 21) (v := ?_) (a' := ?_) (bnA 58 49151) rfl rfl (any_of HT_.out (by kernel_rfl)) (fun _ _ _ h => h) (Or.inl ⟨by rfl, ?_⟩) ?_ ?_
     rotate_left
     ·intro w'
      go_simp
      with_reducible rfl
     rotate_left
     ·simp only [Act.put, sA, s0, s1, i64_w, i32_w]
      rfl
     refine take_ (i := 14) (N := some 20) (v := ?_) (a' := ?_) (tfA 16 42) rfl rfl (take_ofW HT_.out HW_.out (by kernel_rfl)) (fun _ _ _ h => h) (Or.inl ⟨by rfl, ?_⟩) hHeld ?_ ?_
     rotate_left
     ·rintro w' ⟨s0, s1, s2, s3, s4, s5, s6, s7, s8, s9, s10, s11, s12, s13, s14, s15⟩
      go_simp
      with_reducible rfl
     rotate_left
     ·simp only [Act.put, sA, s0, s1, i64_w, i32_w]
      rfl
     refine take_ (i := 16) (N := some 22) (v := ?_) (a' := ?_) (tfA 17 41) rfl rfl (take_ofW HT_.out HW_.out (by kernel_rfl)) (fun _ _ _ h => h) (Or.inl ⟨by rfl, ?_⟩) hHeld ?_ ?_
     rotate_left
     ·rintro w' ⟨s0, s1, s2, s3, s4, s5, s6, s7, s8, s9, s10, s11, s12, s13, s14, s15⟩
      go_simp
      with_reducible rfl
     rotate_left
     ·simp only [Act.put, sA, s0, s1, i64_w, i32_w]
      rfl
     refine pure_ (i := 17) (N := some 23) (v := ?_) (a' := ?_) (tfA 18 40) rfl rfl (any_of HT_.out (by kernel_rfl)) (fun _ _ _ h => h) (Or.inl ⟨by rfl, ?_⟩) ?_ ?_
     rotate_left
     ·intro w'
      go_simp
      with_reducible rfl
     rotate_left
     ·simp only [Act.put, sA, s0, s1, i64_w, i32_w]
      rfl
     refine pure_ (i := 18) (N := some 24) (v := ?_) (a' := ?_) (tfA 19 39) rfl rfl (any_of HT_.out (by kernel_rfl)) (fun _ _ _ h => h) (Or.inl ⟨by rfl, ?_⟩) ?_ ?_
     rotate_left
     ·intro w'
      go_simp
      with_reducible rfl
     rotate_left
     ·simp only [Act.put, sA, s0, s1, i64_w, i32_w]
      rfl
     refine pure_ (i := 19) (N := some 25) (v := ?_) (a' := ?_) (tfA 20 38) rfl rfl (any_of HT_.out (by kernel_rfl)) (fun _ _ _ h => h) (Or.inl ⟨by rfl, ?_⟩) ?_ ?_
     rotate_left
     ·intro w'
      go_simp
      with_reducible rfl
     rotate_left
     ·simp only [Act.put, sA, s0, s1, i64_w, i32_w]
      rfl
     refine pure_ (i := 20) (N := some 26) (v := undef) (a' := ?_) (tfA 21 37) rfl rfl (any_of HT_.out (by kernel_rfl)) (fun _ _ _ h => h) (Or.inr ⟨by rfl, rfl⟩) ?_ ?_
     rotate_left
     ·simp only [Act.put, sA, s0, s1, i64_w, i32_w]
      rfl
     refine pure_ (i := 21) (N := some 27) (v := undef) (a' := ?_) (tfA 22 36) rfl rfl (any_of HT_.out (by kernel_rfl)) (fun _ _ _ h => h) (Or.inr ⟨by rfl, rfl⟩) ?_ ?_
     rotate_left
     ·simp only [Act.put, sA, s0, s1, i64_w, i32_w]
      rfl
     refine pure_ (i := 22) (N := some 28) (v := undef) (a' := ?_) (tfA 23 35) rfl rfl (any_of HT_.out (by kernel_rfl)) (fun _ _ _ h => h) (Or.inr ⟨by rfl, rfl⟩) ?_ ?_
     rotate_left
     ·simp only [Act.put, sA, s0, s1, i64_w, i32_w]
      rfl
     refine pure_ (i := 23) (N := some 29) (v := undef) (a' := ?_) (tfA 24 34) rfl rfl (any_of HT_.out (by kernel_rfl)) (fun _ _ _ h => h) (Or.inr ⟨by rfl, rfl⟩) ?_ ?_
     rotate_left
     ·simp only [Act.put, sA, s0, s1, i64_w, i32_w]
      rfl
     refine pure_ (i := 24) (N := some 30) (v := undef) (a' := ?_) (tfA 25 33) rfl rfl (any_of HT_.out (by kernel_rfl)) (fun _ _ _ h => h) (Or.inr ⟨by rfl, rfl⟩) ?_ ?_
     rotate_left
     ·simp only [Act.put, sA, s0, s1, i64_w, i32_w]
      rfl
     refine pure_ (i := 25) (N := some 31) (v := ?_) (a' := ?_) (tfA 26 32) rfl rfl (any_of HT_.out (by kernel_rfl)) (fun _ _ _ h => h) (Or.inl ⟨by rfl, ?_⟩) ?_ ?_
     rotate_left
     ·intro w'
      go_simp
      with_reducible rfl
     rotate_left
     ·simp only [Act.put, sA, s0, s1, i64_w, i32_w]
      rfl
     refine pure_ (i := 26) (N := some 32) (v := ?_) (a' := ?_) (tfA 27 31) rfl rfl (any_of HT_.out (by kernel_rfl)) (fun _ _ _ h => h) (Or.inl ⟨by rfl, ?_⟩) ?_ ?_
     rotate_left
     ·intro w'
      go_simp
      with_reducible rfl
     rotate_left
     ·simp only [Act.put, sA, s0, s1, i64_w, i32_w]
      rfl
     refine pure_ (i := 27) (N := some 33) (v := undef) (a' := ?_) (tfA 28 30) rfl rfl (any_of HT_.out (by kernel_rfl)) (fun _ _ _ h => h) (Or.inr ⟨by rfl, rfl⟩) ?_ ?_
     rotate_left
     ·simp only [Act.put, sA, s0, s1, i64_w, i32_w]
      rfl
     refine pure_ (i := 28) (N := some 34) (v := undef) (a' := ?_) (tfA 29 29) rfl rfl (any_of HT_.out (by kernel_rfl)) (fun _ _ _ h => h) (Or.inr ⟨by rfl, rfl⟩) ?_ ?_
     rotate_left
     ·simp only [Act.put, sA, s0, s1, i64_w, i32_w]
      rfl
     refine pure_ (i := 29) (N := some 35) (v := undef) (a' := ?_) (tfA 30 28) rfl rfl (any_of HT_.out (by kernel_rfl)) (fun _ _ _ h => h) (Or.inr ⟨by rfl, rfl⟩) ?_ ?_
     rotate_left
     ·simp only [Act.put, sA, s0, s1, i64_w, i32_w]
      rfl
     refine pure_ (i := 30) (N := some 36) (v := undef) (a' := ?_) (tfA 31 27) rfl rfl (any_of HT_.out (by kernel_rfl)) (fun _ _ _ h => h) (Or.inr ⟨by rfl, rfl⟩) ?_ ?_
     rotate_left
     ·simp only [Act.put, sA, s0, s1, i64_w, i32_w]
      rfl
     refine pure_ (i := 31) (N := some 37) (v := undef) (a' := ?_) (tfA 32 26) rfl rfl (any_of HT_.out (by kernel_rfl)) (fun _ _ _ h => h) (Or.inr ⟨by rfl, rfl⟩) ?_ ?_
     rotate_left
     ·simp only [Act.put, sA, s0, s1, i64_w, i32_w]
      rfl
     refine pure_ (i := 32) (N := some 38) (v := ?_) (a' := ?_) (tfA 33 25) rfl rfl (any_of HT_.out (by kernel_rfl)) (fun _ _ _ h => h) (Or.inl ⟨by rfl, ?_⟩) ?_ ?_
     rotate_left
     ·intro w'
      go_simp
      with_reducible rfl
     rotate_left
     ·simp only [Act.put, sA, s0, s1, i64_w, i32_w]
      rfl
     refine pure_ (i := 33) (N := some 39) (v := ?_) (a' := ?_) (tfA 34 24) rfl rfl (any_of HT_.out (by kernel_rfl)) (fun _ _ _ h => h) (Or.inl ⟨by rfl, ?_⟩) ?_ ?_
     rotate_left
     ·intro w'
      go_simp
      with_reducible rfl
     rotate_left
     ·simp only [Act.put, sA, s0, s1, i64_w, i32_w]
      rfl
     refine pure_ (i := 34) (N := some 40) (v := undef) (a' := ?_) (tfA 35 23) rfl rfl (any_of HT_.out (by kernel_rfl)) (fun _ _ _ h => h) (Or.inr ⟨by rfl, rfl⟩) ?_ ?_
     rotate_left
     ·simp only [Act.put, sA, s0, s1, i64_w, i32_w]
      rfl
     refine pure_ (i := 35) (N := some 41) (v := undef) (a' := ?_) (tfA 36 22) rfl rfl (any_of HT_.out (by kernel_rfl)) (fun _ _ _ h => h) (Or.inr ⟨by rfl, rfl⟩) ?_ ?_
     rotate_left
     ·simp only [Act.put, sA, s0, s1, i64_w, i32_w]
      rfl
     refine pure_ (i := 36) (N := some 42) (v := undef) (a' := ?_) (tfA 37 21) rfl rfl (any_of HT_.out (by kernel_rfl)) (fun _ _ _ h => h) (Or.inr ⟨by rfl, rfl⟩) ?_ ?_
     rotate_left
     ·simp only [Act.put, sA, s0, s1, i64_w, i32_w]
      rfl
     refine pure_ (i := 37) (N := some 43) (v := undef) (a' := ?_) (tfA 38 20) rfl rfl (any_of HT_.out (by kernel_rfl)) (fun _ _ _ h => h) (Or.inr ⟨by rfl, rfl⟩) ?_ ?_
     rotate_left
     ·simp only [Act.put, sA, s0, s1, i64_w, i32_w]
      rfl
     refine pure_ (i := 38) (N := some 44) (v := undef) (a' := ?_) (tfA 39 19) rfl rfl (any_of HT_.out (by kernel_rfl)) (fun _ _ _ h => h) (Or.inr ⟨by rfl, rfl⟩) ?_ ?_
     rotate_left
     ·simp only [Act.put, sA, s0, s1, i64_w, i32_w]
      rfl
     refine pure_ (i := 39) (N := some 45) (v := undef) (a' := ?_) (tfA 40 18) rfl rfl (any_of HT_.out (by kernel_rfl)) (fun _ _ _ h => h) (Or.inr ⟨by rfl, rfl⟩) ?_ ?_
     rotate_left
     ·simp only [Act.put, sA, s0, s1, i64_w, i32_w]
      rfl
     refine pure_ (i := 40) (N := some 46) (v := undef) (a' := ?_) (tfA 41 17) rfl rfl (any_of HT_.out (by kernel_rfl)) (fun _ _ _ h => h) (Or.inr ⟨by rfl, rfl⟩) ?_ ?_
     rotate_left
     ·simp only [Act.put, sA, s0, s1, i64_w, i32_w]
      rfl
     refine pure_ (i := 41) (N := some 47) (v := ?_) (a' := ?_) (tfA 42 16) rfl rfl (any_of HT_.out (by kernel_rfl)) (fun _ _ _ h => h) (Or.inl ⟨by rfl, ?_⟩) ?_ ?_
     rotate_left
     ·intro w'
      go_simp
      with_reducible rfl
     rotate_left
     ·simp only [Act.put, sA, s0, s1, i64_w, i32_w]
      rfl
     refine pure_ (i := 42) (N := some 48) (v := ?_) (a' := ?_) (tfA 43 15) rfl rfl (any_of HT_.out (by kernel_rfl)) (fun _ _ _ h => h) (Or.inl ⟨by rfl, ?_⟩) ?_ ?_
     rotate_left
     ·intro w'
      go_simp
      with_reducible rfl
     rotate_left
     ·simp only [Act.put, sA, s0, s1, i64_w, i32_w]
      rfl
     refine pure_ (i := 43) (N := some 49) (v := undef) (a' := ?_) (tfA 44 14) rfl rfl (any_of HT_.out (by kernel_rfl)) (fun _ _ _ h => h) (Or.inr ⟨by rfl, rfl⟩) ?_ ?_
     rotate_left
     ·simp only [Act.put, sA, s0, s1, i64_w, i32_w]
      rfl
     refine pure_ (i := 44) (N := some 50) (v := undef) (a' := ?_) (tfA 45 13) rfl rfl (any_of HT_.out (by kernel_rfl)) (fun _ _ _ h => h) (Or.inr ⟨by rfl, rfl⟩) ?_ ?_
     rotate_left
     ·simp only [Act.put, sA, s0, s1, i64_w, i32_w]
      rfl
     refine pure_ (i := 45) (N := some 51) (v := undef) (a' := ?_) (tfA 46 12) rfl rfl (any_of HT_.out (by kernel_rfl)) (fun _ _ _ h => h) (Or.inr ⟨by rfl, rfl⟩) ?_ ?_
     rotate_left
     ·simp only [Act.put, sA, s0, s1, i64_w, i32_w]
      rfl
     refine pure_ (i := 46) (N := some 52) (v := undef) (a' := ?_) (tfA 47 11) rfl rfl (any_of HT_.out (by kernel_rfl)) (fun _ _ _ h => h) (Or.inr ⟨by rfl, rfl⟩) ?_ ?_
     rotate_left
     ·simp only [Act.put, sA, s0, s1, i64_w, i32_w]
      rfl
     refine pure_ (i := 47) (N := some 53) (v := undef) (a' := ?_) (tfA 48 10) rfl rfl (any_of HT_.out (by kernel_rfl)) (fun _ _ _ h => h) (Or.inr ⟨by rfl, rfl⟩) ?_ ?_
     rotate_left
     ·simp only [Act.put, sA, s0, s1, i64_w, i32_w]
      rfl
     refine pure_ (i := 48) (N := some 54) (v := ?_) (a' := ?_) (tfA 49 9) rfl rfl (any_of HT_.out (by kernel_rfl)) (fun _ _ _ h => h) (Or.inl ⟨by rfl, ?_⟩) ?_ ?_
     rotate_left
     ·intro w'
      go_simp
      with_reducible rfl
     rotate_left
     ·simp only [Act.put, sA, s0, s1, i64_w, i32_w]
      rfl
     refine pure_ (i := 49) (N := some 55) (v := ?_) (a' := ?_) (tfA 50 8) rfl rfl (any_of HT_.out (by kernel_rfl)) (fun _ _ _ h => h) (Or.inl ⟨by rfl, ?_⟩) ?_ ?_
     rotate_left
     ·intro w'
      go_simp
      with_reducible rfl
     rotate_left
     ·simp only [Act.put, sA, s0, s1, i64_w, i32_w]
      rfl
     refine pure_ (i := 50) (N := some 56) (v := undef) (a' := ?_) (tfA 51 7) rfl rfl (any_of HT_.out (by kernel_rfl)) (fun _ _ _ h => h) (Or.inr ⟨by rfl, rfl⟩) ?_ ?_
     rotate_left
     ·simp only [Act.put, sA, s0, s1, i64_w, i32_w]
      rfl
     refine pure_ (i := 51) (N := some 57) (v := undef) (a' := ?_) (tfA 52 6) rfl rfl (any_of HT_.out (by kernel_rfl)) (fun _ _ _ h => h) (Or.inr ⟨by rfl, rfl⟩) ?_ ?_
     rotate_left
     ·simp only [Act.put, sA, s0, s1, i64_w, i32_w]
      rfl
     refine pure_ (i := 52) (N := some 58) (v := undef) (a' := ?_) (tfA 53 5) rfl rfl (any_of HT_.out (by kernel_rfl)) (fun _ _ _ h => h) (Or.inr ⟨by rfl, rfl⟩) ?_ ?_
     rotate_left
     ·simp only [Act.put, sA, s0, s1, i64_w, i32_w]
      rfl
     refine pure_ (i := 53) (N := some 59) (v := undef) (a' := ?_) (tfA 54 4) rfl rfl (any_of HT_.out (by kernel_rfl)) (fun _ _ _ h => h) (Or.inr ⟨by rfl, rfl⟩) ?_ ?_
     rotate_left
     ·simp only [Act.put, sA, s0, s1, i64_w, i32_w]
      rfl
     refine pure_ (i := 54) (N := some 60) (v := undef) (a' := ?_) (tfA 55 3) rfl rfl (any_of HT_.out (by kernel_rfl)) (fun _ _ _ h => h) (Or.inr ⟨by rfl, rfl⟩) ?_ ?_
     rotate_left
     ·simp only [Act.put, sA, s0, s1, i64_w, i32_w]
      rfl
     refine pure_ (i := 55) (N := some 61) (v := undef) (a' := ?_) (tfA 56 2) rfl rfl (any_of HT_.out (by kernel_rfl)) (fun _ _ _ h => h) (Or.inr ⟨by rfl, rfl⟩) ?_ ?_
     rotate_left
     ·simp only [Act.put, sA, s0, s1, i64_w, i32_w]
      rfl
     refine pure_ (i := 56) (N := some 62) (v := undef) (a' := ?_) (tfA 57 1) rfl rfl (any_of HT_.out (by kernel_rfl)) (fun _ _ _ h => h) (Or.inr ⟨by rfl, rfl⟩) ?_ ?_
     rotate_left
     ·simp only [Act.put, sA, s0, s1, i64_w, i32_w]
      rfl
     refine pure_ (i := 57) (N := some 63) (v := ?_) (a' := ?_) (tfA 58 0) rfl rfl (any_of HT_.out (by kernel_rfl)) (fun _ _ _ h => h) (Or.inl ⟨by rfl, ?_⟩) ?_ ?_
     rotate_left
     ·intro w'
      go_simp
      with_reducible rfl
     rotate_left
     ·simp only [Act.put, sA, s0, s1, i64_w, i32_w]
      rfl
     refine done_ (done_of HT_.out (by kernel_rfl)) ?_
     try go_wp2
     go_meet
     case rel => exact ⟨_, (true), (by first | rfl | (simp; done) | (simp [*]; done) | (simp [bne_nil]; done) | (simp [bne_nil, *]; done)), H', ⟨by first | omega | exact Nat.le_refl _⟩, ⟨by refine bY ?_; exact BK101.out⟩, ⟨by refine bY ?_; exact BK102.out⟩, ⟨by repeat (first | (with_reducible first | exact HB.out | apply below_alloc | apply pw_below_drewN | apply below_drew1 | refine below_set ?_ GE101.out | refine below_set ?_ GE102.out) | exact HB.out)⟩⟩
    ·rw [if_neg c8] at H
     have c8b0 : (a0_2 != a1_2) = false := by simpa using c8
     (try (have c8b1 : decide (a0_2 = a1_2) = true := by simpa using c8))
     (try (have c8b2 : (a0_2 == a1_2) = true := by simpa using c8))
     clear c8
     by_cases c10 : a0_3 = a1_3
     ·rw [if_pos c10] at H
      have c10b0 : (a0_3 == a1_3) = true := beq_iff_eq.mpr c10
      have c10b1 : (a0_3 != a1_3) = false := bne_eq_false_iff_eq.mpr c10
      clear c10
      by_cases c11 : a0_4 = a1_4
      ·rw [if_pos c11] at H
       have c11b0 : (a0_4 == a1_4) = true := beq_iff_eq.mpr c11
       have c11b1 : (a0_4 != a1_4) = false := bne_eq_false_iff_eq.mpr c11
       clear c11
       by_cases c12 : ((a0_5 : Nat) : Int) = ((a1_5 : Nat) : Int)
       ·rw [if_pos c12] at H
        have c12b0 : (((a0_5 : Nat) : Int) == ((a1_5 : Nat) : Int)) = true := beq_iff_eq.mpr c12
        have c12b1 : (((a0_5 : Nat) : Int) != ((a1_5 : Nat) : Int)) = false := bne_eq_false_iff_eq.mpr c12
        clear c12
        by_cases c13 : a0_6.toList = a1_6.toList
        ·rw [if_pos c13] at H
         have c13b0 : (a0_6.toList == a1_6.toList) = true := beq_iff_eq.mpr c13
         have c13b1 : (a0_6.toList != a1_6.toList) = false := bne_eq_false_iff_eq.mpr c13
         clear c13
         have H' := Aside0.mk H
         clear H
         try go_wp2
         have n0_ := Aside0.mk (blk_drew BK101.out)
         have n1_ := Aside0.mk (blk_drew BK102.out)
         have n2_ := Aside0.mk (below_drew1 HB.out)
         clear BK101
         clear BK102
         clear HB
         have BK101 := n0_
         have BK102 := n1_
         have HB := n2_
         clear n0_ n1_ n2_
         refine start_ (n := 58) (S := fun w' => w'.cell? ⟨gb101, 0, none⟩ = some (.string a0_0) ∧ w'.cell? ⟨gb101, 1, none⟩ = some (.int .i64 a0_1) ∧ w'.cell? ⟨gb101, 2, none⟩ = some (.bool a0_2) ∧ w'.cell? ⟨gb101, 3, none⟩ = some (.int .i64 a0_3) ∧ w'.cell? ⟨gb101, 4, none⟩ = some (.int .u64 a0_4) ∧ w'.cell? ⟨gb101, 5, none⟩ = some (.float .f64 a0_5) ∧ w'.cell? ⟨gb101, 6, none⟩ = some (.string a0_6) ∧ w'.cell? ⟨gb101, 7, none⟩ = some (.slice A0_7 l0_7.length c0_7) ∧ w'.cell? ⟨gb102, 0, none⟩ = some (.string a1_0) ∧ w'.cell? ⟨gb102, 1, none⟩ = some (.int .i64 a1_1) ∧ w'.cell? ⟨gb102, 2, none⟩ = some (.bool a1_2) ∧ w'.cell? ⟨gb102, 3, none⟩ = some (.int .i64 a1_3) ∧ w'.cell? ⟨gb102, 4, none⟩ = some (.int .u64 a1_4) ∧ w'.cell? ⟨gb102, 5, none⟩ = some (.float .f64 a1_5) ∧ w'.cell? ⟨gb102, 6, none⟩ = some (.string a1_6) ∧ w'.cell? ⟨gb102, 7, none⟩ = some (.slice A1_7 l1_7.length c1_7)) (ds := []) (tfA 0 58) (by kernel_rfl) rfl rfl ⟨(blk_cell BK101.out 0).trans rfl, (blk_cell BK101.out 1).trans rfl, (blk_cell BK101.out 2).trans rfl, (blk_cell BK101.out 3).trans rfl, (blk_cell BK101.out 4).trans rfl, (blk_cell BK101.out 5).trans rfl, (blk_cell BK101.out 6).trans rfl, (blk_cell BK101.out 7).trans rfl, (blk_cell BK102.out 0).trans rfl, (blk_cell BK102.out 1).trans rfl, (blk_cell BK102.out 2).trans rfl, (blk_cell BK102.out 3).trans rfl, (blk_cell BK102.out 4).trans rfl, (blk_cell BK102.out 5).trans rfl, (blk_cell BK102.out 6).trans rfl, (blk_cell BK102.out 7).trans rfl⟩ (fun hHeld => ?_); refine with_tabW spec_SameNode.tab1 spec_SameNode.bits1 (fun HT_ HW_ => ?_)
         generalize w5.drew = w14 at BK101 BK102 HB hHeld ⊢
         refine pure_ (i := 0) (N := some 6) (v := ?_) (a' := ?_) (tfA 1 57) rfl rfl (any_of HT_.out (by kernel_rfl)) (fun _ _ _ h => h) (Or.inl ⟨by rfl, ?_⟩) ?_ ?_
         rotate_left
         ·intro w'
          go_simp
          with_reducible rfl
         rotate_left
         ·simp only [Act.put, sA, s0, s1, i64_w, i32_w]
          rfl
         refine pure_ (i := 2) (N := some 8) (v := ?_) (a' := ?_) (bnA 58 5) rfl rfl (any_of HT_.out (by kernel_rfl)) (fun _ _ _ h => h) (Or.inl ⟨by rfl, ?_⟩) ?_ ?_
         rotate_left
         ·intro w'
          go_simp
          with_reducible rfl
         rotate_left
         ·simp only [Act.put, sA, s0, s1, i64_w, i32_w]
          rfl
         refine take_ (i := 1) (N := some 7) (v := ?_) (a' := ?_) (tfA 3 55) rfl rfl (take_ofW HT_.out HW_.out (by kernel_rfl)) (fun _ _ _ h => h) (Or.inl ⟨by rfl, ?_⟩) hHeld ?_ ?_
         rotate_left
         ·rintro w' ⟨s0, s1, s2, s3, s4, s5, s6, s7, s8, s9, s10, s11, s12, s13, s14, s15⟩
          go_simp
          with_reducible rfl
         rotate_left
         ·simp only [Act.put, sA, s0, s1, i64_w, i32_w]
          rfl
         refine take_ (i := 3) (N := some 9) (v := ?_) (a' := ?_) (tfA 4 54) rfl rfl (take_ofW HT_.out HW_.out (by kernel_rfl)) (fun _ _ _ h => h) (Or.inl ⟨by rfl, ?_⟩) hHeld ?_ ?_
         rotate_left
         ·rintro w' ⟨s0, s1, s2, s3, s4, s5, s6, s7, s8, s9, s10, s11, s12, s13, s14, s15⟩
          go_simp
          with_reducible rfl
         rotate_left
         ·simp only [Act.put, sA, s0, s1, i64_w, i32_w]
          rfl
         refine pure_ (i := 4) (N := some 10) (v := ?_) (a' := ?_) (tfA 5 53) rfl rfl (any_of HT_.out (by kernel_rfl)) (fun _ _ _ h => h) (Or.inl ⟨by rfl, ?_⟩) ?_ ?_
         rotate_left
         ·intro w'
          go_simp
          with_reducible rfl
         rotate_left
         ·simp only [Act.put, sA, s0, s1, i64_w, i32_w]
          rfl
         refine pure_ (i := 5) (N := some 11) (v := ?_) (a' := ?_) (tfA 6 52) rfl rfl (any_of HT_.out (by kernel_rfl)) (fun _ _ _ h => h) (Or.inl ⟨by rfl, ?_⟩) ?_ ?_
         rotate_left
         ·intro w'
          go_simp
          with_reducible rfl
         rotate_left
         ·simp only [Act.put, sA, s0, s1, i64_w, i32_w]
          rfl
         refine pure_ (i := 6) (N := some 12) (v := ?_) (a' := ?_) (tfA 7 51) rfl rfl (any_of HT_.out (by kernel_rfl)) (fun _ _ _ h => h) (Or.inl ⟨by rfl, ?_⟩) ?_ ?_
         rotate_left
         ·intro w'
          go_simp
          with_reducible rfl
         rotate_left
         ·simp only [Act.put, sA, s0, s1, i64_w, i32_w]
          rfl
         refine pure_ (i := 8) (N := some 14) (v := ?_) (a' := ?_) (bnA 58 383) rfl rfl (any_of HT_.out (by kernel_rfl)) (fun _ _ _ h => h) (Or.inl ⟨by rfl, ?_⟩) ?_ ?_
         rotate_left
         ·intro w'
          go_simp
          with_reducible rfl
         rotate_left
         ·simp only [Act.put, sA, s0, s1, i64_w, i32_w]
          rfl
         refine take_ (i := 7) (N := some 13) (v := ?_) (a' := ?_) (tfA 9 49) rfl rfl (take_ofW HT_.out HW_.out (by kernel_rfl)) (fun _ _ _ h => h) (Or.inl ⟨by rfl, ?_⟩) hHeld ?_ ?_
         rotate_left
         ·rintro w' ⟨s0, s1, s2, s3, s4, s5, s6, s7, s8, s9, s10, s11, s12, s13, s14, s15⟩
          go_simp
          with_reducible rfl
         rotate_left
         ·simp only [Act.put, sA, s0, s1, i64_w, i32_w]
          rfl
         refine take_ (i := 9) (N := some 15) (v := ?_) (a' := ?_) (tfA 10 48) rfl rfl (take_ofW HT_.out HW_.out (by kernel_rfl)) (fun _ _ _ h => h) (Or.inl ⟨by rfl, ?_⟩) hHeld ?_ ?_
         rotate_left
         ·rintro w' ⟨s0, s1, s2, s3, s4, s5, s6, s7, s8, s9, s10, s11, s12, s13, s14, s15⟩
          go_simp
          with_reducible rfl
         rotate_left
         ·simp only [Act.put, sA, s0, s1, i64_w, i32_w]
          rfl
         refine pure_ (i := 10) (N := some 16) (v := ?_) (a' := ?_) (tfA 11 47) rfl rfl (any_of HT_.out (by kernel_rfl)) (fun _ _ _ h => h) (Or.inl ⟨by rfl, ?_⟩) ?_ ?_
         rotate_left
         ·intro w'
          go_simp
          with_reducible rfl
         rotate_left
         ·simp only [Act.put, sA, s0, s1, i64_w, i32_w]
          rfl
         refine pure_ (i := 11) (N := some 17) (v := ?_) (a' := ?_) (tfA 12 46) rfl rfl (any_of HT_.out (by kernel_rfl)) (fun _ _ _ h => h) (Or.inl ⟨by rfl, ?_⟩) ?_ ?_
         rotate_left
         ·intro w'
          go_simp
          with_reducible rfl
         rotate_left
         ·simp only [Act.put, sA, s0, s1, i64_w, i32_w]
          rfl
         refine pure_ (i := 12) (N := some 18) (v := ?_) (a' := ?_) (tfA 13 45) rfl rfl (any_of HT_.out (by kernel_rfl)) (fun _ _ _ h => h) (Or.inl ⟨by rfl, ?_⟩) ?_ ?_
         rotate_left
         ·intro w'
          go_simp
          with_reducible rfl
         rotate_left
         ·simp only [Act.put, sA, s0, s1, i64_w, i32_w]
          rfl
         refine pure_ (i := 13) (N := some 19) (v := ?_) (a' := ?_) (tfA 14 44) rfl rfl (any_of HT_.out (by kernel_rfl)) (fun _ _ _ h => h) (Or.inl ⟨by rfl, ?_⟩) ?_ ?_
         rotate_left
         ·intro w'
          go_simp
          with_reducible rfl
         rotate_left
         ·simp only [Act.put, sA, s0, s1, i64_w, i32_w]
          rfl
         refine pure_ (i := 15) (N := some 21) (v := ?_) (a' := ?_) (bnA 58 49151) rfl rfl (any_of HT_.out (by kernel_rfl)) (fun _ _ _ h => h) (Or.inl ⟨by rfl, ?_⟩) ?_ ?_
         rotate_left
         ·intro w'
          go_simp
          with_reducible rfl
         rotate_left
         ·simp only [Act.put, sA, s0, s1, i64_w, i32_w]
          rfl
         refine take_ (i := 14) (N := some 20) (v := ?_) (a' := ?_) (tfA 16 42) rfl rfl (take_ofW HT_.out HW_.out (by kernel_rfl)) (fun _ _ _ h => h) (Or.inl ⟨by rfl, ?_⟩) hHeld ?_ ?_
         rotate_left
         ·rintro w' ⟨s0, s1, s2, s3, s4, s5, s6, s7, s8, s9, s10, s11, s12, s13, s14, s15⟩
          go_simp
          with_reducible rfl
         rotate_left
         ·simp only [Act.put, sA, s0, s1, i64_w, i32_w]
          rfl
         refine take_ (i := 16) (N := some 22) (v := ?_) (a' := ?_) (tfA 17 41) rfl rfl (take_ofW HT_.out HW_.out (by kernel_rfl)) (fun _ _ _ h => h) (Or.inl ⟨by rfl, ?_⟩) hHeld ?_ ?_
         rotate_left
         ·rintro w' ⟨s0, s1, s2, s3, s4, s5, s6, s7, s8, s9, s10, s11, s12, s13, s14, s15⟩
          go_simp
          with_reducible rfl
         rotate_left
         ·simp only [Act.put, sA, s0, s1, i64_w, i32_w]
          rfl
         refine pure_ (i := 17) (N := some 23) (v := ?_) (a' := ?_) (tfA 18 40) rfl rfl (any_of HT_.out (by kernel_rfl)) (fun _ _ _ h => h) (Or.inl ⟨by rfl, ?_⟩) ?_ ?_
         rotate_left
         ·intro w'
          go_simp
          with_reducible rfl
         rotate_left
         ·simp only [Act.put, sA, s0, s1, i64_w, i32_w]
          rfl
         refine pure_ (i := 18) (N := some 24) (v := ?_) (a' := ?_) (tfA 19 39) rfl rfl (any_of HT_.out (by kernel_rfl)) (fun _ _ _ h => h) (Or.inl ⟨by rfl, ?_⟩) ?_ ?_
         rotate_left
         ·intro w'
          go_simp
          with_reducible rfl
         rotate_left
         ·simp only [Act.put, sA, s0, s1, i64_w, i32_w]
          rfl
         refine pure_ (i := 19) (N := some 25) (v := ?_) (a' := ?_) (tfA 20 38) rfl rfl (any_of HT_.out (by kernel_rfl)) (fun _ _ _ h => h) (Or.inl ⟨by rfl, ?_⟩) ?_ ?_
         rotate_left
         ·intro w'
          go_simp
          with_reducible rfl
         rotate_left
         ·simp only [Act.put, sA, s0, s1, i64_w, i32_w]
          rfl
         refine pure_ (i := 20) (N := some 26) (v := ?_) (a' := ?_) (tfA 21 37) rfl rfl (any_of HT_.out (by kernel_rfl)) (fun _ _ _ h => h) (Or.inl ⟨by rfl, ?_⟩) ?_ ?_
         rotate_left
         ·intro w'
          go_simp
          with_reducible rfl
         rotate_left
         ·simp only [Act.put, sA, s0, s1, i64_w, i32_w]
          rfl
         refine pure_ (i := 22) (N := some 28) (v := ?_) (a' := ?_) (bnA 58 6291455) rfl rfl (any_of HT_.out (by kernel_rfl)) (fun _ _ _ h => h) (Or.inl ⟨by rfl, ?_⟩) ?_ ?_
         rotate_left
         ·intro w'
          go_simp
          with_reducible rfl
         rotate_left
         ·simp only [Act.put, sA, s0, s1, i64_w, i32_w]
          rfl
         refine take_ (i := 21) (N := some 27) (v := ?_) (a' := ?_) (tfA 23 35) rfl rfl (take_ofW HT_.out HW_.out (by kernel_rfl)) (fun _ _ _ h => h) (Or.inl ⟨by rfl, ?_⟩) hHeld ?_ ?_
         rotate_left
         ·rintro w' ⟨s0, s1, s2, s3, s4, s5, s6, s7, s8, s9, s10, s11, s12, s13, s14, s15⟩
          go_simp
          with_reducible rfl
         rotate_left
         ·simp only [Act.put, sA, s0, s1, i64_w, i32_w]
          rfl
         refine take_ (i := 23) (N := some 29) (v := ?_) (a' := ?_) (tfA 24 34) rfl rfl (take_ofW HT_.out HW_.out (by kernel_rfl)) (fun _ _ _ h => h) (Or.inl ⟨by rfl, ?_⟩) hHeld ?_ ?_
         rotate_left
         ·rintro w' ⟨s0, s1, s2, s3, s4, s5, s6, s7, s8, s9, s10, s11, s12, s13, s14, s15⟩
          go_simp
          with_reducible rfl
         rotate_left
         ·simp only [Act.put, sA, s0, s1, i64_w, i32_w]
          rfl
         refine pure_ (i := 24) (N := some 30) (v := ?_) (a' := ?_) (tfA 25 33) rfl rfl (any_of HT_.out (by kernel_rfl)) (fun _ _ _ h => h) (Or.inl ⟨by rfl, ?_⟩) ?_ ?_
         rotate_left
         ·intro w'
          go_simp
          with_reducible rfl
         rotate_left
         ·simp only [Act.put, sA, s0, s1, i64_w, i32_w]
          rfl
         refine pure_ (i := 25) (N := some 31) (v := ?_) (a' := ?_) (tfA 26 32) rfl rfl (any_of HT_.out (by kernel_rfl)) (fun _ _ _ h => h) (Or.inl ⟨by rfl, ?_⟩) ?_ ?_
         rotate_left
         ·intro w'
          go_simp
          with_reducible rfl
         rotate_left
         ·simp only [Act.put, sA, s0, s1, i64_w, i32_w]
          rfl
         refine pure_ (i := 26) (N := some 32) (v := ?_) (a' := ?_) (tfA 27 31) rfl rfl (any_of HT_.out (by kernel_rfl)) (fun _ _ _ h => h) (Or.inl ⟨by rfl, ?_⟩) ?_ ?_
         rotate_left
         ·intro w'
          go_simp
          with_reducible rfl
         rotate_left
         ·simp only [Act.put, sA, s0, s1, i64_w, i32_w]
          rfl
         refine pure_ (i := 27) (N := some 33) (v := ?_) (a' := ?_) (tfA 28 30) rfl rfl (any_of HT_.out (by kernel_rfl)) (fun _ _ _ h => h) (Or.inl ⟨by rfl, ?_⟩) ?_ ?_
         rotate_left
         ·intro w'
          go_simp
          with_reducible rfl
         rotate_left
         ·simp only [Act.put, sA, s0, s1, i64_w, i32_w]
          rfl
         refine pure_ (i := 29) (N := some 35) (v := ?_) (a' := ?_) (bnA 58 805306367) rfl rfl (any_of HT_.out (by kernel_rfl)) (fun _ _ _ h => h) (Or.inl ⟨by rfl, ?_⟩) ?_ ?_
         rotate_left
         ·intro w'
          go_simp
          with_reducible rfl
         rotate_left
         ·simp only [Act.put, sA, s0, s1, i64_w, i32_w]
          rfl
         refine take_ (i := 28) (N := some 34) (v := ?_) (a' := ?_) (tfA 30 28) rfl rfl (take_ofW HT_.out HW_.out (by kernel_rfl)) (fun _ _ _ h => h) (Or.inl ⟨by rfl, ?_⟩) hHeld ?_ ?_
         rotate_left
         ·rintro w' ⟨s0, s1, s2, s3, s4, s5, s6, s7, s8, s9, s10, s11, s12, s13, s14, s15⟩
          go_simp
          with_reducible rfl
         rotate_left
         ·simp only [Act.put, sA, s0, s1, i64_w, i32_w]
          rfl
         refine take_ (i := 30) (N := some 36) (v := ?_) (a' := ?_) (tfA 31 27) rfl rfl (take_ofW HT_.out HW_.out (by kernel_rfl)) (fun _ _ _ h => h) (Or.inl ⟨by rfl, ?_⟩) hHeld ?_ ?_
         rotate_left
         ·rintro w' ⟨s0, s1, s2, s3, s4, s5, s6, s7, s8, s9, s10, s11, s12, s13, s14, s15⟩
          go_simp
          with_reducible rfl
         rotate_left
         ·simp only [Act.put, sA, s0, s1, i64_w, i32_w]
          rfl
         refine pure_ (i := 31) (N := some 37) (v := ?_) (a' := ?_) (tfA 32 26) rfl rfl (any_of HT_.out (by kernel_rfl)) (fun _ _ _ h => h) (Or.inl ⟨by rfl, ?_⟩) ?_ ?_
         rotate_left
         ·intro w'
          go_simp
          with_reducible rfl
         rotate_left
         ·simp only [Act.put, sA, s0, s1, i64_w, i32_w]
          rfl
         refine pure_ (i := 32) (N := some 38) (v := ?_) (a' := ?_) (tfA 33 25) rfl rfl (any_of HT_.out (by kernel_rfl)) (fun _ _ _ h => h) (Or.inl ⟨by rfl, ?_⟩) ?_ ?_
         rotate_left
         ·intro w'
          go_simp
          with_reducible rfl
         rotate_left
         ·simp only [Act.put, sA, s0, s1, i64_w, i32_w]
          rfl
         refine pure_ (i := 33) (N := some 39) (v := ?_) (a' := ?_) (tfA 34 24) rfl rfl (any_of HT_.out (by kernel_rfl)) (fun _ _ _ h => h) (Or.inl ⟨by rfl, ?_⟩) ?_ ?_
         rotate_left
         ·intro w'
          go_simp
          with_reducible rfl
         rotate_left
         ·simp only [Act.put, sA, s0, s1, i64_w, i32_w]
          rfl
         refine pure_ (i := 34) (N := some 40) (v := ?_) (a' := ?_) (tfA 35 23) rfl rfl (any_of HT_.out (by kernel_rfl)) (fun _ _ _ h => h) (Or.inl ⟨by rfl, ?_⟩) ?_ ?_
         rotate_left
         ·intro w'
          go_simp
          with_reducible rfl
         rotate_left
         ·simp only [Act.put, sA, s0, s1, i64_w, i32_w]
          rfl
         refine pure_ (i := 37) (N := some 43) (v := ?_) (a' := ?_) (bnA 58 171798691839) rfl rfl (any_of HT_.out (by kernel_rfl)) (fun _ _ _ h => h) (Or.inl ⟨by rfl, ?_⟩) ?_ ?_
         rotate_left
         ·intro w'
          go_simp
          with_reducible rfl
         rotate_left
         ·simp only [Act.put, sA, s0, s1, i64_w, i32_w]
          rfl
         refine take_ (i := 35) (N := some 41) (v := ?_) (a' := ?_) (bnA 58 206158430207) rfl rfl (take_ofW HT_.out HW_.out (by kernel_rfl)) (fun _ _ _ h => h) (Or.inl ⟨by rfl, ?_⟩) hHeld ?_ ?_
         rotate_left
         ·rintro w' ⟨s0, s1, s2, s3, s4, s5, s6, s7, s8, s9, s10, s11, s12, s13, s14, s15⟩
          go_simp
          with_reducible rfl
         rotate_left
         ·simp only [Act.put, sA, s0, s1, i64_w, i32_w]
          rfl
         refine pure_ (i := 36) (N := some 42) (v := ?_) (a' := ?_) (tfA 38 20) rfl rfl (any_of HT_.out (by kernel_rfl)) (fun _ _ _ h => h) (Or.inl ⟨by rfl, ?_⟩) ?_ ?_
         rotate_left
         ·intro w'
          go_simp
          with_reducible rfl
         rotate_left
         ·simp only [Act.put, sA, s0, s1, i64_w, i32_w]
          rfl
         refine take_ (i := 38) (N := some 44) (v := ?_) (a' := ?_) (tfA 39 19) rfl rfl (take_ofW HT_.out HW_.out (by kernel_rfl)) (fun _ _ _ h => h) (Or.inl ⟨by rfl, ?_⟩) hHeld ?_ ?_
         rotate_left
         ·rintro w' ⟨s0, s1, s2, s3, s4, s5, s6, s7, s8, s9, s10, s11, s12, s13, s14, s15⟩
          go_simp
          with_reducible rfl
         rotate_left
         ·simp only [Act.put, sA, s0, s1, i64_w, i32_w]
          rfl
         refine pure_ (i := 39) (N := some 45) (v := ?_) (a' := ?_) (tfA 40 18) rfl rfl (any_of HT_.out (by kernel_rfl)) (fun _ _ _ h => h) (Or.inl ⟨by rfl, ?_⟩) ?_ ?_
         rotate_left
         ·intro w'
          go_simp
          with_reducible rfl
         rotate_left
         ·simp only [Act.put, sA, s0, s1, i64_w, i32_w]
          rfl
         refine pure_ (i := 40) (N := some 46) (v := ?_) (a' := ?_) (tfA 41 17) rfl rfl (any_of HT_.out (by kernel_rfl)) (fun _ _ _ h => h) (Or.inl ⟨by rfl, ?_⟩) ?_ ?_
         rotate_left
         ·intro w'
          go_simp
          with_reducible rfl
         rotate_left
         ·simp only [Act.put, sA, s0, s1, i64_w, i32_w]
          rfl
         refine pure_ (i := 41) (N := some 47) (v := ?_) (a' := ?_) (tfA 42 16) rfl rfl (any_of HT_.out (by kernel_rfl)) (fun _ _ _ h => h) (Or.inl ⟨by rfl, ?_⟩) ?_ ?_
         rotate_left
         ·intro w'
          go_simp
          with_reducible rfl
         rotate_left
         ·simp only [Act.put, sA, s0, s1, i64_w, i32_w]
          rfl
         refine pure_ (i := 42) (N := some 48) (v := ?_) (a' := ?_) (tfA 43 15) rfl rfl (any_of HT_.out (by kernel_rfl)) (fun _ _ _ h => h) (Or.inl ⟨by rfl, ?_⟩) ?_ ?_
         rotate_left
         ·intro w'
          go_simp
          with_reducible rfl
         rotate_left
         ·simp only [Act.put, sA, s0, s1, i64_w, i32_w]
          rfl
         refine pure_ (i := 43) (N := some 49) (v := ?_) (a' := ?_) (tfA 44 14) rfl rfl (any_of HT_.out (by kernel_rfl)) (fun _ _ _ h => h) (Or.inl ⟨by rfl, ?_⟩) ?_ ?_
         rotate_left
         ·intro w'
          go_simp
          with_reducible rfl
         rotate_left
         ·simp only [Act.put, sA, s0, s1, i64_w, i32_w]
          rfl
         refine pure_ (i := 45) (N := some 51) (v := ?_) (a' := ?_) (bnA 58 52776558133247) rfl rfl (any_of HT_.out (by kernel_rfl)) (fun _ _ _ h => h) (Or.inl ⟨by rfl, ?_⟩) ?_ ?_
         rotate_left
         ·intro w'
          go_simp
          with_reducible rfl
         rotate_left
         ·simp only [Act.put, sA, s0, s1, i64_w, i32_w]
          rfl
         refine take_ (i := 44) (N := some 50) (v := ?_) (a' := ?_) (tfA 46 12) rfl rfl (take_ofW HT_.out HW_.out (by kernel_rfl)) (fun _ _ _ h => h) (Or.inl ⟨by rfl, ?_⟩) hHeld ?_ ?_
         rotate_left
         ·rintro w' ⟨s0, s1, s2, s3, s4, s5, s6, s7, s8, s9, s10, s11, s12, s13, s14, s15⟩
          go_simp
          with_reducible rfl
         rotate_left
         ·simp only [Act.put, sA, s0, s1, i64_w, i32_w]
          rfl
         refine take_ (i := 46) (N := some 52) (v := ?_) (a' := ?_) (tfA 47 11) rfl rfl (take_ofW HT_.out HW_.out (by kernel_rfl)) (fun _ _ _ h => h) (Or.inl ⟨by rfl, ?_⟩) hHeld ?_ ?_
         rotate_left
         ·rintro w' ⟨s0, s1, s2, s3, s4, s5, s6, s7, s8, s9, s10, s11, s12, s13, s14, s15⟩
          go_simp
          with_reducible rfl
         rotate_left
         ·simp only [Act.put, sA, s0, s1, i64_w, i32_w]
          rfl
         refine pure_ (i := 47) (N := some 53) (v := ?_) (a' := ?_) (tfA 48 10) rfl rfl (any_of HT_.out (by kernel_rfl)) (fun _ _ _ h => h) (Or.inl ⟨by rfl, ?_⟩) ?_ ?_
         rotate_left
         ·intro w'
          go_simp
          with_reducible rfl
         rotate_left
         ·simp only [Act.put, sA, s0, s1, i64_w, i32_w]
          rfl
         refine pure_ (i := 48) (N := some 54) (v := ?_) (a' := ?_) (tfA 49 9) rfl rfl (any_of HT_.out (by kernel_rfl)) (fun _ _ _ h => h) (Or.inl ⟨by rfl, ?_⟩) ?_ ?_
         rotate_left
         ·intro w'
          go_simp
          with_reducible rfl
         rotate_left
         ·simp only [Act.put, sA, s0, s1, i64_w, i32_w]
          rfl
         refine pure_ (i := 49) (N := some 55) (v := ?_) (a' := ?_) (tfA 50 8) rfl rfl (any_of HT_.out (by kernel_rfl)) (fun _ _ _ h => h) (Or.inl ⟨by rfl, ?_⟩) ?_ ?_
         rotate_left
         ·intro w'
          go_simp
          with_reducible rfl
         rotate_left
         ·simp only [Act.put, sA, s0, s1, i64_w, i32_w]
          rfl
         refine pure_ (i := 50) (N := some 56) (v := ?_) (a' := ?_) (tfA 51 7) rfl rfl (any_of HT_.out (by kernel_rfl)) (fun _ _ _ h => h) (Or.inl ⟨by rfl, ?_⟩) ?_ ?_
         rotate_left
         ·intro w'
          go_simp
          with_reducible rfl
         rotate_left
         ·simp only [Act.put, sA, s0, s1, i64_w, i32_w]
          rfl
         refine pure_ (i := 53) (N := some 59) (v := ?_) (a' := ?_) (bnA 58 11258999068426239) rfl rfl (any_of HT_.out (by kernel_rfl)) (fun _ _ _ h => h) (Or.inl ⟨by rfl, ?_⟩) ?_ ?_
         rotate_left
         ·intro w'
          go_simp
          with_reducible rfl
         rotate_left
         ·simp only [Act.put, sA, s0, s1, i64_w, i32_w]
          rfl
         refine take_ (i := 51) (N := some 57) (v := ?_) (a' := ?_) (bnA 58 13510798882111487) rfl rfl (take_ofW HT_.out HW_.out (by kernel_rfl)) (fun _ _ _ h => h) (Or.inl ⟨by rfl, ?_⟩) hHeld ?_ ?_
         rotate_left
         ·rintro w' ⟨s0, s1, s2, s3, s4, s5, s6, s7, s8, s9, s10, s11, s12, s13, s14, s15⟩
          go_simp
          with_reducible rfl
         rotate_left
         ·simp only [Act.put, sA, s0, s1, i64_w, i32_w]
          rfl
         refine pure_ (i := 52) (N := some 58) (v := ?_) (a' := ?_) (tfA 54 4) rfl rfl (any_of HT_.out (by kernel_rfl)) (fun _ _ _ h => h) (Or.inl ⟨by rfl, ?_⟩) ?_ ?_
         rotate_left
         ·intro w'
          go_simp
          with_reducible rfl
         rotate_left
         ·simp only [Act.put, sA, s0, s1, i64_w, i32_w]
          rfl
         refine take_ (i := 54) (N := some 60) (v := ?_) (a' := ?_) (tfA 55 3) rfl rfl (take_ofW HT_.out HW_.out (by kernel_rfl)) (fun _ _ _ h => h) (Or.inl ⟨by rfl, ?_⟩) hHeld ?_ ?_
         rotate_left
         ·rintro w' ⟨s0, s1, s2, s3, s4, s5, s6, s7, s8, s9, s10, s11, s12, s13, s14, s15⟩
          go_simp
          with_reducible rfl
         rotate_left
         ·simp only [Act.put, sA, s0, s1, i64_w, i32_w]
          rfl
         refine pure_ (i := 55) (N := some 61) (v := ?_) (a' := ?_) (tfA 56 2) rfl rfl (any_of HT_.out (by kernel_rfl)) (fun _ _ _ h => h) (Or.inl ⟨by rfl, ?_⟩) ?_ ?_
         rotate_left
         ·intro w'
          go_simp
          with_reducible rfl
         rotate_left
         ·simp only [Act.put, sA, s0, s1, i64_w, i32_w]
          rfl
         refine pure_ (i := 56) (N := some 62) (v := ?_) (a' := ?_) (tfA 57 1) rfl rfl (any_of HT_.out (by kernel_rfl)) (fun _ _ _ h => h) (Or.inl ⟨by rfl, ?_⟩) ?_ ?_
         rotate_left
         ·intro w'
          go_simp
          with_reducible rfl
         rotate_left
         ·simp only [Act.put, sA, s0, s1, i64_w, i32_w]
          rfl
         refine pure_ (i := 57) (N := some 63) (v := ?_) (a' := ?_) (tfA 58 0) rfl rfl (any_of HT_.out (by kernel_rfl)) (fun _ _ _ h => h) (Or.inl ⟨by rfl, ?_⟩) ?_ ?_
         rotate_left
         ·intro w'
          go_simp
          with_reducible rfl
         rotate_left
         ·simp only [Act.put, sA, s0, s1, i64_w, i32_w]
          rfl
         refine done_ (done_of HT_.out (by kernel_rfl)) ?_
         try go_wp2
         go_meet
         case rel => exact ⟨_, (((l0_7.length : Int) != (l1_7.length : Int))), (by first | rfl | (simp; done) | (simp [*]; done) | (simp [bne_nil]; done) | (simp [bne_nil, *]; done)), H', ⟨by first | omega | exact Nat.le_refl _⟩, ⟨by refine bY ?_; exact BK101.out⟩, ⟨by refine bY ?_; exact BK102.out⟩, ⟨by repeat (first | (with_reducible first | exact HB.out | apply below_alloc | apply pw_below_drewN | apply below_drew1 | refine below_set ?_ GE101.out | refine below_set ?_ GE102.out) | exact HB.out)⟩⟩
        ·rw [if_neg c13] at H
         exact absurd H (by simp)
       ·rw [if_neg c12] at H
        exact absurd H (by simp)
      ·rw [if_neg c11] at H
       exact absurd H (by simp)
     ·rw [if_neg c10] at H
      exact absurd H (by simp)
   ·rw [if_neg c7] at H
    exact absurd H (by simp)
  ·rw [if_neg c6] at H
   exact absurd H (by simp)
 case rest =>
  clear HC3
  try clear c1
  try clear p2
  try clear c6
  try clear c7
  try clear c8
  try clear c8b0
  try clear c8b1
  try clear c8b2
  try clear c10
  try clear c10b0
  try clear c10b1
  try clear c11
  try clear c11b0
  try clear c11b1
  try clear c12
  try clear c12b0
  try clear c12b1
  try clear c13
  try clear c13b0
  try clear c13b1
  obtain ⟨kq, x63_2, rfl, HA, HJ2, BK101, BK102, HB⟩ := hcut
  cases kq with
  | zero => exact absurd HA.out (by simp [spec_SameNode.j0])
  | succ kj2 =>
   have H := HA.out
   clear HA
   simp only [spec_SameNode.j0] at H
   by_cases c15 : x63_2 = true
   ·subst c15
    have H1 : (some false) = some r := by rw [if_pos rfl] at H; exact H
    clear H
    have H := H1
    clear H1
    obtain rfl := Option.some.inj H
    go_wp2
    go_ret
    exact ⟨by first | rfl | (simp [errW_none, errW_some] <;> rfl) | (simp [*, errW_none, errW_some] <;> rfl), by repeat (first | (with_reducible first | exact HB.out | apply below_alloc | apply pw_below_drewN | apply below_drew1 | refine below_set ?_ GE101.out | refine below_set ?_ GE102.out) | exact HB.out)⟩
   ·replace c15 := Bool.eq_false_iff.mpr c15
    subst c15
    have H1 : (spec_SameNode.l0 kj2 (l0_7.length : Int) 0 a0_0 a0_1 a0_2 a0_3 a0_4 a0_5 a0_6 l0_7 a1_0 a1_1 a1_2 a1_3 a1_4 a1_5 a1_6 l1_7) = some r := by rw [if_neg (show ¬ (false = true) by decide)] at H; exact H
    clear H
    have H := H1
    clear H1
    have H' := Aside0.mk H
    clear H
    have hnb16 := NB101_102.out
    have hnc16 := NB102_101.out
    obtain ⟨hcz17_0, hcz17_1, hcz17_2, hcz17_3, hcz17_4, hcz17_5, hcz17_6, hcz17_7, hfz17_0, hfz17_1, hfz17_2, hfz17_3, hfz17_4, hfz17_5, hfz17_6, hfz17_7⟩ := rows8 (w := wc) BK101
    go_wp2
    go_loopg [67] kj2 (fun kq v67 w' => ∃ (x67_2 : Int), v67 = .int .i64 x67_2 ∧ Aside0 (spec_SameNode.l0 kq (l0_7.length : Int) x67_2 a0_0 a0_1 a0_2 a0_3 a0_4 a0_5 a0_6 l0_7 a1_0 a1_1 a1_2 a1_3 a1_4 a1_5 a1_6 l1_7 = some r) ∧ Aside0 (kq ≤ kj2) ∧ Aside0 (w'.heap[gb101]? = some (.cells #[.string a0_0, .int .i64 a0_1, .bool a0_2, .int .i64 a0_3, .int .u64 a0_4, .float .f64 a0_5, .string a0_6, (.slice A0_7 l0_7.length c0_7)] 40 (0, 0))) ∧ Aside0 (w'.heap[gb102]? = some (.cells #[.string a1_0, .int .i64 a1_1, .bool a1_2, .int .i64 a1_3, .int .u64 a1_4, .float .f64 a1_5, .string a1_6, (.slice A1_7 l1_7.length c1_7)] 40 (0, 0))) ∧ Aside0 (Below w.heap.size w w'))
    case atStart => exact ⟨(0), (by first | rfl | (simp; done) | (simp [*]; done) | (simp [bne_nil]; done) | (simp [bne_nil, *]; done)), H', ⟨Nat.le_refl _⟩, ⟨by refine bY ?_; exact BK101.out⟩, ⟨by refine bY ?_; exact BK102.out⟩, ⟨by repeat (first | (with_reducible first | exact HB.out | apply below_alloc | apply pw_below_drewN | apply below_drew1 | refine below_set ?_ GE101.out | refine below_set ?_ GE102.out) | exact HB.out)⟩⟩
    case round =>
     clear H'
     try clear c1
     try clear p2
     try clear c6
     try clear c7
     try clear c8
     try clear c8b0
     try clear c8b1
     try clear c8b2
     try clear c10
     try clear c10b0
     try clear c10b1
     try clear c11
     try clear c11b0
     try clear c11b1
     try clear c12
     try clear c12b0
     try clear c12b1
     try clear c13
     try clear c13b0
     try clear c13b1
     try clear c15
     try clear c16
     try clear hcz17_0
     try clear hcz17_1
     try clear hcz17_2
     try clear hcz17_3
     try clear hcz17_4
     try clear hcz17_5
     try clear hcz17_6
     try clear hcz17_7
     try clear hfz17_0
     try clear hfz17_1
     try clear hfz17_2
     try clear hfz17_3
     try clear hfz17_4
     try clear hfz17_5
     try clear hfz17_6
     try clear hfz17_7
     try clear p2
     obtain ⟨x67_2, rfl, HA, HK2, BK101, BK102, HB⟩ := hrel
     cases gk with
     | zero => exact absurd HA.out (by simp [spec_SameNode.l0])
     | succ k2 =>
      have H := HA.out
      clear HA
      simp only [spec_SameNode.l0] at H
      by_cases c18 : x67_2 < (l0_7.length : Int)
      ·rw [if_pos c18] at H
       have c18b0 : decide (x67_2 < (l0_7.length : Int)) = true := decide_eq_true c18
       clear c18
       by_cases c19 : 0 ≤ x67_2
       ·rw [if_pos c19] at H
        have c19b0 : decide (0 ≤ x67_2) = true := decide_eq_true c19
        clear c19
        by_cases c20 : x67_2 < (l0_7.length : Int)
        ·rw [if_pos c20] at H
         have c20b0 : decide (x67_2 < (l0_7.length : Int)) = true := decide_eq_true c20
         clear c20
         by_cases c21 : x67_2 < (l1_7.length : Int)
         ·rw [if_pos c21] at H
          have c21b0 : decide (x67_2 < (l1_7.length : Int)) = true := decide_eq_true c21
          clear c21
          replace H := Option.bind_eq_some_iff.mp H
          obtain ⟨t105, A220, H⟩ := H
          have A22 := Aside0.mk A220
          clear A220
          by_cases c23 : t105 = true
          ·subst c23
           have H1 : (spec_SameNode.l0 k2 (l0_7.length : Int) (wrap64 (x67_2 + 1)) a0_0 a0_1 a0_2 a0_3 a0_4 a0_5 a0_6 l0_7 a1_0 a1_1 a1_2 a1_3 a1_4 a1_5 a1_6 l1_7) = some r := by rw [if_pos rfl] at H; exact H
           clear H
           have H := H1
           clear H1
           have H' := Aside0.mk H
           clear H
           try go_wp2
           have n0_ := Aside0.mk (blk_drew BK101.out)
           have n1_ := Aside0.mk (blk_drew BK102.out)
           have n2_ := Aside0.mk (below_drew1 HB.out)
           clear BK101
           clear BK102
           clear HB
           have BK101 := n0_
           have BK102 := n1_
           have HB := n2_
           clear n0_ n1_ n2_
           have p103 : 0 ≤ (x67_2 : Int) := of_decide_eq_true (by first | (with_reducible assumption) | assumption)
           have q103 : x67_2 < (l0_7.length : Int) := of_decide_eq_true (by first | (with_reducible assumption) | assumption)
           obtain ⟨ad103, A103_7, c103_7, e103, hx103_0, hx103_1, hx103_2, hx103_3, hx103_4, hx103_5, hx103_6, hx103_7, hl103_7, hi103_7⟩ := at_T40 HR0_7.out x67_2 p103 q103
           have hw103_7 := hx103_7
           have hw103_6 := hx103_6
           have hw103_5 := hx103_5
           have hw103_4 := hx103_4
           have hw103_3 := hx103_3
           have hw103_2 := hx103_2
           have hw103_1 := hx103_1
           have hw103_0 := hx103_0
           cases e103
           replace hx103_0 := (HB.out.cell (World.block_lt_of_cell? w _ hx103_0)).trans hx103_0
           replace hx103_1 := (HB.out.cell (World.block_lt_of_cell? w _ hx103_1)).trans hx103_1
           replace hx103_2 := (HB.out.cell (World.block_lt_of_cell? w _ hx103_2)).trans hx103_2
           replace hx103_3 := (HB.out.cell (World.block_lt_of_cell? w _ hx103_3)).trans hx103_3
           replace hx103_4 := (HB.out.cell (World.block_lt_of_cell? w _ hx103_4)).trans hx103_4
           replace hx103_5 := (HB.out.cell (World.block_lt_of_cell? w _ hx103_5)).trans hx103_5
           replace hx103_6 := (HB.out.cell (World.block_lt_of_cell? w _ hx103_6)).trans hx103_6
           replace hx103_7 := (HB.out.cell (World.block_lt_of_cell? w _ hx103_7)).trans hx103_7
           have HR103_7 := Aside0.mk hi103_7
           have HC103_7 := Aside0.mk hl103_7
           clear hi103_7 hl103_7
           replace p103 := eq_true p103
           replace q103 := eq_true q103
           have p104 : 0 ≤ (x67_2 : Int) := of_decide_eq_true (by first | (with_reducible assumption) | assumption)
           have q104 : x67_2 < (l1_7.length : Int) := of_decide_eq_true (by first | (with_reducible assumption) | assumption)
           obtain ⟨ad104, A104_7, c104_7, e104, hx104_0, hx104_1, hx104_2, hx104_3, hx104_4, hx104_5, hx104_6, hx104_7, hl104_7, hi104_7⟩ := at_T40 HR1_7.out x67_2 p104 q104
           have hw104_7 := hx104_7
           have hw104_6 := hx104_6
           have hw104_5 := hx104_5
           have hw104_4 := hx104_4
           have hw104_3 := hx104_3
           have hw104_2 := hx104_2
           have hw104_1 := hx104_1
           have hw104_0 := hx104_0
           cases e104
           replace hx104_0 := (HB.out.cell (World.block_lt_of_cell? w _ hx104_0)).trans hx104_0
           replace hx104_1 := (HB.out.cell (World.block_lt_of_cell? w _ hx104_1)).trans hx104_1
           replace hx104_2 := (HB.out.cell (World.block_lt_of_cell? w _ hx104_2)).trans hx104_2
           replace hx104_3 := (HB.out.cell (World.block_lt_of_cell? w _ hx104_3)).trans hx104_3
           replace hx104_4 := (HB.out.cell (World.block_lt_of_cell? w _ hx104_4)).trans hx104_4
           replace hx104_5 := (HB.out.cell (World.block_lt_of_cell? w _ hx104_5)).trans hx104_5
           replace hx104_6 := (HB.out.cell (World.block_lt_of_cell? w _ hx104_6)).trans hx104_6
           replace hx104_7 := (HB.out.cell (World.block_lt_of_cell? w _ hx104_7)).trans hx104_7
           have HR104_7 := Aside0.mk hi104_7
           have HC104_7 := Aside0.mk hl104_7
           clear hi104_7 hl104_7
           replace p104 := eq_true p104
           replace q104 := eq_true q104
           refine start_ (n := 12) (S := fun w' => w'.cell? ⟨gb101, 0, none⟩ = some (.string a0_0) ∧ w'.cell? ⟨gb101, 1, none⟩ = some (.int .i64 a0_1) ∧ w'.cell? ⟨gb101, 2, none⟩ = some (.bool a0_2) ∧ w'.cell? ⟨gb101, 3, none⟩ = some (.int .i64 a0_3) ∧ w'.cell? ⟨gb101, 4, none⟩ = some (.int .u64 a0_4) ∧ w'.cell? ⟨gb101, 5, none⟩ = some (.float .f64 a0_5) ∧ w'.cell? ⟨gb101, 6, none⟩ = some (.string a0_6) ∧ w'.cell? ⟨gb101, 7, none⟩ = some (.slice (some ad103) l0_7.length c0_7) ∧ w'.cell? ⟨gb102, 0, none⟩ = some (.string a1_0) ∧ w'.cell? ⟨gb102, 1, none⟩ = some (.int .i64 a1_1) ∧ w'.cell? ⟨gb102, 2, none⟩ = some (.bool a1_2) ∧ w'.cell? ⟨gb102, 3, none⟩ = some (.int .i64 a1_3) ∧ w'.cell? ⟨gb102, 4, none⟩ = some (.int .u64 a1_4) ∧ w'.cell? ⟨gb102, 5, none⟩ = some (.float .f64 a1_5) ∧ w'.cell? ⟨gb102, 6, none⟩ = some (.string a1_6) ∧ w'.cell? ⟨gb102, 7, none⟩ = some (.slice (some ad104) l1_7.length c1_7) ∧ w'.cell? (ad103.add ((x67_2).toNat * 8)) = some (.string ((rd_T40 l0_7 x67_2).f0)) ∧ w'.cell? ⟨(ad103.add ((x67_2).toNat * 8)).block, (ad103.add ((x67_2).toNat * 8)).off + 1, none⟩ = some (.int .i64 ((rd_T40 l0_7 x67_2).f1)) ∧ w'.cell? ⟨(ad103.add ((x67_2).toNat * 8)).block, (ad103.add ((x67_2).toNat * 8)).off + 2, none⟩ = some (.bool ((rd_T40 l0_7 x67_2).f2)) ∧ w'.cell? ⟨(ad103.add ((x67_2).toNat * 8)).block, (ad103.add ((x67_2).toNat * 8)).off + 3, none⟩ = some (.int .i64 ((rd_T40 l0_7 x67_2).f3)) ∧ w'.cell? ⟨(ad103.add ((x67_2).toNat * 8)).block, (ad103.add ((x67_2).toNat * 8)).off + 4, none⟩ = some (.int .u64 ((rd_T40 l0_7 x67_2).f4)) ∧ w'.cell? ⟨(ad103.add ((x67_2).toNat * 8)).block, (ad103.add ((x67_2).toNat * 8)).off + 5, none⟩ = some (.float .f64 ((rd_T40 l0_7 x67_2).f5)) ∧ w'.cell? ⟨(ad103.add ((x67_2).toNat * 8)).block, (ad103.add ((x67_2).toNat * 8)).off + 6, none⟩ = some (.string ((rd_T40 l0_7 x67_2).f6)) ∧ w'.cell? ⟨(ad103.add ((x67_2).toNat * 8)).block, (ad103.add ((x67_2).toNat * 8)).off + 7, none⟩ = some (.slice A103_7 ((rd_T40 l0_7 x67_2).f7).length c103_7) ∧ w'.cell? (ad104.add ((x67_2).toNat * 8)) = some (.string ((rd_T40 l1_7 x67_2).f0)) ∧ w'.cell? ⟨(ad104.add ((x67_2).toNat * 8)).block, (ad104.add ((x67_2).toNat * 8)).off + 1, none⟩ = some (.int .i64 ((rd_T40 l1_7 x67_2).f1)) ∧ w'.cell? ⟨(ad104.add ((x67_2).toNat * 8)).block, (ad104.add ((x67_2).toNat * 8)).off + 2, none⟩ = some (.bool ((rd_T40 l1_7 x67_2).f2)) ∧ w'.cell? ⟨(ad104.add ((x67_2).toNat * 8)).block, (ad104.add ((x67_2).toNat * 8)).off + 3, none⟩ = some (.int .i64 ((rd_T40 l1_7 x67_2).f3)) ∧ w'.cell? ⟨(ad104.add ((x67_2).toNat * 8)).block, (ad104.add ((x67_2).toNat * 8)).off + 4, none⟩ = some (.int .u64 ((rd_T40 l1_7 x67_2).f4)) ∧ w'.cell? ⟨(ad104.add ((x67_2).toNat * 8)).block, (ad104.add ((x67_2).toNat * 8)).off + 5, none⟩ = some (.float .f64 ((rd_T40 l1_7 x67_2).f5)) ∧ w'.cell? ⟨(ad104.add ((x67_2).toNat * 8)).block, (ad104.add ((x67_2).toNat * 8)).off + 6, none⟩ = some (.string ((rd_T40 l1_7 x67_2).f6)) ∧ w'.cell? ⟨(ad104.add ((x67_2).toNat * 8)).block, (ad104.add ((x67_2).toNat * 8)).off + 7, none⟩ = some (.slice A104_7 ((rd_T40 l1_7 x67_2).f7).length c104_7)) (ds := []) (tfA 0 12) (by kernel_rfl) rfl rfl ⟨(blk_cell BK101.out 0).trans rfl, (blk_cell BK101.out 1).trans rfl, (blk_cell BK101.out 2).trans rfl, (blk_cell BK101.out 3).trans rfl, (blk_cell BK101.out 4).trans rfl, (blk_cell BK101.out 5).trans rfl, (blk_cell BK101.out 6).trans rfl, (blk_cell BK101.out 7).trans rfl, (blk_cell BK102.out 0).trans rfl, (blk_cell BK102.out 1).trans rfl, (blk_cell BK102.out 2).trans rfl, (blk_cell BK102.out 3).trans rfl, (blk_cell BK102.out 4).trans rfl, (blk_cell BK102.out 5).trans rfl, (blk_cell BK102.out 6).trans rfl, (blk_cell BK102.out 7).trans rfl, ((HB.out.cell (World.block_lt_of_cell? w _ hw103_0)).trans hw103_0), ((HB.out.cell (World.block_lt_of_cell? w _ hw103_1)).trans hw103_1), ((HB.out.cell (World.block_lt_of_cell? w _ hw103_2)).trans hw103_2), ((HB.out.cell (World.block_lt_of_cell? w _ hw103_3)).trans hw103_3), ((HB.out.cell (World.block_lt_of_cell? w _ hw103_4)).trans hw103_4), ((HB.out.cell (World.block_lt_of_cell? w _ hw103_5)).trans hw103_5), ((HB.out.cell (World.block_lt_of_cell? w _ hw103_6)).trans hw103_6), ((HB.out.cell (World.block_lt_of_cell? w _ hw103_7)).trans hw103_7), ((HB.out.cell (World.block_lt_of_cell? w _ hw104_0)).trans hw104_0), ((HB.out.cell (World.block_lt_of_cell? w _ hw104_1)).trans hw104_1), ((HB.out.cell (World.block_lt_of_cell? w _ hw104_2)).trans hw104_2), ((HB.out.cell (World.block_lt_of_cell? w _ hw104_3)).trans hw104_3), ((HB.out.cell (World.block_lt_of_cell? w _ hw104_4)).trans hw104_4), ((HB.out.cell (World.block_lt_of_cell? w _ hw104_5)).trans hw104_5), ((HB.out.cell (World.block_lt_of_cell? w _ hw104_6)).trans hw104_6), ((HB.out.cell (World.block_lt_of_cell? w _ hw104_7)).trans hw104_7)⟩ (fun hHeld => ?_); refine with_tabW spec_SameNode.tab6 spec_SameNode.bits6 (fun HT_ HW_ => ?_)
           generalize wr.drew = w24 at BK101 BK102 HB HR103_7 HR104_7 hx103_0 hx103_1 hx103_2 hx103_3 hx103_4 hx103_5 hx103_6 hx103_7 hx104_0 hx104_1 hx104_2 hx104_3 hx104_4 hx104_5 hx104_6 hx104_7 hHeld ⊢
           refine pure_ (i := 0) (N := some 70) (v := ?_) (a' := ?_) (tfA 1 11) rfl rfl (any_of HT_.out (by kernel_rfl)) (fun _ _ _ h => h) (Or.inl ⟨by rfl, ?_⟩) ?_ ?_
           rotate_left
           ·intro w'
            go_simp
            with_reducible rfl
           rotate_left
           ·simp only [Act.put, sA, s0, s1, i64_w, i32_w]
            rfl
           refine pure_ (i := 2) (N := some 72) (v := ?_) (a' := ?_) (bnA 12 5) rfl rfl (any_of HT_.out (by kernel_rfl)) (fun _ _ _ h => h) (Or.inl ⟨by rfl, ?_⟩) ?_ ?_
           rotate_left
           ·intro w'
            go_simp
            with_reducible rfl
           rotate_left
           ·simp only [Act.put, sA, s0, s1, i64_w, i32_w]
            rfl
           refine pure_ (i := 5) (N := some 75) (v := ?_) (a' := ?_) (bnA 12 37) rfl rfl (any_of HT_.out (by kernel_rfl)) (fun _ _ _ h => h) (Or.inl ⟨by rfl, ?_⟩) ?_ ?_
           rotate_left
           ·intro w'
            go_simp
            with_reducible rfl
           rotate_left
           ·simp only [Act.put, sA, s0, s1, i64_w, i32_w]
            rfl
           refine pure_ (i := 7) (N := some 77) (v := ?_) (a' := ?_) (bnA 12 165) rfl rfl (any_of HT_.out (by kernel_rfl)) (fun _ _ _ h => h) (Or.inl ⟨by rfl, ?_⟩) ?_ ?_
           rotate_left
           ·intro w'
            go_simp
            with_reducible rfl
           rotate_left
           ·simp only [Act.put, sA, s0, s1, i64_w, i32_w]
            rfl
           refine take_ (i := 1) (N := some 71) (v := ?_) (a' := ?_) (bnA 12 167) rfl rfl (take_ofW HT_.out HW_.out (by kernel_rfl)) (fun _ _ _ h => h) (Or.inl ⟨by rfl, ?_⟩) hHeld ?_ ?_
           rotate_left
           ·rintro w' ⟨s0, s1, s2, s3, s4, s5, s6, s7, s8, s9, s10, s11, s12, s13, s14, s15, s16, s17, s18, s19, s20, s21, s22, s23, s24, s25, s26, s27, s28, s29, s30, s31⟩
            go_simp
            with_reducible rfl
           rotate_left
           ·simp only [Act.put, sA, s0, s1, i64_w, i32_w]
            rfl
           refine pure_ (i := 3) (N := some 73) (v := ?_) (a' := ?_) (bnA 12 175) rfl rfl (any_of HT_.out (by kernel_rfl)) (fun _ _ _ h => h) (Or.inl ⟨by rfl, ?_⟩) ?_ ?_
           rotate_left
           ·intro w'
            go_simp
            with_reducible rfl
           rotate_left
           ·simp only [Act.put, sA, s0, s1, i64_w, i32_w]
            rfl
           refine take_ (i := 4) (N := some 74) (v := ?_) (a' := ?_) (bnA 12 191) rfl rfl (take_ofW HT_.out HW_.out (by kernel_rfl)) (fun _ _ _ h => h) (Or.inl ⟨by rfl, ?_⟩) hHeld ?_ ?_
           rotate_left
           ·rintro w' ⟨s0, s1, s2, s3, s4, s5, s6, s7, s8, s9, s10, s11, s12, s13, s14, s15, s16, s17, s18, s19, s20, s21, s22, s23, s24, s25, s26, s27, s28, s29, s30, s31⟩
            go_simp
            with_reducible rfl
           rotate_left
           ·simp only [Act.put, sA, s0, s1, i64_w, i32_w]
            rfl
           refine take_ (i := 6) (N := some 76) (v := ?_) (a' := ?_) (tfA 8 4) rfl rfl (take_ofW HT_.out HW_.out (by kernel_rfl)) (fun _ _ _ h => h) (Or.inl ⟨by rfl, ?_⟩) hHeld ?_ ?_
           rotate_left
           ·rintro w' ⟨s0, s1, s2, s3, s4, s5, s6, s7, s8, s9, s10, s11, s12, s13, s14, s15, s16, s17, s18, s19, s20, s21, s22, s23, s24, s25, s26, s27, s28, s29, s30, s31⟩
            go_simp
            with_reducible rfl
           rotate_left
           ·simp only [Act.put, sA, s0, s1, i64_w, i32_w]
            rfl
           refine pure_ (i := 8) (N := some 78) (v := ?_) (a' := ?_) (tfA 9 3) rfl rfl (any_of HT_.out (by kernel_rfl)) (fun _ _ _ h => h) (Or.inl ⟨by rfl, ?_⟩) ?_ ?_
           rotate_left
           ·intro w'
            go_simp
            with_reducible rfl
           rotate_left
           ·simp only [Act.put, sA, s0, s1, i64_w, i32_w]
            rfl
           refine take_ (i := 9) (N := some 79) (v := ?_) (a' := ?_) (tfA 10 2) rfl rfl (take_ofW HT_.out HW_.out (by kernel_rfl)) (fun _ _ _ h => h) (Or.inl ⟨by rfl, ?_⟩) hHeld ?_ ?_
           rotate_left
           ·rintro w' ⟨s0, s1, s2, s3, s4, s5, s6, s7, s8, s9, s10, s11, s12, s13, s14, s15, s16, s17, s18, s19, s20, s21, s22, s23, s24, s25, s26, s27, s28, s29, s30, s31⟩
            go_simp
            with_reducible rfl
           rotate_left
           ·simp only [Act.put, sA, s0, s1, i64_w, i32_w]
            rfl
           refine one_ (i := 10) (N := some 80) (tfA 11 1) rfl rfl (one_of HT_.out (by kernel_rfl)) (by decide) (fun K hK => ?_)
           refine goes_ Tryz.func37 (by kernel_rfl) rfl #[.agg #[.string ((rd_T40 l0_7 x67_2).f0), .int .i64 ((rd_T40 l0_7 x67_2).f1), .bool ((rd_T40 l0_7 x67_2).f2), .int .i64 ((rd_T40 l0_7 x67_2).f3), .int .u64 ((rd_T40 l0_7 x67_2).f4), .float .f64 ((rd_T40 l0_7 x67_2).f5), .string ((rd_T40 l0_7 x67_2).f6), .slice A103_7 ((rd_T40 l0_7 x67_2).f7).length c103_7], .agg #[.string ((rd_T40 l1_7 x67_2).f0), .int .i64 ((rd_T40 l1_7 x67_2).f1), .bool ((rd_T40 l1_7 x67_2).f2), .int .i64 ((rd_T40 l1_7 x67_2).f3), .int .u64 ((rd_T40 l1_7 x67_2).f4), .float .f64 ((rd_T40 l1_7 x67_2).f5), .string ((rd_T40 l1_7 x67_2).f6), .slice A104_7 ((rd_T40 l1_7 x67_2).f7).length c104_7]] (by rfl) rfl rfl (by (try simp only [List.map_toArray, List.map_cons, List.map_nil]); first | done | rfl | (simp only [List.length_drop, List.length_take]; rfl)) ?_
           with_reducible refine (ih k2 (by have := HJ2.out; have := HK2.out; omega) ((rd_T40 l0_7 x67_2).f0) ((rd_T40 l0_7 x67_2).f1) ((rd_T40 l0_7 x67_2).f2) ((rd_T40 l0_7 x67_2).f3) ((rd_T40 l0_7 x67_2).f4) ((rd_T40 l0_7 x67_2).f5) ((rd_T40 l0_7 x67_2).f6) _ _ ((rd_T40 l0_7 x67_2).f7) ((rd_T40 l1_7 x67_2).f0) ((rd_T40 l1_7 x67_2).f1) ((rd_T40 l1_7 x67_2).f2) ((rd_T40 l1_7 x67_2).f3) ((rd_T40 l1_7 x67_2).f4) ((rd_T40 l1_7 x67_2).f5) ((rd_T40 l1_7 x67_2).f6) _ _ ((rd_T40 l1_7 x67_2).f7) true _ ?side1 ?side2 ?side3 ?side4 A22.out).mono ?_
           (case side1 => repeat (first | exact (Kd.C_below HR103_7.out HB.out) | (with_reducible refine Kd.C_alloc ?_ _) | (with_reducible refine Kd.C_drewN ?_ _) | (with_reducible refine Kd.C_drew ?_)))
           (case side2 => exact HC103_7.out)
           (case side3 => repeat (first | exact (Kd.C_below HR104_7.out HB.out) | (with_reducible refine Kd.C_alloc ?_ _) | (with_reducible refine Kd.C_drewN ?_ _) | (with_reducible refine Kd.C_drew ?_)))
           (case side4 => exact HC104_7.out)
           rintro e w25 ⟨rfl, hb⟩
           refine ⟨_, rfl, ?_⟩
           have n0_ := Aside0.mk (blk_below (g := gb101) (o := .cells #[.string a0_0, .int .i64 a0_1, .bool a0_2, .int .i64 a0_3, .int .u64 a0_4, .float .f64 a0_5, .string a0_6, .slice (some ad103) l0_7.length c0_7] 40 (0, 0)) (by refine bY ?_; exact BK101.out) hb)
           have n1_ := Aside0.mk (blk_below (g := gb102) (o := .cells #[.string a1_0, .int .i64 a1_1, .bool a1_2, .int .i64 a1_3, .int .u64 a1_4, .float .f64 a1_5, .string a1_6, .slice (some ad104) l1_7.length c1_7] 40 (0, 0)) (by refine bY ?_; exact BK102.out) hb)
           have n2_ := Aside0.mk (below_step belS hb)
           clear BK101
           clear BK102
           clear HB
           have BK101 := n0_
           have BK102 := n1_
           have HB := n2_
           clear n0_ n1_ n2_
           (try clear hb)
           (try clear hb2)
           (try clear hk)
           (try clear hi)
           refine hK.out _ _ ⟨(blk_cell BK101.out 0).trans rfl, (blk_cell BK101.out 1).trans rfl, (blk_cell BK101.out 2).trans rfl, (blk_cell BK101.out 3).trans rfl, (blk_cell BK101.out 4).trans rfl, (blk_cell BK101.out 5).trans rfl, (blk_cell BK101.out 6).trans rfl, (blk_cell BK101.out 7).trans rfl, (blk_cell BK102.out 0).trans rfl, (blk_cell BK102.out 1).trans rfl, (blk_cell BK102.out 2).trans rfl, (blk_cell BK102.out 3).trans rfl, (blk_cell BK102.out 4).trans rfl, (blk_cell BK102.out 5).trans rfl, (blk_cell BK102.out 6).trans rfl, (blk_cell BK102.out 7).trans rfl, ((HB.out.cell (World.block_lt_of_cell? w _ hw103_0)).trans hw103_0), ((HB.out.cell (World.block_lt_of_cell? w _ hw103_1)).trans hw103_1), ((HB.out.cell (World.block_lt_of_cell? w _ hw103_2)).trans hw103_2), ((HB.out.cell (World.block_lt_of_cell? w _ hw103_3)).trans hw103_3), ((HB.out.cell (World.block_lt_of_cell? w _ hw103_4)).trans hw103_4), ((HB.out.cell (World.block_lt_of_cell? w _ hw103_5)).trans hw103_5), ((HB.out.cell (World.block_lt_of_cell? w _ hw103_6)).trans hw103_6), ((HB.out.cell (World.block_lt_of_cell? w _ hw103_7)).trans hw103_7), ((HB.out.cell (World.block_lt_of_cell? w _ hw104_0)).trans hw104_0), ((HB.out.cell (World.block_lt_of_cell? w _ hw104_1)).trans hw104_1), ((HB.out.cell (World.block_lt_of_cell? w _ hw104_2)).trans hw104_2), ((HB.out.cell (World.block_lt_of_cell? w _ hw104_3)).trans hw104_3), ((HB.out.cell (World.block_lt_of_cell? w _ hw104_4)).trans hw104_4), ((HB.out.cell (World.block_lt_of_cell? w _ hw104_5)).trans hw104_5), ((HB.out.cell (World.block_lt_of_cell? w _ hw104_6)).trans hw104_6), ((HB.out.cell (World.block_lt_of_cell? w _ hw104_7)).trans hw104_7)⟩ (fun hHeld => ?_)
           clear hK K
           refine norm_ (a' := ?_) ?_ ?_
           rotate_left
           ·show Act.put _ (some 80) _ = _
            simp only [Act.put, sA, s0, s1, i64_w, i32_w]
            rfl
           refine pure_ (i := 11) (N := some 81) (v := ?_) (a' := ?_) (tfA 12 0) rfl rfl (any_of HT_.out (by kernel_rfl)) (fun _ _ _ h => h) (Or.inl ⟨by rfl, ?_⟩) ?_ ?_
           rotate_left
           ·intro w'
            go_simp
            with_reducible rfl
           rotate_left
           ·simp only [Act.put, sA, s0, s1, i64_w, i32_w]
            rfl
           refine done_ (done_of HT_.out (by kernel_rfl)) ?_
           try go_wp2
           go_roundg k2
           case measure => have := HJ2.out; have := HK2.out; omega
           case rel => exact ⟨(wrap64 (x67_2 + 1)), (by first | rfl | (simp; done) | (simp [*]; done) | (simp [bne_nil]; done) | (simp [bne_nil, *]; done)), H', ⟨by have := HJ2.out; have := HK2.out; omega⟩, ⟨by refine bY ?_; exact BK101.out⟩, ⟨by refine bY ?_; exact BK102.out⟩, ⟨by repeat (first | (with_reducible first | exact HB.out | apply below_alloc | apply pw_below_drewN | apply below_drew1 | refine below_set ?_ GE101.out | refine below_set ?_ GE102.out) | exact HB.out)⟩⟩
          ·replace c23 := Bool.eq_false_iff.mpr c23
           subst c23
           have H1 : (some false) = some r := by rw [if_neg (show ¬ (false = true) by decide)] at H; exact H
           clear H
           have H := H1
           clear H1
           obtain rfl := Option.some.inj H
           try go_wp2
           have n0_ := Aside0.mk (blk_drew BK101.out)
           have n1_ := Aside0.mk (blk_drew BK102.out)
           have n2_ := Aside0.mk (below_drew1 HB.out)
           clear BK101
           clear BK102
           clear HB
           have BK101 := n0_
           have BK102 := n1_
           have HB := n2_
           clear n0_ n1_ n2_
           have p103 : 0 ≤ (x67_2 : Int) := of_decide_eq_true (by first | (with_reducible assumption) | assumption)
           have q103 : x67_2 < (l0_7.length : Int) := of_decide_eq_true (by first | (with_reducible assumption) | assumption)
           obtain ⟨ad103, A103_7, c103_7, e103, hx103_0, hx103_1, hx103_2, hx103_3, hx103_4, hx103_5, hx103_6, hx103_7, hl103_7, hi103_7⟩ := at_T40 HR0_7.out x67_2 p103 q103
           have hw103_7 := hx103_7
           have hw103_6 := hx103_6
           have hw103_5 := hx103_5
           have hw103_4 := hx103_4
           have hw103_3 := hx103_3
           have hw103_2 := hx103_2
           have hw103_1 := hx103_1
           have hw103_0 := hx103_0
           cases e103
           replace hx103_0 := (HB.out.cell (World.block_lt_of_cell? w _ hx103_0)).trans hx103_0
           replace hx103_1 := (HB.out.cell (World.block_lt_of_cell? w _ hx103_1)).trans hx103_1
           replace hx103_2 := (HB.out.cell (World.block_lt_of_cell? w _ hx103_2)).trans hx103_2
           replace hx103_3 := (HB.out.cell (World.block_lt_of_cell? w _ hx103_3)).trans hx103_3
           replace hx103_4 := (HB.out.cell (World.block_lt_of_cell? w _ hx103_4)).trans hx103_4
           replace hx103_5 := (HB.out.cell (World.block_lt_of_cell? w _ hx103_5)).trans hx103_5
           replace hx103_6 := (HB.out.cell (World.block_lt_of_cell? w _ hx103_6)).trans hx103_6
           replace hx103_7 := (HB.out.cell (World.block_lt_of_cell? w _ hx103_7)).trans hx103_7
           have HR103_7 := Aside0.mk hi103_7
           have HC103_7 := Aside0.mk hl103_7
           clear hi103_7 hl103_7
           replace p103 := eq_true p103
           replace q103 := eq_true q103
           have p104 : 0 ≤ (x67_2 : Int) := of_decide_eq_true (by first | (with_reducible assumption) | assumption)
           have q104 : x67_2 < (l1_7.length : Int) := of_decide_eq_true (by first | (with_reducible assumption) | assumption)
           obtain ⟨ad104, A104_7, c104_7, e104, hx104_0, hx104_1, hx104_2, hx104_3, hx104_4, hx104_5, hx104_6, hx104_7, hl104_7, hi104_7⟩ := at_T40 HR1_7.out x67_2 p104 q104
           have hw104_7 := hx104_7
           have hw104_6 := hx104_6
           have hw104_5 := hx104_5
           have hw104_4 := hx104_4
           have hw104_3 := hx104_3
           have hw104_2 := hx104_2
           have hw104_1 := hx104_1
           have hw104_0 := hx104_0
           cases e104
           replace hx104_0 := (HB.out.cell (World.block_lt_of_cell? w _ hx104_0)).trans hx104_0
           replace hx104_1 := (HB.out.cell (World.block_lt_of_cell? w _ hx104_1)).trans hx104_1
           replace hx104_2 := (HB.out.cell (World.block_lt_of_cell? w _ hx104_2)).trans hx104_2
           replace hx104_3 := (HB.out.cell (World.block_lt_of_cell? w _ hx104_3)).trans hx104_3
           replace hx104_4 := (HB.out.cell (World.block_lt_of_cell? w _ hx104_4)).trans hx104_4
           replace hx104_5 := (HB.out.cell (World.block_lt_of_cell? w _ hx104_5)).trans hx104_5
           replace hx104_6 := (HB.out.cell (World.block_lt_of_cell? w _ hx104_6)).trans hx104_6
           replace hx104_7 := (HB.out.cell (World.block_lt_of_cell? w _ hx104_7)).trans hx104_7
           have HR104_7 := Aside0.mk hi104_7
           have HC104_7 := Aside0.mk hl104_7
           clear hi104_7 hl104_7
           replace p104 := eq_true p104
           replace q104 := eq_true q104
           refine start_ (n := 12) (S := fun w' => w'.cell? ⟨gb101, 0, none⟩ = some (.string a0_0) ∧ w'.cell? ⟨gb101, 1, none⟩ = some (.int .i64 a0_1) ∧ w'.cell? ⟨gb101, 2, none⟩ = some (.bool a0_2) ∧ w'.cell? ⟨gb101, 3, none⟩ = some (.int .i64 a0_3) ∧ w'.cell? ⟨gb101, 4, none⟩ = some (.int .u64 a0_4) ∧ w'.cell? ⟨gb101, 5, none⟩ = some (.float .f64 a0_5) ∧ w'.cell? ⟨gb101, 6, none⟩ = some (.string a0_6) ∧ w'.cell? ⟨gb101, 7, none⟩ = some (.slice (some ad103) l0_7.length c0_7) ∧ w'.cell? ⟨gb102, 0, none⟩ = some (.string a1_0) ∧ w'.cell? ⟨gb102, 1, none⟩ = some (.int .i64 a1_1) ∧ w'.cell? ⟨gb102, 2, none⟩ = some (.bool a1_2) ∧ w'.cell? ⟨gb102, 3, none⟩ = some (.int .i64 a1_3) ∧ w'.cell? ⟨gb102, 4, none⟩ = some (.int .u64 a1_4) ∧ w'.cell? ⟨gb102, 5, none⟩ = some (.float .f64 a1_5) ∧ w'.cell? ⟨gb102, 6, none⟩ = some (.string a1_6) ∧ w'.cell? ⟨gb102, 7, none⟩ = some (.slice (some ad104) l1_7.length c1_7) ∧ w'.cell? (ad103.add ((x67_2).toNat * 8)) = some (.string ((rd_T40 l0_7 x67_2).f0)) ∧ w'.cell? ⟨(ad103.add ((x67_2).toNat * 8)).block, (ad103.add ((x67_2).toNat * 8)).off + 1, none⟩ = some (.int .i64 ((rd_T40 l0_7 x67_2).f1)) ∧ w'.cell? ⟨(ad103.add ((x67_2).toNat * 8)).block, (ad103.add ((x67_2).toNat * 8)).off + 2, none⟩ = some (.bool ((rd_T40 l0_7 x67_2).f2)) ∧ w'.cell? ⟨(ad103.add ((x67_2).toNat * 8)).block, (ad103.add ((x67_2).toNat * 8)).off + 3, none⟩ = some (.int .i64 ((rd_T40 l0_7 x67_2).f3)) ∧ w'.cell? ⟨(ad103.add ((x67_2).toNat * 8)).block, (ad103.add ((x67_2).toNat * 8)).off + 4, none⟩ = some (.int .u64 ((rd_T40 l0_7 x67_2).f4)) ∧ w'.cell? ⟨(ad103.add ((x67_2).toNat * 8)).block, (ad103.add ((x67_2).toNat * 8)).off + 5, none⟩ = some (.float .f64 ((rd_T40 l0_7 x67_2).f5)) ∧ w'.cell? ⟨(ad103.add ((x67_2).toNat * 8)).block, (ad103.add ((x67_2).toNat * 8)).off + 6, none⟩ = some (.string ((rd_T40 l0_7 x67_2).f6)) ∧ w'.cell? ⟨(ad103.add ((x67_2).toNat * 8)).block, (ad103.add ((x67_2).toNat * 8)).off + 7, none⟩ = some (.slice A103_7 ((rd_T40 l0_7 x67_2).f7).length c103_7) ∧ w'.cell? (ad104.add ((x67_2).toNat * 8)) = some (.string ((rd_T40 l1_7 x67_2).f0)) ∧ w'.cell? ⟨(ad104.add ((x67_2).toNat * 8)).block, (ad104.add ((x67_2).toNat * 8)).off + 1, none⟩ = some (.int .i64 ((rd_T40 l1_7 x67_2).f1)) ∧ w'.cell? ⟨(ad104.add ((x67_2).toNat * 8)).block, (ad104.add ((x67_2).toNat * 8)).off + 2, none⟩ = some (.bool ((rd_T40 l1_7 x67_2).f2)) ∧ w'.cell? ⟨(ad104.add ((x67_2).toNat * 8)).block, (ad104.add ((x67_2).toNat * 8)).off + 3, none⟩ = some (.int .i64 ((rd_T40 l1_7 x67_2).f3)) ∧ w'.cell? ⟨(ad104.add ((x67_2).toNat * 8)).block, (ad104.add ((x67_2).toNat * 8)).off + 4, none⟩ = some (.int .u64 ((rd_T40 l1_7 x67_2).f4)) ∧ w'.cell? ⟨(ad104.add ((x67_2).toNat * 8)).block, (ad104.add ((x67_2).toNat * 8)).off + 5, none⟩ = some (.float .f64 ((rd_T40 l1_7 x67_2).f5)) ∧ w'.cell? ⟨(ad104.add ((x67_2).toNat * 8)).block, (ad104.add ((x67_2).toNat * 8)).off + 6, none⟩ = some (.string ((rd_T40 l1_7 x67_2).f6)) ∧ w'.cell? ⟨(ad104.add ((x67_2).toNat * 8)).block, (ad104.add ((x67_2).toNat * 8)).off + 7, none⟩ = some (.slice A104_7 ((rd_T40 l1_7 x67_2).f7).length c104_7)) (ds := []) (tfA 0 12) (by kernel_rfl) rfl rfl ⟨(blk_cell BK101.out 0).trans rfl, (blk_cell BK101.out 1).trans rfl, (blk_cell BK101.out 2).trans rfl, (blk_cell BK101.out 3).trans rfl, (blk_cell BK101.out 4).trans rfl, (blk_cell BK101.out 5).trans rfl, (blk_cell BK101.out 6).trans rfl, (blk_cell BK101.out 7).trans rfl, (blk_cell BK102.out 0).trans rfl, (blk_cell BK102.out 1).trans rfl, (blk_cell BK102.out 2).trans rfl, (blk_cell BK102.out 3).trans rfl, (blk_cell BK102.out 4).trans rfl, (blk_cell BK102.out 5).trans rfl, (blk_cell BK102.out 6).trans rfl, (blk_cell BK102.out 7).trans rfl, ((HB.out.cell (World.block_lt_of_cell? w _ hw103_0)).trans hw103_0), ((HB.out.cell (World.block_lt_of_cell? w _ hw103_1)).trans hw103_1), ((HB.out.cell (World.block_lt_of_cell? w _ hw103_2)).trans hw103_2), ((HB.out.cell (World.block_lt_of_cell? w _ hw103_3)).trans hw103_3), ((HB.out.cell (World.block_lt_of_cell? w _ hw103_4)).trans hw103_4), ((HB.out.cell (World.block_lt_of_cell? w _ hw103_5)).trans hw103_5), ((HB.out.cell (World.block_lt_of_cell? w _ hw103_6)).trans hw103_6), ((HB.out.cell (World.block_lt_of_cell? w _ hw103_7)).trans hw103_7), ((HB.out.cell (World.block_lt_of_cell? w _ hw104_0)).trans hw104_0), ((HB.out.cell (World.block_lt_of_cell? w _ hw104_1)).trans hw104_1), ((HB.out.cell (World.block_lt_of_cell? w _ hw104_2)).trans hw104_2), ((HB.out.cell (World.block_lt_of_cell? w _ hw104_3)).trans hw104_3), ((HB.out.cell (World.block_lt_of_cell? w _ hw104_4)).trans hw104_4), ((HB.out.cell (World.block_lt_of_cell? w _ hw104_5)).trans hw104_5), ((HB.out.cell (World.block_lt_of_cell? w _ hw104_6)).trans hw104_6), ((HB.out.cell (World.block_lt_of_cell? w _ hw104_7)).trans hw104_7)⟩ (fun hHeld => ?_); refine with_tabW spec_SameNode.tab6 spec_SameNode.bits6 (fun HT_ HW_ => ?_)
           generalize wr.drew = w26 at BK101 BK102 HB HR103_7 HR104_7 hx103_0 hx103_1 hx103_2 hx103_3 hx103_4 hx103_5 hx103_6 hx103_7 hx104_0 hx104_1 hx104_2 hx104_3 hx104_4 hx104_5 hx104_6 hx104_7 hHeld ⊢
           refine pure_ (i := 0) (N := some 70) (v := ?_) (a' := ?_) (tfA 1 11) rfl rfl (any_of HT_.out (by kernel_rfl)) (fun _ _ _ h => h) (Or.inl ⟨by rfl, ?_⟩) ?_ ?_
           rotate_left
           ·intro w'
            go_simp
            with_reducible rfl
           rotate_left
           ·simp only [Act.put, sA, s0, s1, i64_w, i32_w]
            rfl
           refine pure_ (i := 2) (N := some 72) (v := ?_) (a' := ?_) (bnA 12 5) rfl rfl (any_of HT_.out (by kernel_rfl)) (fun _ _ _ h => h) (Or.inl ⟨by rfl, ?_⟩) ?_ ?_
           rotate_left
           ·intro w'
            go_simp
            with_reducible rfl
           rotate_left
           ·simp only [Act.put, sA, s0, s1, i64_w, i32_w]
            rfl
           refine pure_ (i := 5) (N := some 75) (v := ?_) (a' := ?_) (bnA 12 37) rfl rfl (any_of HT_.out (by kernel_rfl)) (fun _ _ _ h => h) (Or.inl ⟨by rfl, ?_⟩) ?_ ?_
           rotate_left
           ·intro w'
            go_simp
            with_reducible rfl
           rotate_left
           ·simp only [Act.put, sA, s0, s1, i64_w, i32_w]
            rfl
           refine pure_ (i := 7) (N := some 77) (v := ?_) (a' := ?_) (bnA 12 165) rfl rfl (any_of HT_.out (by kernel_rfl)) (fun _ _ _ h => h) (Or.inl ⟨by rfl, ?_⟩) ?_ ?_
           rotate_left
           ·intro w'
            go_simp
            with_reducible rfl
           rotate_left
           ·simp only [Act.put, sA, s0, s1, i64_w, i32_w]
            rfl
           refine take_ (i := 1) (N := some 71) (v := ?_) (a' := ?_) (bnA 12 167) rfl rfl (take_ofW HT_.out HW_.out (by kernel_rfl)) (fun _ _ _ h => h) (Or.inl ⟨by rfl, ?_⟩) hHeld ?_ ?_
           rotate_left
           ·rintro w' ⟨s0, s1, s2, s3, s4, s5, s6, s7, s8, s9, s10, s11, s12, s13, s14, s15, s16, s17, s18, s19, s20, s21, s22, s23, s24, s25, s26, s27, s28, s29, s30, s31⟩
            go_simp
            with_reducible rfl
           rotate_left
           ·simp only [Act.put, sA, s0, s1, i64_w, i32_w]
            rfl
           refine pure_ (i := 3) (N := some 73) (v := ?_) (a' := ?_) (bnA 12 175) rfl rfl (any_of HT_.out (by kernel_rfl)) (fun _ _ _ h => h) (Or.inl ⟨by rfl, ?_⟩) ?_ ?_
           rotate_left
           ·intro w'
            go_simp
            with_reducible rfl
           rotate_left
           ·simp only [Act.put, sA, s0, s1, i64_w, i32_w]
            rfl
           refine take_ (i := 4) (N := some 74) (v := ?_) (a' := ?_) (bnA 12 191) rfl rfl (take_ofW HT_.out HW_.out (by kernel_rfl)) (fun _ _ _ h => h) (Or.inl ⟨by rfl, ?_⟩) hHeld ?_ ?_
           rotate_left
           ·rintro w' ⟨s0, s1, s2, s3, s4, s5, s6, s7, s8, s9, s10, s11, s12, s13, s14, s15, s16, s17, s18, s19, s20, s21, s22, s23, s24, s25, s26, s27, s28, s29, s30, s31⟩
            go_simp
            with_reducible rfl
           rotate_left
           ·simp only [Act.put, sA, s0, s1, i64_w, i32_w]
            rfl
           refine take_ (i := 6) (N := some 76) (v := ?_) (a' := ?_) (tfA 8 4) rfl rfl (take_ofW HT_.out HW_.out (by kernel_rfl)) (fun _ _ _ h => h) (Or.inl ⟨by rfl, ?_⟩) hHeld ?_ ?_
           rotate_left
           ·rintro w' ⟨s0, s1, s2, s3, s4, s5, s6, s7, s8, s9, s10, s11, s12, s13, s14, s15, s16, s17, s18, s19, s20, s21, s22, s23, s24, s25, s26, s27, s28, s29, s30, s31⟩
            go_simp
            with_reducible rfl
           rotate_left
           ·simp only [Act.put, sA, s0, s1, i64_w, i32_w]
            rfl
           refine pure_ (i := 8) (N := some 78) (v := ?_) (a' := ?_) (tfA 9 3) rfl rfl (any_of HT_.out (by kernel_rfl)) (fun _ _ _ h => h) (Or.inl ⟨by rfl, ?_⟩) ?_ ?_
           rotate_left
           ·intro w'
            go_simp
            with_reducible rfl
           rotate_left
           ·simp only [Act.put, sA, s0, s1, i64_w, i32_w]
            rfl
           refine take_ (i := 9) (N := some 79) (v := ?_) (a' := ?_) (tfA 10 2) rfl rfl (take_ofW HT_.out HW_.out (by kernel_rfl)) (fun _ _ _ h => h) (Or.inl ⟨by rfl, ?_⟩) hHeld ?_ ?_
           rotate_left
           ·rintro w' ⟨s0, s1, s2, s3, s4, s5, s6, s7, s8, s9, s10, s11, s12, s13, s14, s15, s16, s17, s18, s19, s20, s21, s22, s23, s24, s25, s26, s27, s28, s29, s30, s31⟩
            go_simp
            with_reducible rfl
           rotate_left
           ·simp only [Act.put, sA, s0, s1, i64_w, i32_w]
            rfl
           refine one_ (i := 10) (N := some 80) (tfA 11 1) rfl rfl (one_of HT_.out (by kernel_rfl)) (by decide) (fun K hK => ?_)
           refine goes_ Tryz.func37 (by kernel_rfl) rfl #[.agg #[.string ((rd_T40 l0_7 x67_2).f0), .int .i64 ((rd_T40 l0_7 x67_2).f1), .bool ((rd_T40 l0_7 x67_2).f2), .int .i64 ((rd_T40 l0_7 x67_2).f3), .int .u64 ((rd_T40 l0_7 x67_2).f4), .float .f64 ((rd_T40 l0_7 x67_2).f5), .string ((rd_T40 l0_7 x67_2).f6), .slice A103_7 ((rd_T40 l0_7 x67_2).f7).length c103_7], .agg #[.string ((rd_T40 l1_7 x67_2).f0), .int .i64 ((rd_T40 l1_7 x67_2).f1), .bool ((rd_T40 l1_7 x67_2).f2), .int .i64 ((rd_T40 l1_7 x67_2).f3), .int .u64 ((rd_T40 l1_7 x67_2).f4), .float .f64 ((rd_T40 l1_7 x67_2).f5), .string ((rd_T40 l1_7 x67_2).f6), .slice A104_7 ((rd_T40 l1_7 x67_2).f7).length c104_7]] (by rfl) rfl rfl (by (try simp only [List.map_toArray, List.map_cons, List.map_nil]); first | done | rfl | (simp only [List.length_drop, List.length_take]; rfl)) ?_
           with_reducible refine (ih k2 (by have := HJ2.out; have := HK2.out; omega) ((rd_T40 l0_7 x67_2).f0) ((rd_T40 l0_7 x67_2).f1) ((rd_T40 l0_7 x67_2).f2) ((rd_T40 l0_7 x67_2).f3) ((rd_T40 l0_7 x67_2).f4) ((rd_T40 l0_7 x67_2).f5) ((rd_T40 l0_7 x67_2).f6) _ _ ((rd_T40 l0_7 x67_2).f7) ((rd_T40 l1_7 x67_2).f0) ((rd_T40 l1_7 x67_2).f1) ((rd_T40 l1_7 x67_2).f2) ((rd_T40 l1_7 x67_2).f3) ((rd_T40 l1_7 x67_2).f4) ((rd_T40 l1_7 x67_2).f5) ((rd_T40 l1_7 x67_2).f6) _ _ ((rd_T40 l1_7 x67_2).f7) false _ ?side1 ?side2 ?side3 ?side4 A22.out).mono ?_
           (case side1 => repeat (first | exact (Kd.C_below HR103_7.out HB.out) | (with_reducible refine Kd.C_alloc ?_ _) | (with_reducible refine Kd.C_drewN ?_ _) | (with_reducible refine Kd.C_drew ?_)))
           (case side2 => exact HC103_7.out)
           (case side3 => repeat (first | exact (Kd.C_below HR104_7.out HB.out) | (with_reducible refine Kd.C_alloc ?_ _) | (with_reducible refine Kd.C_drewN ?_ _) | (with_reducible refine Kd.C_drew ?_)))
           (case side4 => exact HC104_7.out)
           rintro e w27 ⟨rfl, hb⟩
           refine ⟨_, rfl, ?_⟩
           have n0_ := Aside0.mk (blk_below (g := gb101) (o := .cells #[.string a0_0, .int .i64 a0_1, .bool a0_2, .int .i64 a0_3, .int .u64 a0_4, .float .f64 a0_5, .string a0_6, .slice (some ad103) l0_7.length c0_7] 40 (0, 0)) (by refine bY ?_; exact BK101.out) hb)
           have n1_ := Aside0.mk (blk_below (g := gb102) (o := .cells #[.string a1_0, .int .i64 a1_1, .bool a1_2, .int .i64 a1_3, .int .u64 a1_4, .float .f64 a1_5, .string a1_6, .slice (some ad104) l1_7.length c1_7] 40 (0, 0)) (by refine bY ?_; exact BK102.out) hb)
           have n2_ := Aside0.mk (below_step belS hb)
           clear BK101
           clear BK102
           clear HB
           have BK101 := n0_
           have BK102 := n1_
           have HB := n2_
           clear n0_ n1_ n2_
           (try clear hb)
           (try clear hb2)
           (try clear hk)
           (try clear hi)
           refine hK.out _ _ ⟨(blk_cell BK101.out 0).trans rfl, (blk_cell BK101.out 1).trans rfl, (blk_cell BK101.out 2).trans rfl, (blk_cell BK101.out 3).trans rfl, (blk_cell BK101.out 4).trans rfl, (blk_cell BK101.out 5).trans rfl, (blk_cell BK101.out 6).trans rfl, (blk_cell BK101.out 7).trans rfl, (blk_cell BK102.out 0).trans rfl, (blk_cell BK102.out 1).trans rfl, (blk_cell BK102.out 2).trans rfl, (blk_cell BK102.out 3).trans rfl, (blk_cell BK102.out 4).trans rfl, (blk_cell BK102.out 5).trans rfl, (blk_cell BK102.out 6).trans rfl, (blk_cell BK102.out 7).trans rfl, ((HB.out.cell (World.block_lt_of_cell? w _ hw103_0)).trans hw103_0), ((HB.out.cell (World.block_lt_of_cell? w _ hw103_1)).trans hw103_1), ((HB.out.cell (World.block_lt_of_cell? w _ hw103_2)).trans hw103_2), ((HB.out.cell (World.block_lt_of_cell? w _ hw103_3)).trans hw103_3), ((HB.out.cell (World.block_lt_of_cell? w _ hw103_4)).trans hw103_4), ((HB.out.cell (World.block_lt_of_cell? w _ hw103_5)).trans hw103_5), ((HB.out.cell (World.block_lt_of_cell? w _ hw103_6)).trans hw103_6), ((HB.out.cell (World.block_lt_of_cell? w _ hw103_7)).trans hw103_7), ((HB.out.cell (World.block_lt_of_cell? w _ hw104_0)).trans hw104_0), ((HB.out.cell (World.block_lt_of_cell? w _ hw104_1)).trans hw104_1), ((HB.out.cell (World.block_lt_of_cell? w _ hw104_2)).trans hw104_2), ((HB.out.cell (World.block_lt_of_cell? w _ hw104_3)).trans hw104_3), ((HB.out.cell (World.block_lt_of_cell? w _ hw104_4)).trans hw104_4), ((HB.out.cell (World.block_lt_of_cell? w _ hw104_5)).trans hw104_5), ((HB.out.cell (World.block_lt_of_cell? w _ hw104_6)).trans hw104_6), ((HB.out.cell (World.block_lt_of_cell? w _ hw104_7)).trans hw104_7)⟩ (fun hHeld => ?_)
           clear hK K
           refine norm_ (a' := ?_) ?_ ?_
           rotate_left
           ·show Act.put _ (some 80) _ = _
            simp only [Act.put, sA, s0, s1, i64_w, i32_w]
            rfl
           refine pure_ (i := 11) (N := some 81) (v := ?_) (a' := ?_) (tfA 12 0) rfl rfl (any_of HT_.out (by kernel_rfl)) (fun _ _ _ h => h) (Or.inl ⟨by rfl, ?_⟩) ?_ ?_
           rotate_left
           ·intro w'
            go_simp
            with_reducible rfl
           rotate_left
           ·simp only [Act.put, sA, s0, s1, i64_w, i32_w]
            rfl
           refine done_ (done_of HT_.out (by kernel_rfl)) ?_
           try go_wp2
           go_ret
           exact ⟨by first | rfl | (simp [errW_none, errW_some] <;> rfl) | (simp [*, errW_none, errW_some] <;> rfl), by repeat (first | (with_reducible first | exact HB.out | apply below_alloc | apply pw_below_drewN | apply below_drew1 | refine below_set ?_ GE101.out | refine below_set ?_ GE102.out) | exact HB.out)⟩
         ·rw [if_neg c21] at H
          exact absurd H (by simp)
        ·rw [if_neg c20] at H
         exact absurd H (by simp)
       ·rw [if_neg c19] at H
        exact absurd H (by simp)
      ·rw [if_neg c18] at H
       have c18b0 : decide (x67_2 < (l0_7.length : Int)) = false := decide_eq_false c18
       clear c18
       obtain rfl := Option.some.inj H
       go_wp2
       go_ret
       exact ⟨by first | rfl | (simp [errW_none, errW_some] <;> rfl) | (simp [*, errW_none, errW_some] <;> rfl), by repeat (first | (with_reducible first | exact HB.out | apply below_alloc | apply pw_below_drewN | apply below_drew1 | refine below_set ?_ GE101.out | refine below_set ?_ GE102.out) | exact HB.out)⟩

end Go.Proofs.YtdmpbaanonafbaaGreatDoor.V
