import Derived.Test.YtdmpbaanonafbaaGreatDoorProg
import Derived.Below
import Derived.Deep.Draws
import Derived.Deep.AppendLies
import Derived.Maps.AppendAt
import Derived.OwnWalk
import Derived.Laws.BytesArg
import Derived.Laws.MakeOwn
import Derived.Laws.OwnMore
import Derived.Deep.OwnRows
import Derived.Tactics
import Derived.Lib.ConvBytes
import Derived.Laws.Slices
import Derived.WalkKit
import Derived.KernelRfl
import Derived.RowKit3
import Derived.Deep.LoopGhost
import Derived.Deep.QuietTactic
import Derived.BigQuiet
import Derived.WideLaws
import Derived.Deep.DeepCutAuto
import Derived.Deep.CutBlock
import Derived.Deep.RegionHeld3
import Derived.Laws.Rows
import Derived.Lib.AppendStr
import Derived.ArgAppend
import Derived.Laws.IdiomCopy
import Derived.OrdersHeld
import Derived.Laws.BitsLemmas
import Derived.RowKit
import Derived.Test.YtdmpbaanonafbaaGreatDoorSq
import Derived.Test.YtdmpbaanonafbaaGreatDoorFlt
import Derived.Test.YtdmpbaanonafbaaGreatDoorGivZ
import Derived.Test.YtdmpbaanonafbaaGreatDoorE0
import Derived.Test.YtdmpbaanonafbaaGreatDoorGoesV
import Derived.Test.YtdmpbaanonafbaaGreatDoorWWords
import Derived.Test.YtdmpbaanonafbaaGreatDoorWLast
import Derived.Test.YtdmpbaanonafbaaGreatDoorWTab
import Derived.Test.YtdmpbaanonafbaaGreatDoorWApart
import Derived.Test.YtdmpbaanonafbaaGreatDoorWArr
import Derived.Test.YtdmpbaanonafbaaGreatDoorWZeros
import Derived.Test.YtdmpbaanonafbaaGreatDoorWFoot
import Derived.Test.YtdmpbaanonafbaaGreatDoorWKept
import Derived.Test.YtdmpbaanonafbaaGreatDoorWShare
import Derived.Test.YtdmpbaanonafbaaGreatDoorWN
import Derived.Test.YtdmpbaanonafbaaGreatDoorWRepsOne
import Derived.Test.YtdmpbaanonafbaaGreatDoorWGuard
import Derived.Test.YtdmpbaanonafbaaGreatDoorWMore
-- written by a program of this session (wip/tools/pp.py)
namespace Go.Proofs.YtdmpbaanonafbaaGreatDoor.H
open Go.RowKit Go.Proofs.YtdmpbaanonafbaaGreatDoorW.PrintWords Go.Proofs.YtdmpbaanonafbaaGreatDoorW.PrintLast Go.Proofs.YtdmpbaanonafbaaGreatDoor.Flt Go.Proofs.YtdmpbaanonafbaaGreatDoor.GivZ Go.Proofs.YtdmpbaanonafbaaGreatDoor.E Go.Proofs.YtdmpbaanonafbaaGreatDoorW.PrintMore
attribute [local go_sem] max2_int min2_int max_two min_two max_three min_three max_four min_four   -- for this text's walks alone
set_option linter.unusedVariables false
set_option linter.unusedSimpArgs false




theorem info35 : (Tryz.prog.info? 35).map (fun i => (i.zero, i.size, i.bytes)) = some (some (.agg #[(.string ⟨#[]⟩), (.int .i64 0), (.bool false), (.int .i64 0), (.int .u64 0), (.float .f64 0), (.string ⟨#[]⟩), (.slice none 0 0)]), 8, 96) := by kernel_rfl
-- the values' own types
/-! #### struct type 35, nested in itself -/
structure S142 where
 f0 : ByteArray
 f1 : Int
 f2 : Int
 f3 : Int
def z142 : S142 := ⟨(⟨#[]⟩ : ByteArray), (0 : Int), (0 : Int), (0 : Int)⟩
def k142 : Kd S142 := Kd.iso (Kd.pair Kd.string (Kd.pair (Kd.int .i64) (Kd.pair (Kd.int .i64) (Kd.int .i64)))) (fun x : S142 => (x.f0, x.f1, x.f2, x.f3))
theorem k142_open {w : World} {x : S142} {cs : List Value} (h : k142.K w x cs) : cs = [.string x.f0, .int .i64 x.f1, .int .i64 x.f2, .int .i64 x.f3] := by
 obtain ⟨_, _, rfl, rfl, ⟨_, _, rfl, rfl, ⟨_, _, rfl, rfl, rfl⟩⟩⟩ := h
 exact rfl
theorem k142_mkM (w : World) (base : Nat) (ok : Nat → Prop) (x : S142)  : k142.M w base ok x [.string x.f0, .int .i64 x.f1, .int .i64 x.f2, .int .i64 x.f3] := ⟨[.string x.f0], [.int .i64 x.f1, .int .i64 x.f2, .int .i64 x.f3], rfl, rfl, ⟨[.int .i64 x.f1], [.int .i64 x.f2, .int .i64 x.f3], rfl, rfl, ⟨[.int .i64 x.f2], [.int .i64 x.f3], rfl, rfl, rfl⟩⟩⟩
def rd_T142 (xs : List S142) (i : Int) : S142 := xs.getD i.toNat z142
theorem at_T142 {w : World} {A : Option Addr} {n : Nat} {xs : List S142} (h : Kd.C k142 w A n xs) (i : Int) (h0 : 0 ≤ i) (h1 : i < n) : ∃ ad , A = some ad ∧ w.cell? (ad.add (i.toNat * 4)) = some (.string (rd_T142 xs i).f0) ∧ w.cell? ⟨(ad.add (i.toNat * 4)).block, (ad.add (i.toNat * 4)).off + 1, none⟩ = some (.int .i64 (rd_T142 xs i).f1) ∧ w.cell? ⟨(ad.add (i.toNat * 4)).block, (ad.add (i.toNat * 4)).off + 2, none⟩ = some (.int .i64 (rd_T142 xs i).f2) ∧ w.cell? ⟨(ad.add (i.toNat * 4)).block, (ad.add (i.toNat * 4)).off + 3, none⟩ = some (.int .i64 (rd_T142 xs i).f3) := by
 obtain ⟨ad, c, e, _, hK, hc0⟩ := Kd.C_get h z142 i h0 h1
 have hc : ∀ j u, c[j]? = some u → w.cell? (ad.add (i.toNat * 4 + j)) = some u := hc0
 obtain rfl := k142_open hK
 exact ⟨ad, e, hc 0 _ rfl, by rw [← add_field _ _ 1 (by omega)]; exact hc 1 _ rfl, by rw [← add_field _ _ 2 (by omega)]; exact hc 2 _ rfl, by rw [← add_field _ _ 3 (by omega)]; exact hc 3 _ rfl⟩

end Go.Proofs.YtdmpbaanonafbaaGreatDoor.H

-- written by a program of this session (wip/tools/pp.py)
namespace Go.Proofs.YtdmpbaanonafbaaGreatDoor.H
open Go.RowKit Go.Proofs.YtdmpbaanonafbaaGreatDoorW.PrintWords Go.Proofs.YtdmpbaanonafbaaGreatDoorW.PrintLast Go.Proofs.YtdmpbaanonafbaaGreatDoor.Flt Go.Proofs.YtdmpbaanonafbaaGreatDoor.GivZ Go.Proofs.YtdmpbaanonafbaaGreatDoor.E Go.Proofs.YtdmpbaanonafbaaGreatDoorW.PrintMore
attribute [local go_sem] max2_int min2_int max_two min_two max_three min_three max_four min_four   -- for this text's walks alone
set_option linter.unusedVariables false
set_option linter.unusedSimpArgs false

/-! ### impl_procfsCgroupSummary: function 113 -/
def impl_procfsCgroupSummary.f (a0 : ByteArray) (a1_0 : ByteArray) (a1_1 : Int) (a1_2 : Int) (a1_3 : Int) : Option (ByteArray × Int × Bool × Int × Int × Nat × ByteArray × (List (S35))) := if ([] : List (S35)).length < 1466015503701 then ((some (([] : List (S35)) ++ [(⟨(⟨#[83, 117, 98, 115, 121, 115, 78, 97, 109, 101]⟩ : ByteArray), 5, false, 0, 0, 0, a1_0, ([] : List (S35))⟩ : S35)] : List (S35))).bind fun y104 => (if y104.length < 1466015503701 then ((some (y104 ++ [(⟨(⟨#[72, 105, 101, 114, 97, 114, 99, 104, 121]⟩ : ByteArray), 2, false, a1_1, 0, 0, (⟨#[]⟩ : ByteArray), ([] : List (S35))⟩ : S35)] : List (S35))).bind fun y107 => (if y107.length < 1466015503701 then ((some (y107 ++ [(⟨(⟨#[67, 103, 114, 111, 117, 112, 115]⟩ : ByteArray), 2, false, a1_2, 0, 0, (⟨#[]⟩ : ByteArray), ([] : List (S35))⟩ : S35)] : List (S35))).bind fun y110 => (if y110.length < 1466015503701 then (some (a0, 8, false, 0, 0, 0, (⟨#[]⟩ : ByteArray), (y110 ++ [(⟨(⟨#[69, 110, 97, 98, 108, 101, 100]⟩ : ByteArray), 2, false, a1_3, 0, 0, (⟨#[]⟩ : ByteArray), ([] : List (S35))⟩ : S35)]))) else (none))) else (none))) else (none))) else (none)
set_option maxHeartbeats 8000000 in
set_option maxRecDepth 100000 in
theorem impl_procfsCgroupSummary.calls (a0 : ByteArray) (a1_0 : ByteArray) (a1_1 : Int) (a1_2 : Int) (a1_3 : Int) (r1 : ByteArray) (r2 : Int) (r3 : Bool) (r4 : Int) (r5 : Int) (r6 : Nat) (r7 : ByteArray) (r8 : List (S35)) (w : World) (h : impl_procfsCgroupSummary.f a0 a1_0 a1_1 a1_2 a1_3 = some (r1, r2, r3, r4, r5, r6, r7, r8)) :
  Calls Tryz.prog 113 #[.string a0, .agg #[.string a1_0, .int .i64 a1_1, .int .i64 a1_2, .int .i64 a1_3]] w fun e w' => ∃ v7_ : Value, e = .returned (.agg #[.string r1, .int .i64 r2, .bool r3, .int .i64 r4, .int .u64 r5, .float .f64 r6, .string r7, v7_]) ∧ Kd.R k35 35 w' w.heap.size (fun _ => True) v7_ r8 ∧ Below w.heap.size w w' := by
 have hu142 := Tryz.underlying142
 have hu35 := Tryz.underlying35
 have HB := Aside0.mk (Below.refl w.heap.size w)
 have H : (if ([] : List (S35)).length < 1466015503701 then ((some (([] : List (S35)) ++ [(⟨(⟨#[83, 117, 98, 115, 121, 115, 78, 97, 109, 101]⟩ : ByteArray), 5, false, 0, 0, 0, a1_0, ([] : List (S35))⟩ : S35)] : List (S35))).bind fun y104 => (if y104.length < 1466015503701 then ((some (y104 ++ [(⟨(⟨#[72, 105, 101, 114, 97, 114, 99, 104, 121]⟩ : ByteArray), 2, false, a1_1, 0, 0, (⟨#[]⟩ : ByteArray), ([] : List (S35))⟩ : S35)] : List (S35))).bind fun y107 => (if y107.length < 1466015503701 then ((some (y107 ++ [(⟨(⟨#[67, 103, 114, 111, 117, 112, 115]⟩ : ByteArray), 2, false, a1_2, 0, 0, (⟨#[]⟩ : ByteArray), ([] : List (S35))⟩ : S35)] : List (S35))).bind fun y110 => (if y110.length < 1466015503701 then (some (a0, 8, false, 0, 0, 0, (⟨#[]⟩ : ByteArray), (y110 ++ [(⟨(⟨#[69, 110, 97, 98, 108, 101, 100]⟩ : ByteArray), 2, false, a1_3, 0, 0, (⟨#[]⟩ : ByteArray), ([] : List (S35))⟩ : S35)]))) else (none))) else (none))) else (none))) else (none)) = some (r1, r2, r3, r4, r5, r6, r7, r8) := h
 clear h
 by_cases c3 : ([] : List (S35)).length < 1466015503701
 ·rw [if_pos c3] at H
  have LMc3 := Aside0.mk c3
  clear c3
  obtain ⟨y104, hy104⟩ : ∃ y_ : List (S35), y_ = (([] : List (S35)) ++ [(⟨(⟨#[83, 117, 98, 115, 121, 115, 78, 97, 109, 101]⟩ : ByteArray), 5, false, 0, 0, 0, a1_0, ([] : List (S35))⟩ : S35)]) := ⟨_, rfl⟩
  replace H : (if y104.length < 1466015503701 then ((some (y104 ++ [(⟨(⟨#[72, 105, 101, 114, 97, 114, 99, 104, 121]⟩ : ByteArray), 2, false, a1_1, 0, 0, (⟨#[]⟩ : ByteArray), ([] : List (S35))⟩ : S35)] : List (S35))).bind fun y107 => (if y107.length < 1466015503701 then ((some (y107 ++ [(⟨(⟨#[67, 103, 114, 111, 117, 112, 115]⟩ : ByteArray), 2, false, a1_2, 0, 0, (⟨#[]⟩ : ByteArray), ([] : List (S35))⟩ : S35)] : List (S35))).bind fun y110 => (if y110.length < 1466015503701 then (some (a0, 8, false, 0, 0, 0, (⟨#[]⟩ : ByteArray), (y110 ++ [(⟨(⟨#[69, 110, 97, 98, 108, 101, 100]⟩ : ByteArray), 2, false, a1_3, 0, 0, (⟨#[]⟩ : ByteArray), ([] : List (S35))⟩ : S35)]))) else (none))) else (none))) else (none)) = some (r1, r2, r3, r4, r5, r6, r7, r8) := by first | (rw [hy104]; with_reducible exact H) | (have H2_ := (Option.bind_some _ _).symm.trans H; rw [hy104]; with_reducible exact H2_) | (have H2_ := (Option.bind_some _ _).symm.trans H; with_reducible exact H2_) | with_reducible exact H | (rw [hy104]; exact H) | exact H
  have Ny104 := Aside0.mk hy104
  clear hy104
  by_cases c4 : y104.length < 1466015503701
  ·rw [if_pos c4] at H
   have LMc4 := Aside0.mk c4
   clear c4
   obtain ⟨y107, hy107⟩ : ∃ y_ : List (S35), y_ = (y104 ++ [(⟨(⟨#[72, 105, 101, 114, 97, 114, 99, 104, 121]⟩ : ByteArray), 2, false, a1_1, 0, 0, (⟨#[]⟩ : ByteArray), ([] : List (S35))⟩ : S35)]) := ⟨_, rfl⟩
   replace H : (if y107.length < 1466015503701 then ((some (y107 ++ [(⟨(⟨#[67, 103, 114, 111, 117, 112, 115]⟩ : ByteArray), 2, false, a1_2, 0, 0, (⟨#[]⟩ : ByteArray), ([] : List (S35))⟩ : S35)] : List (S35))).bind fun y110 => (if y110.length < 1466015503701 then (some (a0, 8, false, 0, 0, 0, (⟨#[]⟩ : ByteArray), (y110 ++ [(⟨(⟨#[69, 110, 97, 98, 108, 101, 100]⟩ : ByteArray), 2, false, a1_3, 0, 0, (⟨#[]⟩ : ByteArray), ([] : List (S35))⟩ : S35)]))) else (none))) else (none)) = some (r1, r2, r3, r4, r5, r6, r7, r8) := by first | (rw [hy107]; with_reducible exact H) | (have H2_ := (Option.bind_some _ _).symm.trans H; rw [hy107]; with_reducible exact H2_) | (have H2_ := (Option.bind_some _ _).symm.trans H; with_reducible exact H2_) | with_reducible exact H | (rw [hy107]; exact H) | exact H
   have Ny107 := Aside0.mk hy107
   clear hy107
   by_cases c5 : y107.length < 1466015503701
   ·rw [if_pos c5] at H
    have LMc5 := Aside0.mk c5
    clear c5
    obtain ⟨y110, hy110⟩ : ∃ y_ : List (S35), y_ = (y107 ++ [(⟨(⟨#[67, 103, 114, 111, 117, 112, 115]⟩ : ByteArray), 2, false, a1_2, 0, 0, (⟨#[]⟩ : ByteArray), ([] : List (S35))⟩ : S35)]) := ⟨_, rfl⟩
    replace H : (if y110.length < 1466015503701 then (some (a0, 8, false, 0, 0, 0, (⟨#[]⟩ : ByteArray), (y110 ++ [(⟨(⟨#[69, 110, 97, 98, 108, 101, 100]⟩ : ByteArray), 2, false, a1_3, 0, 0, (⟨#[]⟩ : ByteArray), ([] : List (S35))⟩ : S35)]))) else (none)) = some (r1, r2, r3, r4, r5, r6, r7, r8) := by first | (rw [hy110]; with_reducible exact H) | (have H2_ := (Option.bind_some _ _).symm.trans H; rw [hy110]; with_reducible exact H2_) | (have H2_ := (Option.bind_some _ _).symm.trans H; with_reducible exact H2_) | with_reducible exact H | (rw [hy110]; exact H) | exact H
    have Ny110 := Aside0.mk hy110
    clear hy110
    by_cases c6 : y110.length < 1466015503701
    ·rw [if_pos c6] at H
     have LMc6 := Aside0.mk c6
     clear c6
     obtain ⟨y113, hy113⟩ : ∃ y_ : List (S35), y_ = (y110 ++ [(⟨(⟨#[69, 110, 97, 98, 108, 101, 100]⟩ : ByteArray), 2, false, a1_3, 0, 0, (⟨#[]⟩ : ByteArray), ([] : List (S35))⟩ : S35)]) := ⟨_, rfl⟩
     replace H : (some (a0, 8, false, 0, 0, 0, (⟨#[]⟩ : ByteArray), y113)) = some (r1, r2, r3, r4, r5, r6, r7, r8) := by first | (rw [hy113]; with_reducible exact H) | (have H2_ := (Option.bind_some _ _).symm.trans H; rw [hy113]; with_reducible exact H2_) | (have H2_ := (Option.bind_some _ _).symm.trans H; with_reducible exact H2_) | with_reducible exact H | (rw [hy113]; exact H) | exact H
     have Ny113 := Aside0.mk hy113
     clear hy113
     simp only [Option.some.injEq, Prod.mk.injEq] at H
     obtain ⟨rfl, rfl, rfl, rfl, rfl, rfl, rfl, rfl⟩ := H
     go_enter Tryz.func113, Tryz.ntmps113
     go_wp2_with (first | ((with_reducible refine gate_dst (N := 3) rfl ?_); refine box_event ?hg (N := 3) ?hd (cs := #[.string a1_0, .int .i64 a1_1, .int .i64 a1_2, .int .i64 a1_3]) (t := 142) ?hr ?_; (case hd => rfl); (case hg => rfl); (case hr => first | (go_simp; done) | (go_simp; rfl)); intro gb101 hg w7 hbox hb; have n0_ := Aside0.mk (below_step belH hb); have n1_ := Aside0.mk (hbox); have n2_ := Aside0.mk ((by rw [hg]; exact (below_size belH) : w.heap.size ≤ gb101)); have n3_ := Aside0.mk ((by rw [hg]; exact (below_size belH) : w.heap.size ≤ gb101)); clear HB; have HB := n0_; have BK101 := n1_; have GW101 := n2_; have GE101 := n3_; clear n0_ n1_ n2_ n3_; clear hb hbox hg) | ((with_reducible refine gate_dst (N := 4) rfl ?_); refine box_event ?hg (N := 4) ?hd (cs := #[.string (⟨#[]⟩ : ByteArray), .int .i64 0, .bool false, .int .i64 0, .int .u64 0, .float .f64 0, .string (⟨#[]⟩ : ByteArray), .slice none 0 0]) (t := 35) ?hr ?_; (case hd => rfl); (case hg => rfl); (case hr => first | (go_simp; done) | (go_simp; rfl)); intro gb102 hg w8 hbox hb; have n0_ := Aside0.mk (blk_below (g := gb101) (o := .cells #[.string a1_0, .int .i64 a1_1, .int .i64 a1_2, .int .i64 a1_3] 142 (0, 0)) (by (with_reducible repeat (first | refine bN ?_ _ | refine bW ?_ | refine bA ?_ _)); exact BK101.out) hb); have n1_ := Aside0.mk (below_step belS hb); have n2_ := Aside0.mk (hbox); have n3_ := Aside0.mk ((by rw [hg]; exact (below_size belS) : w.heap.size ≤ gb102)); have n4_ := Aside0.mk ((by rw [hg]; exact (below_size belS) : w.heap.size ≤ gb102)); have n5_ := Aside0.mk ((by rw [hg]; exact Nat.ne_of_lt (blk_lt (g := gb101) (o := .cells #[.string a1_0, .int .i64 a1_1, .int .i64 a1_2, .int .i64 a1_3] 142 (0, 0)) (by (with_reducible repeat (first | refine bN ?_ _ | refine bW ?_ | refine bA ?_ _)); exact BK101.out)) : gb101 ≠ gb102)); have n6_ := Aside0.mk ((by rw [hg]; exact Nat.ne_of_gt (blk_lt (g := gb101) (o := .cells #[.string a1_0, .int .i64 a1_1, .int .i64 a1_2, .int .i64 a1_3] 142 (0, 0)) (by (with_reducible repeat (first | refine bN ?_ _ | refine bW ?_ | refine bA ?_ _)); exact BK101.out)) : gb102 ≠ gb101)); clear BK101; clear HB; have BK101 := n0_; have HB := n1_; have BK102 := n2_; have GW102 := n3_; have GE102 := n4_; have NB101_102 := n5_; have NB102_101 := n6_; clear n0_ n1_ n2_ n3_ n4_ n5_ n6_; clear hb hbox hg) | ((with_reducible refine gate_dst (N := 5) rfl ?_); refine box_event ?hg (N := 5) ?hd (cs := #[.string (⟨#[]⟩ : ByteArray), .int .i64 0, .bool false, .int .i64 0, .int .u64 0, .float .f64 0, .string (⟨#[]⟩ : ByteArray), .slice none 0 0]) (t := 35) ?hr ?_; (case hd => rfl); (case hg => rfl); (case hr => first | (go_simp; done) | (go_simp; rfl)); intro gb103 hg w9 hbox hb; have n0_ := Aside0.mk (blk_below (g := gb101) (o := .cells #[.string a1_0, .int .i64 a1_1, .int .i64 a1_2, .int .i64 a1_3] 142 (0, 0)) (by (with_reducible repeat (first | refine bN ?_ _ | refine bW ?_ | refine bA ?_ _)); exact BK101.out) hb); have n1_ := Aside0.mk (blk_below (g := gb102) (o := .cells #[.string (⟨#[]⟩ : ByteArray), .int .i64 0, .bool false, .int .i64 0, .int .u64 0, .float .f64 0, .string (⟨#[]⟩ : ByteArray), .slice none 0 0] 35 (0, 0)) (by (with_reducible repeat (first | refine bN ?_ _ | refine bW ?_ | refine bA ?_ _)); exact BK102.out) hb); have n2_ := Aside0.mk (below_step belS hb); have n3_ := Aside0.mk (hbox); have n4_ := Aside0.mk ((by rw [hg]; exact (below_size belS) : w.heap.size ≤ gb103)); have n5_ := Aside0.mk ((by rw [hg]; exact (below_size belS) : w.heap.size ≤ gb103)); have n6_ := Aside0.mk ((by rw [hg]; exact Nat.ne_of_lt (blk_lt (g := gb101) (o := .cells #[.string a1_0, .int .i64 a1_1, .int .i64 a1_2, .int .i64 a1_3] 142 (0, 0)) (by (with_reducible repeat (first | refine bN ?_ _ | refine bW ?_ | refine bA ?_ _)); exact BK101.out)) : gb101 ≠ gb103)); have n7_ := Aside0.mk ((by rw [hg]; exact Nat.ne_of_gt (blk_lt (g := gb101) (o := .cells #[.string a1_0, .int .i64 a1_1, .int .i64 a1_2, .int .i64 a1_3] 142 (0, 0)) (by (with_reducible repeat (first | refine bN ?_ _ | refine bW ?_ | refine bA ?_ _)); exact BK101.out)) : gb103 ≠ gb101)); have n8_ := Aside0.mk ((by rw [hg]; exact Nat.ne_of_lt (blk_lt (g := gb102) (o := .cells #[.string (⟨#[]⟩ : ByteArray), .int .i64 0, .bool false, .int .i64 0, .int .u64 0, .float .f64 0, .string (⟨#[]⟩ : ByteArray), .slice none 0 0] 35 (0, 0)) (by (with_reducible repeat (first | refine bN ?_ _ | refine bW ?_ | refine bA ?_ _)); exact BK102.out)) : gb102 ≠ gb103)); have n9_ := Aside0.mk ((by rw [hg]; exact Nat.ne_of_gt (blk_lt (g := gb102) (o := .cells #[.string (⟨#[]⟩ : ByteArray), .int .i64 0, .bool false, .int .i64 0, .int .u64 0, .float .f64 0, .string (⟨#[]⟩ : ByteArray), .slice none 0 0] 35 (0, 0)) (by (with_reducible repeat (first | refine bN ?_ _ | refine bW ?_ | refine bA ?_ _)); exact BK102.out)) : gb103 ≠ gb102)); clear BK101; clear BK102; clear HB; have BK101 := n0_; have BK102 := n1_; have HB := n2_; have BK103 := n3_; have GW103 := n4_; have GE103 := n5_; have NB101_103 := n6_; have NB103_101 := n7_; have NB102_103 := n8_; have NB103_102 := n9_; clear n0_ n1_ n2_ n3_ n4_ n5_ n6_ n7_ n8_ n9_; clear hb hbox hg; have hnb10 := NB103_101.out; have hnc10 := NB101_103.out; have hnb11 := NB103_102.out; have hnc11 := NB102_103.out; have hcz12_0 : w9.cell? ⟨gb103, 0, none⟩ = some (.string (⟨#[]⟩ : ByteArray)) := (blk_cell BK103.out 0).trans rfl; have hcz12_1 : w9.cell? ⟨gb103, 1, none⟩ = some (.int .i64 0) := (blk_cell BK103.out 1).trans rfl; have hcz12_2 : w9.cell? ⟨gb103, 2, none⟩ = some (.bool false) := (blk_cell BK103.out 2).trans rfl; have hcz12_3 : w9.cell? ⟨gb103, 3, none⟩ = some (.int .i64 0) := (blk_cell BK103.out 3).trans rfl; have hcz12_4 : w9.cell? ⟨gb103, 4, none⟩ = some (.int .u64 0) := (blk_cell BK103.out 4).trans rfl; have hcz12_5 : w9.cell? ⟨gb103, 5, none⟩ = some (.float .f64 0) := (blk_cell BK103.out 5).trans rfl; have hcz12_6 : w9.cell? ⟨gb103, 6, none⟩ = some (.string (⟨#[]⟩ : ByteArray)) := (blk_cell BK103.out 6).trans rfl; have hcz12_7 : w9.cell? ⟨gb103, 7, none⟩ = some (.slice none 0 0) := (blk_cell BK103.out 7).trans rfl; have hfz12_0 := blk_frozen BK103.out 0; have hfz12_1 := blk_frozen BK103.out 1; have hfz12_2 := blk_frozen BK103.out 2; have hfz12_3 := blk_frozen BK103.out 3; have hfz12_4 := blk_frozen BK103.out 4; have hfz12_5 := blk_frozen BK103.out 5; have hfz12_6 := blk_frozen BK103.out 6; have hfz12_7 := blk_frozen BK103.out 7; have hnb13 := NB101_102.out; have hnc13 := NB102_101.out; have hcz14_0 : w9.cell? ⟨gb101, 0, none⟩ = some (.string a1_0) := (blk_cell BK101.out 0).trans rfl; have hcz14_1 : w9.cell? ⟨gb101, 1, none⟩ = some (.int .i64 a1_1) := (blk_cell BK101.out 1).trans rfl; have hcz14_2 : w9.cell? ⟨gb101, 2, none⟩ = some (.int .i64 a1_2) := (blk_cell BK101.out 2).trans rfl; have hcz14_3 : w9.cell? ⟨gb101, 3, none⟩ = some (.int .i64 a1_3) := (blk_cell BK101.out 3).trans rfl; have hfz14_0 := blk_frozen BK101.out 0; have hfz14_1 := blk_frozen BK101.out 1; have hfz14_2 := blk_frozen BK101.out 2; have hfz14_3 := blk_frozen BK101.out 3) | ((with_reducible refine gate_builtin (b := .append) (xs := #[.tmp 9, .tmp 13]) rfl ?_); at_builtin; refine Kd.R_append k35 (w0 := w) w.heap.size rfl (.tmp 9) (.tmp 13) 33 35 (.agg #[(.string ⟨#[]⟩), (.int .i64 0), (.bool false), (.int .i64 0), (.int .u64 0), (.float .f64 0), (.string ⟨#[]⟩), (.slice none 0 0)]) 96 rfl Tryz.underlying33 info35 rfl (by decide) (by omega) (.slice none 0 0) ([] : List (S35)) (⟨(⟨#[83, 117, 98, 115, 121, 115, 78, 97, 109, 101]⟩ : ByteArray), 5, false, 0, 0, 0, a1_0, ([] : List (S35))⟩ : S35) [.string (⟨#[83, 117, 98, 115, 121, 115, 78, 97, 109, 101]⟩ : ByteArray), .int .i64 5, .bool false, .int .i64 0, .int .u64 0, .float .f64 0, .string a1_0, .slice none 0 0] (fun k_ => k_ ≠ gb102 ∧ k_ ≠ gb103) (fun k_ => ((fun k_ => k_ ≠ gb102 ∧ k_ ≠ gb103)) k_ ∧ some k_ ≠ (.slice none 0 0 : Value).ownBlock) rfl (by first | (go_simp; done) | (go_simp; rfl)) ?aP (fun _ hk => hk) ?aF ?aO ?aB ?aS ?aL ?_; (case aP => exact k35_mkM _ _ _ (⟨(⟨#[83, 117, 98, 115, 121, 115, 78, 97, 109, 101]⟩ : ByteArray), 5, false, 0, 0, 0, a1_0, ([] : List (S35))⟩ : S35) (Kd.R_nil _ _ _ _ _)); (case aB => exact belS); (case aF => exact (fun k_ hk => ⟨Kd.freshB (g := gb102) (o := .cells #[.string (⟨#[]⟩ : ByteArray), .int .i64 0, .bool false, .int .i64 0, .int .u64 0, .float .f64 0, .string (⟨#[]⟩ : ByteArray), .slice none 0 0] 35 (0, 0)) (by (with_reducible repeat (first | refine bN ?_ _ | refine bW ?_ | refine bA ?_ _)); refine blk_far ?_ NB102_103.out _; (with_reducible repeat (first | refine bN ?_ _ | refine bW ?_ | refine bA ?_ _)); refine blk_far ?_ NB102_103.out _; (with_reducible repeat (first | refine bN ?_ _ | refine bW ?_ | refine bA ?_ _)); refine blk_far ?_ NB102_103.out _; (with_reducible repeat (first | refine bN ?_ _ | refine bW ?_ | refine bA ?_ _)); refine blk_far ?_ NB102_103.out _; (with_reducible repeat (first | refine bN ?_ _ | refine bW ?_ | refine bA ?_ _)); refine blk_far ?_ NB102_103.out _; (with_reducible repeat (first | refine bN ?_ _ | refine bW ?_ | refine bA ?_ _)); refine blk_far ?_ NB102_103.out _; (with_reducible repeat (first | refine bN ?_ _ | refine bW ?_ | refine bA ?_ _)); refine blk_far ?_ NB102_103.out _; (with_reducible repeat (first | refine bN ?_ _ | refine bW ?_ | refine bA ?_ _)); refine blk_far ?_ NB102_103.out _; (with_reducible repeat (first | refine bN ?_ _ | refine bW ?_ | refine bA ?_ _)); exact BK102.out) k_ hk, Kd.freshB (g := gb103) (o := .cells #[.string a0, .int .i64 8, .bool false, .int .i64 0, .int .u64 0, .float .f64 0, .string (⟨#[]⟩ : ByteArray), .slice none 0 0] 35 (0, 0)) (by (with_reducible repeat (first | refine bN ?_ _ | refine bW ?_ | refine bA ?_ _)); exact blk_put8 BK103.out) k_ hk⟩)); (case aO => exact ((Kd.R_nil _ _ _ _ (fun k_ => k_ ≠ gb102 ∧ k_ ≠ gb103)))); (case aS => exact (below_size belS)); (case aL => have := LMc3.out; omega); intro v105 w15 ho hb hg hat; rw [← Ny104.out] at ho; have n0_ := Aside0.mk (blk_grown (g := gb101) (o := .cells #[.string a1_0, .int .i64 a1_1, .int .i64 a1_2, .int .i64 a1_3] 142 (0, 0)) (by (with_reducible repeat (first | refine bN ?_ _ | refine bW ?_ | refine bA ?_ _)); refine blk_far ?_ NB101_103.out _; (with_reducible repeat (first | refine bN ?_ _ | refine bW ?_ | refine bA ?_ _)); refine blk_far ?_ NB101_103.out _; (with_reducible repeat (first | refine bN ?_ _ | refine bW ?_ | refine bA ?_ _)); refine blk_far ?_ NB101_103.out _; (with_reducible repeat (first | refine bN ?_ _ | refine bW ?_ | refine bA ?_ _)); refine blk_far ?_ NB101_103.out _; (with_reducible repeat (first | refine bN ?_ _ | refine bW ?_ | refine bA ?_ _)); refine blk_far ?_ NB101_103.out _; (with_reducible repeat (first | refine bN ?_ _ | refine bW ?_ | refine bA ?_ _)); refine blk_far ?_ NB101_103.out _; (with_reducible repeat (first | refine bN ?_ _ | refine bW ?_ | refine bA ?_ _)); refine blk_far ?_ NB101_103.out _; (with_reducible repeat (first | refine bN ?_ _ | refine bW ?_ | refine bA ?_ _)); refine blk_far ?_ NB101_103.out _; (with_reducible repeat (first | refine bN ?_ _ | refine bW ?_ | refine bA ?_ _)); exact BK101.out) hg (by simp [Value.ownBlock])); have n1_ := Aside0.mk (blk_grown (g := gb102) (o := .cells #[.string (⟨#[]⟩ : ByteArray), .int .i64 0, .bool false, .int .i64 0, .int .u64 0, .float .f64 0, .string (⟨#[]⟩ : ByteArray), .slice none 0 0] 35 (0, 0)) (by (with_reducible repeat (first | refine bN ?_ _ | refine bW ?_ | refine bA ?_ _)); refine blk_far ?_ NB102_103.out _; (with_reducible repeat (first | refine bN ?_ _ | refine bW ?_ | refine bA ?_ _)); refine blk_far ?_ NB102_103.out _; (with_reducible repeat (first | refine bN ?_ _ | refine bW ?_ | refine bA ?_ _)); refine blk_far ?_ NB102_103.out _; (with_reducible repeat (first | refine bN ?_ _ | refine bW ?_ | refine bA ?_ _)); refine blk_far ?_ NB102_103.out _; (with_reducible repeat (first | refine bN ?_ _ | refine bW ?_ | refine bA ?_ _)); refine blk_far ?_ NB102_103.out _; (with_reducible repeat (first | refine bN ?_ _ | refine bW ?_ | refine bA ?_ _)); refine blk_far ?_ NB102_103.out _; (with_reducible repeat (first | refine bN ?_ _ | refine bW ?_ | refine bA ?_ _)); refine blk_far ?_ NB102_103.out _; (with_reducible repeat (first | refine bN ?_ _ | refine bW ?_ | refine bA ?_ _)); refine blk_far ?_ NB102_103.out _; (with_reducible repeat (first | refine bN ?_ _ | refine bW ?_ | refine bA ?_ _)); exact BK102.out) hg (by simp [Value.ownBlock])); have n2_ := Aside0.mk (blk_grown (g := gb103) (o := .cells #[.string a0, .int .i64 8, .bool false, .int .i64 0, .int .u64 0, .float .f64 0, .string (⟨#[]⟩ : ByteArray), .slice none 0 0] 35 (0, 0)) (by (with_reducible repeat (first | refine bN ?_ _ | refine bW ?_ | refine bA ?_ _)); exact blk_put8 BK103.out) hg (by simp [Value.ownBlock])); have n3_ := Aside0.mk (hb); have n4_ := Aside0.mk (ho); clear BK101; clear BK102; clear BK103; clear HB; have BK101 := n0_; have BK102 := n1_; have BK103 := n2_; have HB := n3_; have HO106 := n4_; clear n0_ n1_ n2_ n3_ n4_; clear ho hb hg hat; obtain ⟨Ao16, co16, eo16⟩ := Kd.R_slice HO106.out; subst eo16; have hcz17_0 : w15.cell? ⟨gb103, 0, none⟩ = some (.string a0) := (blk_cell BK103.out 0).trans rfl; have hcz17_1 : w15.cell? ⟨gb103, 1, none⟩ = some (.int .i64 8) := (blk_cell BK103.out 1).trans rfl; have hcz17_2 : w15.cell? ⟨gb103, 2, none⟩ = some (.bool false) := (blk_cell BK103.out 2).trans rfl; have hcz17_3 : w15.cell? ⟨gb103, 3, none⟩ = some (.int .i64 0) := (blk_cell BK103.out 3).trans rfl; have hcz17_4 : w15.cell? ⟨gb103, 4, none⟩ = some (.int .u64 0) := (blk_cell BK103.out 4).trans rfl; have hcz17_5 : w15.cell? ⟨gb103, 5, none⟩ = some (.float .f64 0) := (blk_cell BK103.out 5).trans rfl; have hcz17_6 : w15.cell? ⟨gb103, 6, none⟩ = some (.string (⟨#[]⟩ : ByteArray)) := (blk_cell BK103.out 6).trans rfl; have hcz17_7 : w15.cell? ⟨gb103, 7, none⟩ = some (.slice none 0 0) := (blk_cell BK103.out 7).trans rfl; have hfz17_0 := blk_frozen BK103.out 0; have hfz17_1 := blk_frozen BK103.out 1; have hfz17_2 := blk_frozen BK103.out 2; have hfz17_3 := blk_frozen BK103.out 3; have hfz17_4 := blk_frozen BK103.out 4; have hfz17_5 := blk_frozen BK103.out 5; have hfz17_6 := blk_frozen BK103.out 6; have hfz17_7 := blk_frozen BK103.out 7; have hcz18_0 : w15.cell? ⟨gb101, 0, none⟩ = some (.string a1_0) := (blk_cell BK101.out 0).trans rfl; have hcz18_1 : w15.cell? ⟨gb101, 1, none⟩ = some (.int .i64 a1_1) := (blk_cell BK101.out 1).trans rfl; have hcz18_2 : w15.cell? ⟨gb101, 2, none⟩ = some (.int .i64 a1_2) := (blk_cell BK101.out 2).trans rfl; have hcz18_3 : w15.cell? ⟨gb101, 3, none⟩ = some (.int .i64 a1_3) := (blk_cell BK101.out 3).trans rfl; have hfz18_0 := blk_frozen BK101.out 0; have hfz18_1 := blk_frozen BK101.out 1; have hfz18_2 := blk_frozen BK101.out 2; have hfz18_3 := blk_frozen BK101.out 3) | ((with_reducible refine gate_builtin (b := .append) (xs := #[.tmp 17, .tmp 21]) rfl ?_); at_builtin; refine Kd.R_append k35 (w0 := w) w.heap.size rfl (.tmp 17) (.tmp 21) 33 35 (.agg #[(.string ⟨#[]⟩), (.int .i64 0), (.bool false), (.int .i64 0), (.int .u64 0), (.float .f64 0), (.string ⟨#[]⟩), (.slice none 0 0)]) 96 rfl Tryz.underlying33 info35 rfl (by decide) (by omega) (.slice Ao16 y104.length co16) y104 (⟨(⟨#[72, 105, 101, 114, 97, 114, 99, 104, 121]⟩ : ByteArray), 2, false, a1_1, 0, 0, (⟨#[]⟩ : ByteArray), ([] : List (S35))⟩ : S35) [.string (⟨#[72, 105, 101, 114, 97, 114, 99, 104, 121]⟩ : ByteArray), .int .i64 2, .bool false, .int .i64 a1_1, .int .u64 0, .float .f64 0, .string (⟨#[]⟩ : ByteArray), .slice none 0 0] (fun k_ => k_ ≠ gb102 ∧ k_ ≠ gb103) (fun k_ => ((fun k_ => k_ ≠ gb102 ∧ k_ ≠ gb103)) k_ ∧ some k_ ≠ (.slice Ao16 y104.length co16 : Value).ownBlock) rfl (by first | (go_simp; done) | (go_simp; rfl)) ?aP (fun _ hk => hk) ?aF ?aO ?aB ?aS ?aL ?_; (case aP => exact k35_mkM _ _ _ (⟨(⟨#[72, 105, 101, 114, 97, 114, 99, 104, 121]⟩ : ByteArray), 2, false, a1_1, 0, 0, (⟨#[]⟩ : ByteArray), ([] : List (S35))⟩ : S35) (Kd.R_nil _ _ _ _ _)); (case aB => exact belS); (case aF => exact (fun k_ hk => ⟨Kd.freshB (g := gb102) (o := .cells #[.string (⟨#[]⟩ : ByteArray), .int .i64 0, .bool false, .int .i64 0, .int .u64 0, .float .f64 0, .string (⟨#[]⟩ : ByteArray), .slice none 0 0] 35 (0, 0)) (by (with_reducible repeat (first | refine bN ?_ _ | refine bW ?_ | refine bA ?_ _)); refine blk_far ?_ NB102_103.out _; (with_reducible repeat (first | refine bN ?_ _ | refine bW ?_ | refine bA ?_ _)); exact BK102.out) k_ hk, Kd.freshB (g := gb103) (o := .cells #[.string a0, .int .i64 8, .bool false, .int .i64 0, .int .u64 0, .float .f64 0, .string (⟨#[]⟩ : ByteArray), .slice Ao16 y104.length co16] 35 (0, 0)) (by (with_reducible repeat (first | refine bN ?_ _ | refine bW ?_ | refine bA ?_ _)); refine blk_put (cs := #[.string a0, .int .i64 8, .bool false, .int .i64 0, .int .u64 0, .float .f64 0, .string (⟨#[]⟩ : ByteArray), .slice none 0 0]) ?_ 7 _ rfl; (with_reducible repeat (first | refine bN ?_ _ | refine bW ?_ | refine bA ?_ _)); exact BK103.out) k_ hk⟩)); (case aO => exact (by (with_reducible repeat (first | apply Kd.R_alloc | apply Kd.R_drewN | apply Kd.R_drew)); exact Kd.R_mono (Kd.R_far (p := ⟨gb103, 7, none⟩) (Kd.R_mono HO106.out (fun k_ hk => (⟨hk, hk.2⟩ : _ ∧ k_ ≠ gb103))) (fun _ hk => hk.2) (.slice Ao16 y104.length co16)) (fun _ hk => ⟨hk.1.1, hk.1.2⟩))); (case aS => exact (below_size belS)); (case aL => have := LMc4.out; omega); intro v108 w19 ho hb hg hat; rw [← Ny107.out] at ho; have n0_ := Aside0.mk (blk_grown (g := gb101) (o := .cells #[.string a1_0, .int .i64 a1_1, .int .i64 a1_2, .int .i64 a1_3] 142 (0, 0)) (by (with_reducible repeat (first | refine bN ?_ _ | refine bW ?_ | refine bA ?_ _)); refine blk_far ?_ NB101_103.out _; (with_reducible repeat (first | refine bN ?_ _ | refine bW ?_ | refine bA ?_ _)); exact BK101.out) hg (Kd.R_ne HO106.out BK101.out (by decide))); have n1_ := Aside0.mk (blk_grown (g := gb102) (o := .cells #[.string (⟨#[]⟩ : ByteArray), .int .i64 0, .bool false, .int .i64 0, .int .u64 0, .float .f64 0, .string (⟨#[]⟩ : ByteArray), .slice none 0 0] 35 (0, 0)) (by (with_reducible repeat (first | refine bN ?_ _ | refine bW ?_ | refine bA ?_ _)); refine blk_far ?_ NB102_103.out _; (with_reducible repeat (first | refine bN ?_ _ | refine bW ?_ | refine bA ?_ _)); exact BK102.out) hg (Kd.R_away HO106.out (fun _ hk => hk.1))); have n2_ := Aside0.mk (blk_grown (g := gb103) (o := .cells #[.string a0, .int .i64 8, .bool false, .int .i64 0, .int .u64 0, .float .f64 0, .string (⟨#[]⟩ : ByteArray), .slice Ao16 y104.length co16] 35 (0, 0)) (by (with_reducible repeat (first | refine bN ?_ _ | refine bW ?_ | refine bA ?_ _)); refine blk_put (cs := #[.string a0, .int .i64 8, .bool false, .int .i64 0, .int .u64 0, .float .f64 0, .string (⟨#[]⟩ : ByteArray), .slice none 0 0]) ?_ 7 _ rfl; (with_reducible repeat (first | refine bN ?_ _ | refine bW ?_ | refine bA ?_ _)); exact BK103.out) hg (Kd.R_away HO106.out (fun _ hk => hk.2))); have n3_ := Aside0.mk (hb); have n4_ := Aside0.mk (ho); clear BK101; clear BK102; clear BK103; clear HB; clear HO106; have BK101 := n0_; have BK102 := n1_; have BK103 := n2_; have HB := n3_; have HO109 := n4_; clear n0_ n1_ n2_ n3_ n4_; clear ho hb hg hat; obtain ⟨Ao20, co20, eo20⟩ := Kd.R_slice HO109.out; subst eo20; have hcz21_0 : w19.cell? ⟨gb103, 0, none⟩ = some (.string a0) := (blk_cell BK103.out 0).trans rfl; have hcz21_1 : w19.cell? ⟨gb103, 1, none⟩ = some (.int .i64 8) := (blk_cell BK103.out 1).trans rfl; have hcz21_2 : w19.cell? ⟨gb103, 2, none⟩ = some (.bool false) := (blk_cell BK103.out 2).trans rfl; have hcz21_3 : w19.cell? ⟨gb103, 3, none⟩ = some (.int .i64 0) := (blk_cell BK103.out 3).trans rfl; have hcz21_4 : w19.cell? ⟨gb103, 4, none⟩ = some (.int .u64 0) := (blk_cell BK103.out 4).trans rfl; have hcz21_5 : w19.cell? ⟨gb103, 5, none⟩ = some (.float .f64 0) := (blk_cell BK103.out 5).trans rfl; have hcz21_6 : w19.cell? ⟨gb103, 6, none⟩ = some (.string (⟨#[]⟩ : ByteArray)) := (blk_cell BK103.out 6).trans rfl; have hcz21_7 : w19.cell? ⟨gb103, 7, none⟩ = some (.slice Ao16 y104.length co16) := (blk_cell BK103.out 7).trans rfl; have hfz21_0 := blk_frozen BK103.out 0; have hfz21_1 := blk_frozen BK103.out 1; have hfz21_2 := blk_frozen BK103.out 2; have hfz21_3 := blk_frozen BK103.out 3; have hfz21_4 := blk_frozen BK103.out 4; have hfz21_5 := blk_frozen BK103.out 5; have hfz21_6 := blk_frozen BK103.out 6; have hfz21_7 := blk_frozen BK103.out 7; have hcz22_0 : w19.cell? ⟨gb101, 0, none⟩ = some (.string a1_0) := (blk_cell BK101.out 0).trans rfl; have hcz22_1 : w19.cell? ⟨gb101, 1, none⟩ = some (.int .i64 a1_1) := (blk_cell BK101.out 1).trans rfl; have hcz22_2 : w19.cell? ⟨gb101, 2, none⟩ = some (.int .i64 a1_2) := (blk_cell BK101.out 2).trans rfl; have hcz22_3 : w19.cell? ⟨gb101, 3, none⟩ = some (.int .i64 a1_3) := (blk_cell BK101.out 3).trans rfl; have hfz22_0 := blk_frozen BK101.out 0; have hfz22_1 := blk_frozen BK101.out 1; have hfz22_2 := blk_frozen BK101.out 2; have hfz22_3 := blk_frozen BK101.out 3) | ((with_reducible refine gate_builtin (b := .append) (xs := #[.tmp 25, .tmp 29]) rfl ?_); at_builtin; refine Kd.R_append k35 (w0 := w) w.heap.size rfl (.tmp 25) (.tmp 29) 33 35 (.agg #[(.string ⟨#[]⟩), (.int .i64 0), (.bool false), (.int .i64 0), (.int .u64 0), (.float .f64 0), (.string ⟨#[]⟩), (.slice none 0 0)]) 96 rfl Tryz.underlying33 info35 rfl (by decide) (by omega) (.slice Ao20 y107.length co20) y107 (⟨(⟨#[67, 103, 114, 111, 117, 112, 115]⟩ : ByteArray), 2, false, a1_2, 0, 0, (⟨#[]⟩ : ByteArray), ([] : List (S35))⟩ : S35) [.string (⟨#[67, 103, 114, 111, 117, 112, 115]⟩ : ByteArray), .int .i64 2, .bool false, .int .i64 a1_2, .int .u64 0, .float .f64 0, .string (⟨#[]⟩ : ByteArray), .slice none 0 0] (fun k_ => k_ ≠ gb102 ∧ k_ ≠ gb103) (fun k_ => ((fun k_ => k_ ≠ gb102 ∧ k_ ≠ gb103)) k_ ∧ some k_ ≠ (.slice Ao20 y107.length co20 : Value).ownBlock) rfl (by first | (go_simp; done) | (go_simp; rfl)) ?aP (fun _ hk => hk) ?aF ?aO ?aB ?aS ?aL ?_; (case aP => exact k35_mkM _ _ _ (⟨(⟨#[67, 103, 114, 111, 117, 112, 115]⟩ : ByteArray), 2, false, a1_2, 0, 0, (⟨#[]⟩ : ByteArray), ([] : List (S35))⟩ : S35) (Kd.R_nil _ _ _ _ _)); (case aB => exact belS); (case aF => exact (fun k_ hk => ⟨Kd.freshB (g := gb102) (o := .cells #[.string (⟨#[]⟩ : ByteArray), .int .i64 0, .bool false, .int .i64 0, .int .u64 0, .float .f64 0, .string (⟨#[]⟩ : ByteArray), .slice none 0 0] 35 (0, 0)) (by (with_reducible repeat (first | refine bN ?_ _ | refine bW ?_ | refine bA ?_ _)); refine blk_far ?_ NB102_103.out _; (with_reducible repeat (first | refine bN ?_ _ | refine bW ?_ | refine bA ?_ _)); exact BK102.out) k_ hk, Kd.freshB (g := gb103) (o := .cells #[.string a0, .int .i64 8, .bool false, .int .i64 0, .int .u64 0, .float .f64 0, .string (⟨#[]⟩ : ByteArray), .slice Ao20 y107.length co20] 35 (0, 0)) (by (with_reducible repeat (first | refine bN ?_ _ | refine bW ?_ | refine bA ?_ _)); refine blk_put (cs := #[.string a0, .int .i64 8, .bool false, .int .i64 0, .int .u64 0, .float .f64 0, .string (⟨#[]⟩ : ByteArray), .slice Ao16 y104.length co16]) ?_ 7 _ rfl; (with_reducible repeat (first | refine bN ?_ _ | refine bW ?_ | refine bA ?_ _)); exact BK103.out) k_ hk⟩)); (case aO => exact (by (with_reducible repeat (first | apply Kd.R_alloc | apply Kd.R_drewN | apply Kd.R_drew)); exact Kd.R_mono (Kd.R_far (p := ⟨gb103, 7, none⟩) (Kd.R_mono HO109.out (fun k_ hk => (⟨hk, hk.2⟩ : _ ∧ k_ ≠ gb103))) (fun _ hk => hk.2) (.slice Ao20 y107.length co20)) (fun _ hk => ⟨hk.1.1, hk.1.2⟩))); (case aS => exact (below_size belS)); (case aL => have := LMc5.out; omega); intro v111 w23 ho hb hg hat; rw [← Ny110.out] at ho; have n0_ := Aside0.mk (blk_grown (g := gb101) (o := .cells #[.string a1_0, .int .i64 a1_1, .int .i64 a1_2, .int .i64 a1_3] 142 (0, 0)) (by (with_reducible repeat (first | refine bN ?_ _ | refine bW ?_ | refine bA ?_ _)); refine blk_far ?_ NB101_103.out _; (with_reducible repeat (first | refine bN ?_ _ | refine bW ?_ | refine bA ?_ _)); exact BK101.out) hg (Kd.R_ne HO109.out BK101.out (by decide))); have n1_ := Aside0.mk (blk_grown (g := gb102) (o := .cells #[.string (⟨#[]⟩ : ByteArray), .int .i64 0, .bool false, .int .i64 0, .int .u64 0, .float .f64 0, .string (⟨#[]⟩ : ByteArray), .slice none 0 0] 35 (0, 0)) (by (with_reducible repeat (first | refine bN ?_ _ | refine bW ?_ | refine bA ?_ _)); refine blk_far ?_ NB102_103.out _; (with_reducible repeat (first | refine bN ?_ _ | refine bW ?_ | refine bA ?_ _)); exact BK102.out) hg (Kd.R_away HO109.out (fun _ hk => hk.1))); have n2_ := Aside0.mk (blk_grown (g := gb103) (o := .cells #[.string a0, .int .i64 8, .bool false, .int .i64 0, .int .u64 0, .float .f64 0, .string (⟨#[]⟩ : ByteArray), .slice Ao20 y107.length co20] 35 (0, 0)) (by (with_reducible repeat (first | refine bN ?_ _ | refine bW ?_ | refine bA ?_ _)); refine blk_put (cs := #[.string a0, .int .i64 8, .bool false, .int .i64 0, .int .u64 0, .float .f64 0, .string (⟨#[]⟩ : ByteArray), .slice Ao16 y104.length co16]) ?_ 7 _ rfl; (with_reducible repeat (first | refine bN ?_ _ | refine bW ?_ | refine bA ?_ _)); exact BK103.out) hg (Kd.R_away HO109.out (fun _ hk => hk.2))); have n3_ := Aside0.mk (hb); have n4_ := Aside0.mk (ho); clear BK101; clear BK102; clear BK103; clear HB; clear HO109; have BK101 := n0_; have BK102 := n1_; have BK103 := n2_; have HB := n3_; have HO112 := n4_; clear n0_ n1_ n2_ n3_ n4_; clear ho hb hg hat; obtain ⟨Ao24, co24, eo24⟩ := Kd.R_slice HO112.out; subst eo24; have hcz25_0 : w23.cell? ⟨gb103, 0, none⟩ = some (.string a0) := (blk_cell BK103.out 0).trans rfl; have hcz25_1 : w23.cell? ⟨gb103, 1, none⟩ = some (.int .i64 8) := (blk_cell BK103.out 1).trans rfl; have hcz25_2 : w23.cell? ⟨gb103, 2, none⟩ = some (.bool false) := (blk_cell BK103.out 2).trans rfl; have hcz25_3 : w23.cell? ⟨gb103, 3, none⟩ = some (.int .i64 0) := (blk_cell BK103.out 3).trans rfl; have hcz25_4 : w23.cell? ⟨gb103, 4, none⟩ = some (.int .u64 0) := (blk_cell BK103.out 4).trans rfl; have hcz25_5 : w23.cell? ⟨gb103, 5, none⟩ = some (.float .f64 0) := (blk_cell BK103.out 5).trans rfl; have hcz25_6 : w23.cell? ⟨gb103, 6, none⟩ = some (.string (⟨#[]⟩ : ByteArray)) := (blk_cell BK103.out 6).trans rfl; have hcz25_7 : w23.cell? ⟨gb103, 7, none⟩ = some (.slice Ao20 y107.length co20) := (blk_cell BK103.out 7).trans rfl; have hfz25_0 := blk_frozen BK103.out 0; have hfz25_1 := blk_frozen BK103.out 1; have hfz25_2 := blk_frozen BK103.out 2; have hfz25_3 := blk_frozen BK103.out 3; have hfz25_4 := blk_frozen BK103.out 4; have hfz25_5 := blk_frozen BK103.out 5; have hfz25_6 := blk_frozen BK103.out 6; have hfz25_7 := blk_frozen BK103.out 7; have hcz26_0 : w23.cell? ⟨gb101, 0, none⟩ = some (.string a1_0) := (blk_cell BK101.out 0).trans rfl; have hcz26_1 : w23.cell? ⟨gb101, 1, none⟩ = some (.int .i64 a1_1) := (blk_cell BK101.out 1).trans rfl; have hcz26_2 : w23.cell? ⟨gb101, 2, none⟩ = some (.int .i64 a1_2) := (blk_cell BK101.out 2).trans rfl; have hcz26_3 : w23.cell? ⟨gb101, 3, none⟩ = some (.int .i64 a1_3) := (blk_cell BK101.out 3).trans rfl; have hfz26_0 := blk_frozen BK101.out 0; have hfz26_1 := blk_frozen BK101.out 1; have hfz26_2 := blk_frozen BK101.out 2; have hfz26_3 := blk_frozen BK101.out 3) | ((with_reducible refine gate_builtin (b := .append) (xs := #[.tmp 33, .tmp 37]) rfl ?_); at_builtin; refine Kd.R_append k35 (w0 := w) w.heap.size rfl (.tmp 33) (.tmp 37) 33 35 (.agg #[(.string ⟨#[]⟩), (.int .i64 0), (.bool false), (.int .i64 0), (.int .u64 0), (.float .f64 0), (.string ⟨#[]⟩), (.slice none 0 0)]) 96 rfl Tryz.underlying33 info35 rfl (by decide) (by omega) (.slice Ao24 y110.length co24) y110 (⟨(⟨#[69, 110, 97, 98, 108, 101, 100]⟩ : ByteArray), 2, false, a1_3, 0, 0, (⟨#[]⟩ : ByteArray), ([] : List (S35))⟩ : S35) [.string (⟨#[69, 110, 97, 98, 108, 101, 100]⟩ : ByteArray), .int .i64 2, .bool false, .int .i64 a1_3, .int .u64 0, .float .f64 0, .string (⟨#[]⟩ : ByteArray), .slice none 0 0] (fun k_ => k_ ≠ gb102 ∧ k_ ≠ gb103) (fun k_ => ((fun k_ => k_ ≠ gb102 ∧ k_ ≠ gb103)) k_ ∧ some k_ ≠ (.slice Ao24 y110.length co24 : Value).ownBlock) rfl (by first | (go_simp; done) | (go_simp; rfl)) ?aP (fun _ hk => hk) ?aF ?aO ?aB ?aS ?aL ?_; (case aP => exact k35_mkM _ _ _ (⟨(⟨#[69, 110, 97, 98, 108, 101, 100]⟩ : ByteArray), 2, false, a1_3, 0, 0, (⟨#[]⟩ : ByteArray), ([] : List (S35))⟩ : S35) (Kd.R_nil _ _ _ _ _)); (case aB => exact belS); (case aF => exact (fun k_ hk => ⟨Kd.freshB (g := gb102) (o := .cells #[.string (⟨#[]⟩ : ByteArray), .int .i64 0, .bool false, .int .i64 0, .int .u64 0, .float .f64 0, .string (⟨#[]⟩ : ByteArray), .slice none 0 0] 35 (0, 0)) (by (with_reducible repeat (first | refine bN ?_ _ | refine bW ?_ | refine bA ?_ _)); refine blk_far ?_ NB102_103.out _; (with_reducible repeat (first | refine bN ?_ _ | refine bW ?_ | refine bA ?_ _)); exact BK102.out) k_ hk, Kd.freshB (g := gb103) (o := .cells #[.string a0, .int .i64 8, .bool false, .int .i64 0, .int .u64 0, .float .f64 0, .string (⟨#[]⟩ : ByteArray), .slice Ao24 y110.length co24] 35 (0, 0)) (by (with_reducible repeat (first | refine bN ?_ _ | refine bW ?_ | refine bA ?_ _)); refine blk_put (cs := #[.string a0, .int .i64 8, .bool false, .int .i64 0, .int .u64 0, .float .f64 0, .string (⟨#[]⟩ : ByteArray), .slice Ao20 y107.length co20]) ?_ 7 _ rfl; (with_reducible repeat (first | refine bN ?_ _ | refine bW ?_ | refine bA ?_ _)); exact BK103.out) k_ hk⟩)); (case aO => exact (by (with_reducible repeat (first | apply Kd.R_alloc | apply Kd.R_drewN | apply Kd.R_drew)); exact Kd.R_mono (Kd.R_far (p := ⟨gb103, 7, none⟩) (Kd.R_mono HO112.out (fun k_ hk => (⟨hk, hk.2⟩ : _ ∧ k_ ≠ gb103))) (fun _ hk => hk.2) (.slice Ao24 y110.length co24)) (fun _ hk => ⟨hk.1.1, hk.1.2⟩))); (case aS => exact (below_size belS)); (case aL => have := LMc6.out; omega); intro v114 w27 ho hb hg hat; rw [← Ny113.out] at ho; have n0_ := Aside0.mk (blk_grown (g := gb101) (o := .cells #[.string a1_0, .int .i64 a1_1, .int .i64 a1_2, .int .i64 a1_3] 142 (0, 0)) (by (with_reducible repeat (first | refine bN ?_ _ | refine bW ?_ | refine bA ?_ _)); refine blk_far ?_ NB101_103.out _; (with_reducible repeat (first | refine bN ?_ _ | refine bW ?_ | refine bA ?_ _)); exact BK101.out) hg (Kd.R_ne HO112.out BK101.out (by decide))); have n1_ := Aside0.mk (blk_grown (g := gb102) (o := .cells #[.string (⟨#[]⟩ : ByteArray), .int .i64 0, .bool false, .int .i64 0, .int .u64 0, .float .f64 0, .string (⟨#[]⟩ : ByteArray), .slice none 0 0] 35 (0, 0)) (by (with_reducible repeat (first | refine bN ?_ _ | refine bW ?_ | refine bA ?_ _)); refine blk_far ?_ NB102_103.out _; (with_reducible repeat (first | refine bN ?_ _ | refine bW ?_ | refine bA ?_ _)); exact BK102.out) hg (Kd.R_away HO112.out (fun _ hk => hk.1))); have n2_ := Aside0.mk (blk_grown (g := gb103) (o := .cells #[.string a0, .int .i64 8, .bool false, .int .i64 0, .int .u64 0, .float .f64 0, .string (⟨#[]⟩ : ByteArray), .slice Ao24 y110.length co24] 35 (0, 0)) (by (with_reducible repeat (first | refine bN ?_ _ | refine bW ?_ | refine bA ?_ _)); refine blk_put (cs := #[.string a0, .int .i64 8, .bool false, .int .i64 0, .int .u64 0, .float .f64 0, .string (⟨#[]⟩ : ByteArray), .slice Ao20 y107.length co20]) ?_ 7 _ rfl; (with_reducible repeat (first | refine bN ?_ _ | refine bW ?_ | refine bA ?_ _)); exact BK103.out) hg (Kd.R_away HO112.out (fun _ hk => hk.2))); have n3_ := Aside0.mk (hb); have n4_ := Aside0.mk (ho); clear BK101; clear BK102; clear BK103; clear HB; clear HO112; have BK101 := n0_; have BK102 := n1_; have BK103 := n2_; have HB := n3_; have HO115 := n4_; clear n0_ n1_ n2_ n3_ n4_; clear ho hb hg hat; obtain ⟨Ao28, co28, eo28⟩ := Kd.R_slice HO115.out; subst eo28; have hcz29_0 : w27.cell? ⟨gb103, 0, none⟩ = some (.string a0) := (blk_cell BK103.out 0).trans rfl; have hcz29_1 : w27.cell? ⟨gb103, 1, none⟩ = some (.int .i64 8) := (blk_cell BK103.out 1).trans rfl; have hcz29_2 : w27.cell? ⟨gb103, 2, none⟩ = some (.bool false) := (blk_cell BK103.out 2).trans rfl; have hcz29_3 : w27.cell? ⟨gb103, 3, none⟩ = some (.int .i64 0) := (blk_cell BK103.out 3).trans rfl; have hcz29_4 : w27.cell? ⟨gb103, 4, none⟩ = some (.int .u64 0) := (blk_cell BK103.out 4).trans rfl; have hcz29_5 : w27.cell? ⟨gb103, 5, none⟩ = some (.float .f64 0) := (blk_cell BK103.out 5).trans rfl; have hcz29_6 : w27.cell? ⟨gb103, 6, none⟩ = some (.string (⟨#[]⟩ : ByteArray)) := (blk_cell BK103.out 6).trans rfl; have hcz29_7 : w27.cell? ⟨gb103, 7, none⟩ = some (.slice Ao24 y110.length co24) := (blk_cell BK103.out 7).trans rfl; have hfz29_0 := blk_frozen BK103.out 0; have hfz29_1 := blk_frozen BK103.out 1; have hfz29_2 := blk_frozen BK103.out 2; have hfz29_3 := blk_frozen BK103.out 3; have hfz29_4 := blk_frozen BK103.out 4; have hfz29_5 := blk_frozen BK103.out 5; have hfz29_6 := blk_frozen BK103.out 6; have hfz29_7 := blk_frozen BK103.out 7; have hcz30_0 : w27.cell? ⟨gb102, 0, none⟩ = some (.string (⟨#[]⟩ : ByteArray)) := (blk_cell BK102.out 0).trans rfl; have hcz30_1 : w27.cell? ⟨gb102, 1, none⟩ = some (.int .i64 0) := (blk_cell BK102.out 1).trans rfl; have hcz30_2 : w27.cell? ⟨gb102, 2, none⟩ = some (.bool false) := (blk_cell BK102.out 2).trans rfl; have hcz30_3 : w27.cell? ⟨gb102, 3, none⟩ = some (.int .i64 0) := (blk_cell BK102.out 3).trans rfl; have hcz30_4 : w27.cell? ⟨gb102, 4, none⟩ = some (.int .u64 0) := (blk_cell BK102.out 4).trans rfl; have hcz30_5 : w27.cell? ⟨gb102, 5, none⟩ = some (.float .f64 0) := (blk_cell BK102.out 5).trans rfl; have hcz30_6 : w27.cell? ⟨gb102, 6, none⟩ = some (.string (⟨#[]⟩ : ByteArray)) := (blk_cell BK102.out 6).trans rfl; have hcz30_7 : w27.cell? ⟨gb102, 7, none⟩ = some (.slice none 0 0) := (blk_cell BK102.out 7).trans rfl; have hfz30_0 := blk_frozen BK102.out 0; have hfz30_1 := blk_frozen BK102.out 1; have hfz30_2 := blk_frozen BK102.out 2; have hfz30_3 := blk_frozen BK102.out 3; have hfz30_4 := blk_frozen BK102.out 4; have hfz30_5 := blk_frozen BK102.out 5; have hfz30_6 := blk_frozen BK102.out 6; have hfz30_7 := blk_frozen BK102.out 7))
     refine bodyPost_ret (results_cell_row rfl _ _ gb102 35 #[.string a0, .int .i64 8, .bool false, .int .i64 0, .int .u64 0, .float .f64 0, .string (⟨#[]⟩ : ByteArray), .slice Ao28 y113.length co28] (0, 0) _ rfl (by (with_reducible repeat (first | refine bN ?_ _ | refine bW ?_ | refine bA ?_ _)); refine blk_put (cs := #[.string a0, .int .i64 8, .bool false, .int .i64 0, .int .u64 0, .float .f64 0, .string (⟨#[]⟩ : ByteArray), .slice none 0 0]) ?_ 7 _ rfl; (with_reducible repeat (first | refine bN ?_ _ | refine bW ?_ | refine bA ?_ _)); refine blk_put (cs := #[.string a0, .int .i64 8, .bool false, .int .i64 0, .int .u64 0, .float .f64 0, .string (⟨#[]⟩ : ByteArray), .slice none 0 0]) ?_ 6 _ rfl; (with_reducible repeat (first | refine bN ?_ _ | refine bW ?_ | refine bA ?_ _)); refine blk_put (cs := #[.string a0, .int .i64 8, .bool false, .int .i64 0, .int .u64 0, .float .f64 0, .string (⟨#[]⟩ : ByteArray), .slice none 0 0]) ?_ 5 _ rfl; (with_reducible repeat (first | refine bN ?_ _ | refine bW ?_ | refine bA ?_ _)); refine blk_put (cs := #[.string a0, .int .i64 8, .bool false, .int .i64 0, .int .u64 0, .float .f64 0, .string (⟨#[]⟩ : ByteArray), .slice none 0 0]) ?_ 4 _ rfl; (with_reducible repeat (first | refine bN ?_ _ | refine bW ?_ | refine bA ?_ _)); refine blk_put (cs := #[.string a0, .int .i64 8, .bool false, .int .i64 0, .int .u64 0, .float .f64 0, .string (⟨#[]⟩ : ByteArray), .slice none 0 0]) ?_ 3 _ rfl; (with_reducible repeat (first | refine bN ?_ _ | refine bW ?_ | refine bA ?_ _)); refine blk_put (cs := #[.string a0, .int .i64 8, .bool false, .int .i64 0, .int .u64 0, .float .f64 0, .string (⟨#[]⟩ : ByteArray), .slice none 0 0]) ?_ 2 _ rfl; (with_reducible repeat (first | refine bN ?_ _ | refine bW ?_ | refine bA ?_ _)); refine blk_put (cs := #[.string a0, .int .i64 0, .bool false, .int .i64 0, .int .u64 0, .float .f64 0, .string (⟨#[]⟩ : ByteArray), .slice none 0 0]) ?_ 1 _ rfl; (with_reducible repeat (first | refine bN ?_ _ | refine bW ?_ | refine bA ?_ _)); refine blk_put (cs := #[.string (⟨#[]⟩ : ByteArray), .int .i64 0, .bool false, .int .i64 0, .int .u64 0, .float .f64 0, .string (⟨#[]⟩ : ByteArray), .slice none 0 0]) ?_ 0 _ rfl; (with_reducible repeat (first | refine bN ?_ _ | refine bW ?_ | refine bA ?_ _)); refine blk_far ?_ NB102_103.out _; (with_reducible repeat (first | refine bN ?_ _ | refine bW ?_ | refine bA ?_ _)); exact BK102.out) Tryz.underlying35 rfl (by kernel_rfl)) rfl ?_
     exact ⟨_, by first | rfl | (simp [errW_none, errW_some] <;> rfl) | (simp [*, errW_none, errW_some] <;> rfl), by (with_reducible repeat (first | apply Kd.R_alloc | apply Kd.R_drewN | apply Kd.R_drew)); exact Kd.R_mono (Kd.R_far8 (g := gb102) (Kd.R_far (p := ⟨gb103, 7, none⟩) (Kd.R_mono (Kd.R_mono HO115.out (fun k_ hk => (⟨hk, hk.2⟩ : _ ∧ k_ ≠ gb103))) (fun k_ hk => (⟨hk, hk.1.1⟩ : _ ∧ k_ ≠ gb102))) (fun _ hk => hk.1.2) (.slice Ao28 y113.length co28)) (fun _ hk => hk.2) (.string a0) (.int .i64 8) (.bool false) (.int .i64 0) (.int .u64 0) (.float .f64 0) (.string (⟨#[]⟩ : ByteArray)) (.slice Ao28 y113.length co28)) (fun _ hk => trivial), by repeat (first | (with_reducible first | exact HB.out | apply below_alloc | apply pw_below_drewN | apply below_drew1 | refine below_set ?_ GE101.out | refine below_set ?_ GE102.out | refine below_set ?_ GE103.out) | exact HB.out)⟩
    ·rw [if_neg c6] at H
     exact absurd H (by simp)
   ·rw [if_neg c5] at H
    exact absurd H (by simp)
  ·rw [if_neg c4] at H
   exact absurd H (by simp)
 ·rw [if_neg c3] at H
  exact absurd H (by simp)

/-! ### impl_CgroupSummary_1_1: function 112 -/
def impl_CgroupSummary_1_1.f (a0_0 : ByteArray) (a0_1 : Int) (a0_2 : Int) (a0_3 : Int) : Option (ByteArray × Int × Bool × Int × Int × Nat × ByteArray × (List (S35))) := (impl_procfsCgroupSummary.f (⟨#[]⟩ : ByteArray) a0_0 a0_1 a0_2 a0_3).bind fun bt118 => (some (bt118.1, bt118.2.1, bt118.2.2.1, bt118.2.2.2.1, bt118.2.2.2.2.1, bt118.2.2.2.2.2.1, bt118.2.2.2.2.2.2.1, bt118.2.2.2.2.2.2.2))
set_option maxHeartbeats 8000000 in
set_option maxRecDepth 100000 in
theorem impl_CgroupSummary_1_1.calls (a0_0 : ByteArray) (a0_1 : Int) (a0_2 : Int) (a0_3 : Int) (r1 : ByteArray) (r2 : Int) (r3 : Bool) (r4 : Int) (r5 : Int) (r6 : Nat) (r7 : ByteArray) (r8 : List (S35)) (w : World) (h : impl_CgroupSummary_1_1.f a0_0 a0_1 a0_2 a0_3 = some (r1, r2, r3, r4, r5, r6, r7, r8)) :
  Calls Tryz.prog 112 #[.agg #[.string a0_0, .int .i64 a0_1, .int .i64 a0_2, .int .i64 a0_3]] w fun e w' => ∃ v7_ : Value, e = .returned (.agg #[.string r1, .int .i64 r2, .bool r3, .int .i64 r4, .int .u64 r5, .float .f64 r6, .string r7, v7_]) ∧ Kd.R k35 35 w' w.heap.size (fun _ => True) v7_ r8 ∧ Below w.heap.size w w' := by
 have hu142 := Tryz.underlying142
 have hu35 := Tryz.underlying35
 have HB := Aside0.mk (Below.refl w.heap.size w)
 have H : ((impl_procfsCgroupSummary.f (⟨#[]⟩ : ByteArray) a0_0 a0_1 a0_2 a0_3).bind fun bt118 => (some (bt118.1, bt118.2.1, bt118.2.2.1, bt118.2.2.2.1, bt118.2.2.2.2.1, bt118.2.2.2.2.2.1, bt118.2.2.2.2.2.2.1, bt118.2.2.2.2.2.2.2))) = some (r1, r2, r3, r4, r5, r6, r7, r8) := h
 clear h
 replace H := Option.bind_eq_some_iff.mp H
 obtain ⟨⟨t118, t119, t120, t121, t122, t123, t124, t125⟩, A20, H⟩ := H
 replace H : (some (t118, t119, t120, t121, t122, t123, t124, t125)) = some (r1, r2, r3, r4, r5, r6, r7, r8) := H
 have A2 := Aside0.mk A20
 clear A20
 simp only [Option.some.injEq, Prod.mk.injEq] at H
 obtain ⟨rfl, rfl, rfl, rfl, rfl, rfl, rfl, rfl⟩ := H
 go_enter Tryz.func112, Tryz.ntmps112
 go_wp2_with (first | ((with_reducible refine gate_dst (N := 1) rfl ?_); refine box_event ?hg (N := 1) ?hd (cs := #[.string a0_0, .int .i64 a0_1, .int .i64 a0_2, .int .i64 a0_3]) (t := 142) ?hr ?_; (case hd => rfl); (case hg => rfl); (case hr => first | (go_simp; done) | (go_simp; rfl)); intro gb116 hg w3 hbox hb; have n0_ := Aside0.mk (below_step belH hb); have n1_ := Aside0.mk (hbox); have n2_ := Aside0.mk ((by rw [hg]; exact (below_size belH) : w.heap.size ≤ gb116)); have n3_ := Aside0.mk ((by rw [hg]; exact (below_size belH) : w.heap.size ≤ gb116)); clear HB; have HB := n0_; have BK116 := n1_; have GW116 := n2_; have GE116 := n3_; clear n0_ n1_ n2_ n3_; clear hb hbox hg) | ((with_reducible refine gate_dst (N := 2) rfl ?_); refine box_event ?hg (N := 2) ?hd (cs := #[.string (⟨#[]⟩ : ByteArray), .int .i64 0, .bool false, .int .i64 0, .int .u64 0, .float .f64 0, .string (⟨#[]⟩ : ByteArray), .slice none 0 0]) (t := 35) ?hr ?_; (case hd => rfl); (case hg => rfl); (case hr => first | (go_simp; done) | (go_simp; rfl)); intro gb117 hg w4 hbox hb; have n0_ := Aside0.mk (blk_below (g := gb116) (o := .cells #[.string a0_0, .int .i64 a0_1, .int .i64 a0_2, .int .i64 a0_3] 142 (0, 0)) (by (with_reducible repeat (first | refine bN ?_ _ | refine bW ?_ | refine bA ?_ _)); exact BK116.out) hb); have n1_ := Aside0.mk (below_step belS hb); have n2_ := Aside0.mk (hbox); have n3_ := Aside0.mk ((by rw [hg]; exact (below_size belS) : w.heap.size ≤ gb117)); have n4_ := Aside0.mk ((by rw [hg]; exact (below_size belS) : w.heap.size ≤ gb117)); have n5_ := Aside0.mk ((by rw [hg]; exact Nat.ne_of_lt (blk_lt (g := gb116) (o := .cells #[.string a0_0, .int .i64 a0_1, .int .i64 a0_2, .int .i64 a0_3] 142 (0, 0)) (by (with_reducible repeat (first | refine bN ?_ _ | refine bW ?_ | refine bA ?_ _)); exact BK116.out)) : gb116 ≠ gb117)); have n6_ := Aside0.mk ((by rw [hg]; exact Nat.ne_of_gt (blk_lt (g := gb116) (o := .cells #[.string a0_0, .int .i64 a0_1, .int .i64 a0_2, .int .i64 a0_3] 142 (0, 0)) (by (with_reducible repeat (first | refine bN ?_ _ | refine bW ?_ | refine bA ?_ _)); exact BK116.out)) : gb117 ≠ gb116)); clear BK116; clear HB; have BK116 := n0_; have HB := n1_; have BK117 := n2_; have GW117 := n3_; have GE117 := n4_; have NB116_117 := n5_; have NB117_116 := n6_; clear n0_ n1_ n2_ n3_ n4_ n5_ n6_; clear hb hbox hg; have hnb5 := NB116_117.out; have hnc5 := NB117_116.out; have hcz6_0 : w4.cell? ⟨gb116, 0, none⟩ = some (.string a0_0) := (blk_cell BK116.out 0).trans rfl; have hcz6_1 : w4.cell? ⟨gb116, 1, none⟩ = some (.int .i64 a0_1) := (blk_cell BK116.out 1).trans rfl; have hcz6_2 : w4.cell? ⟨gb116, 2, none⟩ = some (.int .i64 a0_2) := (blk_cell BK116.out 2).trans rfl; have hcz6_3 : w4.cell? ⟨gb116, 3, none⟩ = some (.int .i64 a0_3) := (blk_cell BK116.out 3).trans rfl; have hfz6_0 := blk_frozen BK116.out 0; have hfz6_1 := blk_frozen BK116.out 1; have hfz6_2 := blk_frozen BK116.out 2; have hfz6_3 := blk_frozen BK116.out 3) | ((with_reducible refine gate_callee (f := 113) rfl ?_); refine goesL_ (some 4) rfl rfl Tryz.func113 (by kernel_rfl) rfl #[.string (⟨#[]⟩ : ByteArray), .agg #[.string a0_0, .int .i64 a0_1, .int .i64 a0_2, .int .i64 a0_3]] rfl (by (try simp only [List.map_toArray, List.map_cons, List.map_nil]); first | done | rfl | (simp only [List.length_drop, List.length_take]; rfl)) ?_; (with_reducible refine (impl_procfsCgroupSummary.calls (⟨#[]⟩ : ByteArray) a0_0 a0_1 a0_2 a0_3 t118 t119 t120 t121 t122 t123 t124 t125 _ A2.out).mono ?_); rintro e w7 ⟨v126, rfl, ho0, hb⟩; refine ⟨_, rfl, ?_⟩; have n0_ := Aside0.mk (Kd.R_lower (Kd.R_newB ho0 (g := gb117) (o := .cells #[.string (⟨#[]⟩ : ByteArray), .int .i64 0, .bool false, .int .i64 0, .int .u64 0, .float .f64 0, .string (⟨#[]⟩ : ByteArray), .slice none 0 0] 35 (0, 0)) (by (with_reducible repeat (first | refine bN ?_ _ | refine bW ?_ | refine bA ?_ _)); exact BK117.out)) (below_size belS)); have n1_ := Aside0.mk (blk_below (g := gb116) (o := .cells #[.string a0_0, .int .i64 a0_1, .int .i64 a0_2, .int .i64 a0_3] 142 (0, 0)) (by (with_reducible repeat (first | refine bN ?_ _ | refine bW ?_ | refine bA ?_ _)); exact BK116.out) hb); have n2_ := Aside0.mk (blk_below (g := gb117) (o := .cells #[.string (⟨#[]⟩ : ByteArray), .int .i64 0, .bool false, .int .i64 0, .int .u64 0, .float .f64 0, .string (⟨#[]⟩ : ByteArray), .slice none 0 0] 35 (0, 0)) (by (with_reducible repeat (first | refine bN ?_ _ | refine bW ?_ | refine bA ?_ _)); exact BK117.out) hb); have n3_ := Aside0.mk (below_step belS hb); clear BK116; clear BK117; clear HB; have HO127 := n0_; have BK116 := n1_; have BK117 := n2_; have HB := n3_; clear n0_ n1_ n2_ n3_; (try clear hb); (try clear hb2); (try clear hk); (try clear hi); (try clear ho0); have hcz8_0 : w7.cell? ⟨gb117, 0, none⟩ = some (.string (⟨#[]⟩ : ByteArray)) := (blk_cell BK117.out 0).trans rfl; have hcz8_1 : w7.cell? ⟨gb117, 1, none⟩ = some (.int .i64 0) := (blk_cell BK117.out 1).trans rfl; have hcz8_2 : w7.cell? ⟨gb117, 2, none⟩ = some (.bool false) := (blk_cell BK117.out 2).trans rfl; have hcz8_3 : w7.cell? ⟨gb117, 3, none⟩ = some (.int .i64 0) := (blk_cell BK117.out 3).trans rfl; have hcz8_4 : w7.cell? ⟨gb117, 4, none⟩ = some (.int .u64 0) := (blk_cell BK117.out 4).trans rfl; have hcz8_5 : w7.cell? ⟨gb117, 5, none⟩ = some (.float .f64 0) := (blk_cell BK117.out 5).trans rfl; have hcz8_6 : w7.cell? ⟨gb117, 6, none⟩ = some (.string (⟨#[]⟩ : ByteArray)) := (blk_cell BK117.out 6).trans rfl; have hcz8_7 : w7.cell? ⟨gb117, 7, none⟩ = some (.slice none 0 0) := (blk_cell BK117.out 7).trans rfl; have hfz8_0 := blk_frozen BK117.out 0; have hfz8_1 := blk_frozen BK117.out 1; have hfz8_2 := blk_frozen BK117.out 2; have hfz8_3 := blk_frozen BK117.out 3; have hfz8_4 := blk_frozen BK117.out 4; have hfz8_5 := blk_frozen BK117.out 5; have hfz8_6 := blk_frozen BK117.out 6; have hfz8_7 := blk_frozen BK117.out 7; obtain ⟨Ao9, co9, eo9⟩ := Kd.R_slice HO127.out; subst eo9))
 refine bodyPost_ret (results_cell_row rfl _ _ gb117 35 #[.string t118, .int .i64 t119, .bool t120, .int .i64 t121, .int .u64 t122, .float .f64 t123, .string t124, .slice Ao9 t125.length co9] (0, 0) _ rfl (by (with_reducible repeat (first | refine bN ?_ _ | refine bW ?_ | refine bA ?_ _)); exact blk_put8 BK117.out) Tryz.underlying35 rfl (by kernel_rfl)) rfl ?_
 exact ⟨_, by first | rfl | (simp [errW_none, errW_some] <;> rfl) | (simp [*, errW_none, errW_some] <;> rfl), by (with_reducible repeat (first | apply Kd.R_alloc | apply Kd.R_drewN | apply Kd.R_drew)); exact Kd.R_mono (Kd.R_far8 (g := gb117) (Kd.R_mono HO127.out (fun k_ hk => (⟨hk, hk.2⟩ : _ ∧ k_ ≠ gb117))) (fun _ hk => hk.2) (.string t118) (.int .i64 t119) (.bool t120) (.int .i64 t121) (.int .u64 t122) (.float .f64 t123) (.string t124) (.slice Ao9 t125.length co9)) (fun _ hk => trivial), by repeat (first | (with_reducible first | exact HB.out | apply below_alloc | apply pw_below_drewN | apply below_drew1 | refine below_set ?_ GE116.out | refine below_set ?_ GE117.out) | exact HB.out)⟩

/-! ### procfs_CgroupSummary___CgroupSummary: function 111 -/
def procfs_CgroupSummary___CgroupSummary.l0 : Nat → List (S142) → Int → Int → ByteArray → Int → Bool → Int → Int → Nat → ByteArray → List (S35) → Option (ByteArray × Int × Bool × Int × Int × Nat × ByteArray × (List (S35)))
 | 0, _, _, _, _, _, _, _, _, _, _, _ => none
 | k + 1, x12, x13, x14, x130000, x130001, x130002, x130003, x130004, x130005, x130006, x130007 => if x14 < x13 then (if 0 ≤ x14 then (if x14 < (x12.length : Int) then ((impl_CgroupSummary_1_1.f ((rd_T142 x12 x14).f0) ((rd_T142 x12 x14).f1) ((rd_T142 x12 x14).f2) ((rd_T142 x12 x14).f3)).bind fun bt132 => (if x130007.length < 1466015503701 then (procfs_CgroupSummary___CgroupSummary.l0 k x12 x13 (wrap64 (x14 + 1)) x130000 x130001 x130002 x130003 x130004 x130005 x130006 (x130007 ++ [(⟨bt132.1, bt132.2.1, bt132.2.2.1, bt132.2.2.2.1, bt132.2.2.2.2.1, bt132.2.2.2.2.2.1, bt132.2.2.2.2.2.2.1, bt132.2.2.2.2.2.2.2⟩ : S35)])) else (none))) else (none)) else (none)) else (some (x130000, x130001, x130002, x130003, x130004, x130005, x130006, x130007))
def procfs_CgroupSummary___CgroupSummary.f (k : Nat) (a0 : ByteArray) (l1 : List (S142))  : Option (ByteArray × Int × Bool × Int × Int × Nat × ByteArray × (List (S35))) := procfs_CgroupSummary___CgroupSummary.l0 k l1 (l1.length : Int) 0 a0 6 false 0 0 0 (⟨#[]⟩ : ByteArray) ([] : List (S35))
theorem procfs_CgroupSummary___CgroupSummary.mono_l : ∀ k, (∀ y0 y1 y2 y3 y4 y5 y6 y7 y8 y9 y10, LeO (procfs_CgroupSummary___CgroupSummary.l0 k y0 y1 y2 y3 y4 y5 y6 y7 y8 y9 y10) (procfs_CgroupSummary___CgroupSummary.l0 (k + 1) y0 y1 y2 y3 y4 y5 y6 y7 y8 y9 y10))
 | 0 => fun _ _ _ _ _ _ _ _ _ _ _ r h => by simp [procfs_CgroupSummary___CgroupSummary.l0] at h
 | k + 1 => by
  have ih0 := procfs_CgroupSummary___CgroupSummary.mono_l k
  ·intro y0 y1 y2 y3 y4 y5 y6 y7 y8 y9 y10
   unfold procfs_CgroupSummary___CgroupSummary.l0
   repeat' first
   | (with_reducible exact ih0 _ _ _ _ _ _ _ _ _ _ _)
   | (with_reducible exact LeO.refl _)
   | (with_reducible exact LeO.none _)
   | (with_reducible refine LeO.ite ?_ ?_)
   | (with_reducible refine LeO.bind ?_ (fun _ => ?_))
   | exact ih0 _ _ _ _ _ _ _ _ _ _ _
   | exact LeO.none _
   | refine LeO.ite ?_ ?_
   | refine LeO.bind ?_ (fun _ => ?_)
theorem procfs_CgroupSummary___CgroupSummary.mono : ∀ a0 a1 k, LeO (procfs_CgroupSummary___CgroupSummary.f k a0 a1) (procfs_CgroupSummary___CgroupSummary.f (k + 1) a0 a1) := by
 intro a0 a1 k
 have ih0 := procfs_CgroupSummary___CgroupSummary.mono_l k
 unfold procfs_CgroupSummary___CgroupSummary.f
 repeat' first
   | (with_reducible exact ih0 _ _ _ _ _ _ _ _ _ _ _)
   | (with_reducible exact LeO.refl _)
   | (with_reducible exact LeO.none _)
   | (with_reducible refine LeO.ite ?_ ?_)
   | (with_reducible refine LeO.bind ?_ (fun _ => ?_))
   | exact ih0 _ _ _ _ _ _ _ _ _ _ _
   | exact LeO.none _
   | refine LeO.ite ?_ ?_
   | refine LeO.bind ?_ (fun _ => ?_)
def procfs_CgroupSummary___CgroupSummary.T5 : Bool × List (List Nat × List Nat) := (true, [([], []), ([0], [0]), ([], []), ([], []), ([2, 3], [2, 3]), ([4], [4]), ([1, 5, 4], [1, 5]), ([0, 1, 2, 3, 4, 5, 6], []), ([7, 6, 6, 0, 1, 2, 3, 4, 5, 6], [6, 7])])
def procfs_CgroupSummary___CgroupSummary.B5 : List Nat := [0, 1, 0, 0, 12, 28, 63, 127, 255]
theorem procfs_CgroupSummary___CgroupSummary.tab5 : rtab .any (opsOf Tryz.f111 5) = procfs_CgroupSummary___CgroupSummary.T5 := by kernel_rfl
theorem procfs_CgroupSummary___CgroupSummary.bits5 : waitsOk procfs_CgroupSummary___CgroupSummary.T5.2 procfs_CgroupSummary___CgroupSummary.B5 = true := by kernel_rfl
set_option maxHeartbeats 8000000 in
set_option maxRecDepth 100000 in
theorem procfs_CgroupSummary___CgroupSummary.calls (k : Nat) (a0 : ByteArray) (A1 : Option Addr) (c1 : Nat) (l1 : List (S142))  (r1 : ByteArray) (r2 : Int) (r3 : Bool) (r4 : Int) (r5 : Int) (r6 : Nat) (r7 : ByteArray) (r8 : List (S35)) (w : World) (hr1 : Kd.C k142 w A1 l1.length l1) (hc1 : l1.length ≤ c1) (h : procfs_CgroupSummary___CgroupSummary.f k a0 l1 = some (r1, r2, r3, r4, r5, r6, r7, r8)) :
  Calls Tryz.prog 111 #[.string a0, .slice A1 l1.length c1, .func (.func 112) #[] #[]] w fun e w' => ∃ v7_ : Value, e = .returned (.agg #[.string r1, .int .i64 r2, .bool r3, .int .i64 r4, .int .u64 r5, .float .f64 r6, .string r7, v7_]) ∧ Kd.R k35 35 w' w.heap.size (fun _ => True) v7_ r8 ∧ Below w.heap.size w w' := by
 have hu35 := Tryz.underlying35
 have hu142 := Tryz.underlying142
 have HR1 := Aside0.mk hr1
 have HC1 := Aside0.mk hc1
 clear hr1 hc1
 have HB := Aside0.mk (Below.refl w.heap.size w)
 have H : (procfs_CgroupSummary___CgroupSummary.l0 k l1 (l1.length : Int) 0 a0 6 false 0 0 0 (⟨#[]⟩ : ByteArray) ([] : List (S35))) = some (r1, r2, r3, r4, r5, r6, r7, r8) := h
 clear h
 have H' := Aside0.mk H
 clear H
 go_enter Tryz.func111, Tryz.ntmps111
 go_wp2_with (first | ((with_reducible refine gate_dst (N := 6) rfl ?_); refine box_event ?hg (N := 6) ?hd (cs := #[.string (⟨#[]⟩ : ByteArray), .int .i64 0, .bool false, .int .i64 0, .int .u64 0, .float .f64 0, .string (⟨#[]⟩ : ByteArray), .slice none 0 0]) (t := 35) ?hr ?_; (case hd => rfl); (case hg => rfl); (case hr => first | (go_simp; done) | (go_simp; rfl)); intro gb128 hg w4 hbox hb; have n0_ := Aside0.mk (below_step belH hb); have n1_ := Aside0.mk (hbox); have n2_ := Aside0.mk ((by rw [hg]; exact (below_size belH) : w.heap.size ≤ gb128)); have n3_ := Aside0.mk ((by rw [hg]; exact (below_size belH) : w.heap.size ≤ gb128)); clear HB; have HB := n0_; have BK128 := n1_; have GW128 := n2_; have GE128 := n3_; clear n0_ n1_ n2_ n3_; clear hb hbox hg) | ((with_reducible refine gate_dst (N := 7) rfl ?_); refine box_event ?hg (N := 7) ?hd (cs := #[.string (⟨#[]⟩ : ByteArray), .int .i64 0, .bool false, .int .i64 0, .int .u64 0, .float .f64 0, .string (⟨#[]⟩ : ByteArray), .slice none 0 0]) (t := 35) ?hr ?_; (case hd => rfl); (case hg => rfl); (case hr => first | (go_simp; done) | (go_simp; rfl)); intro gb129 hg w5 hbox hb; have n0_ := Aside0.mk (blk_below (g := gb128) (o := .cells #[.string (⟨#[]⟩ : ByteArray), .int .i64 0, .bool false, .int .i64 0, .int .u64 0, .float .f64 0, .string (⟨#[]⟩ : ByteArray), .slice none 0 0] 35 (0, 0)) (by (with_reducible repeat (first | refine bN ?_ _ | refine bW ?_ | refine bA ?_ _)); exact BK128.out) hb); have n1_ := Aside0.mk (below_step belS hb); have n2_ := Aside0.mk (hbox); have n3_ := Aside0.mk ((by rw [hg]; exact (below_size belS) : w.heap.size ≤ gb129)); have n4_ := Aside0.mk ((by rw [hg]; exact (below_size belS) : w.heap.size ≤ gb129)); have n5_ := Aside0.mk ((by rw [hg]; exact Nat.ne_of_lt (blk_lt (g := gb128) (o := .cells #[.string (⟨#[]⟩ : ByteArray), .int .i64 0, .bool false, .int .i64 0, .int .u64 0, .float .f64 0, .string (⟨#[]⟩ : ByteArray), .slice none 0 0] 35 (0, 0)) (by (with_reducible repeat (first | refine bN ?_ _ | refine bW ?_ | refine bA ?_ _)); exact BK128.out)) : gb128 ≠ gb129)); have n6_ := Aside0.mk ((by rw [hg]; exact Nat.ne_of_gt (blk_lt (g := gb128) (o := .cells #[.string (⟨#[]⟩ : ByteArray), .int .i64 0, .bool false, .int .i64 0, .int .u64 0, .float .f64 0, .string (⟨#[]⟩ : ByteArray), .slice none 0 0] 35 (0, 0)) (by (with_reducible repeat (first | refine bN ?_ _ | refine bW ?_ | refine bA ?_ _)); exact BK128.out)) : gb129 ≠ gb128)); clear BK128; clear HB; have BK128 := n0_; have HB := n1_; have BK129 := n2_; have GW129 := n3_; have GE129 := n4_; have NB128_129 := n5_; have NB129_128 := n6_; clear n0_ n1_ n2_ n3_ n4_ n5_ n6_; clear hb hbox hg; have hnb6 := NB129_128.out; have hnc6 := NB128_129.out; have hcz7_0 : w5.cell? ⟨gb129, 0, none⟩ = some (.string (⟨#[]⟩ : ByteArray)) := (blk_cell BK129.out 0).trans rfl; have hcz7_1 : w5.cell? ⟨gb129, 1, none⟩ = some (.int .i64 0) := (blk_cell BK129.out 1).trans rfl; have hcz7_2 : w5.cell? ⟨gb129, 2, none⟩ = some (.bool false) := (blk_cell BK129.out 2).trans rfl; have hcz7_3 : w5.cell? ⟨gb129, 3, none⟩ = some (.int .i64 0) := (blk_cell BK129.out 3).trans rfl; have hcz7_4 : w5.cell? ⟨gb129, 4, none⟩ = some (.int .u64 0) := (blk_cell BK129.out 4).trans rfl; have hcz7_5 : w5.cell? ⟨gb129, 5, none⟩ = some (.float .f64 0) := (blk_cell BK129.out 5).trans rfl; have hcz7_6 : w5.cell? ⟨gb129, 6, none⟩ = some (.string (⟨#[]⟩ : ByteArray)) := (blk_cell BK129.out 6).trans rfl; have hcz7_7 : w5.cell? ⟨gb129, 7, none⟩ = some (.slice none 0 0) := (blk_cell BK129.out 7).trans rfl; have hfz7_0 := blk_frozen BK129.out 0; have hfz7_1 := blk_frozen BK129.out 1; have hfz7_2 := blk_frozen BK129.out 2; have hfz7_3 := blk_frozen BK129.out 3; have hfz7_4 := blk_frozen BK129.out 4; have hfz7_5 := blk_frozen BK129.out 5; have hfz7_6 := blk_frozen BK129.out 6; have hfz7_7 := blk_frozen BK129.out 7))
 go_loopg [14] k (fun kq v14 w' => ∃ (x14_1 : Int) (x130007_1 : List (S35)) (u130007 : Value), v14 = .int .i64 x14_1 ∧ Aside0 (procfs_CgroupSummary___CgroupSummary.l0 kq l1 (l1.length : Int) x14_1 a0 6 false 0 0 0 (⟨#[]⟩ : ByteArray) x130007_1 = some (r1, r2, r3, r4, r5, r6, r7, r8)) ∧ Aside0 (kq ≤ k) ∧ Aside0 (Kd.R k35 35 w' w.heap.size (fun k_ => k_ ≠ gb128 ∧ k_ ≠ gb129) u130007 x130007_1) ∧ Aside0 (w'.heap[gb128]? = some (.cells #[.string (⟨#[]⟩ : ByteArray), .int .i64 0, .bool false, .int .i64 0, .int .u64 0, .float .f64 0, .string (⟨#[]⟩ : ByteArray), (.slice none 0 0)] 35 (0, 0))) ∧ Aside0 (w'.heap[gb129]? = some (.cells #[.string a0, .int .i64 6, .bool false, .int .i64 0, .int .u64 0, .float .f64 0, .string (⟨#[]⟩ : ByteArray), u130007] 35 (0, 0))) ∧ Aside0 (Below w.heap.size w w'))
 case atStart => exact ⟨(0), (([] : List (S35))), (.slice none 0 0), (by first | rfl | (simp; done) | (simp [*]; done) | (simp [bne_nil]; done) | (simp [bne_nil, *]; done)), H', ⟨Nat.le_refl _⟩, ⟨by first | exact Kd.R_nil _ _ _ _ _ | exact Kd.N_nil _ _ _ _ _ | exact Kd.V_nil _ _ _ _ _ | exact Kd.Q_nil _ _ _ _ _ | exact Kd.S_nil _ _ _ _ _⟩, ⟨by (with_reducible repeat (first | refine bN ?_ _ | refine bW ?_ | refine bA ?_ _)); refine blk_far ?_ NB128_129.out _; (with_reducible repeat (first | refine bN ?_ _ | refine bW ?_ | refine bA ?_ _)); refine blk_far ?_ NB128_129.out _; (with_reducible repeat (first | refine bN ?_ _ | refine bW ?_ | refine bA ?_ _)); refine blk_far ?_ NB128_129.out _; (with_reducible repeat (first | refine bN ?_ _ | refine bW ?_ | refine bA ?_ _)); refine blk_far ?_ NB128_129.out _; (with_reducible repeat (first | refine bN ?_ _ | refine bW ?_ | refine bA ?_ _)); refine blk_far ?_ NB128_129.out _; (with_reducible repeat (first | refine bN ?_ _ | refine bW ?_ | refine bA ?_ _)); refine blk_far ?_ NB128_129.out _; (with_reducible repeat (first | refine bN ?_ _ | refine bW ?_ | refine bA ?_ _)); refine blk_far ?_ NB128_129.out _; (with_reducible repeat (first | refine bN ?_ _ | refine bW ?_ | refine bA ?_ _)); refine blk_far ?_ NB128_129.out _; (with_reducible repeat (first | refine bN ?_ _ | refine bW ?_ | refine bA ?_ _)); exact BK128.out⟩, ⟨by (with_reducible repeat (first | refine bN ?_ _ | refine bW ?_ | refine bA ?_ _)); exact blk_put8 BK129.out⟩, ⟨by repeat (first | (with_reducible first | exact HB.out | apply below_alloc | apply pw_below_drewN | apply below_drew1 | refine below_set ?_ GE128.out | refine below_set ?_ GE129.out) | exact HB.out)⟩⟩
 case round =>
  clear H'
  try clear c1
  try clear p2
  try clear c6
  try clear hcz7_0
  try clear hcz7_1
  try clear hcz7_2
  try clear hcz7_3
  try clear hcz7_4
  try clear hcz7_5
  try clear hcz7_6
  try clear hcz7_7
  try clear hfz7_0
  try clear hfz7_1
  try clear hfz7_2
  try clear hfz7_3
  try clear hfz7_4
  try clear hfz7_5
  try clear hfz7_6
  try clear hfz7_7
  obtain ⟨x14_1, x130007_1, u130007, rfl, HA, HK1, HO_130007, BK128, BK129, HB⟩ := hrel
  cases gk with
  | zero => exact absurd HA.out (by simp [procfs_CgroupSummary___CgroupSummary.l0])
  | succ k1 =>
   have H := HA.out
   clear HA
   simp only [procfs_CgroupSummary___CgroupSummary.l0] at H
   by_cases c8 : x14_1 < (l1.length : Int)
   ·rw [if_pos c8] at H
    have c8b0 : decide (x14_1 < (l1.length : Int)) = true := decide_eq_true c8
    clear c8
    by_cases c9 : 0 ≤ x14_1
    ·rw [if_pos c9] at H
     have c9b0 : decide (0 ≤ x14_1) = true := decide_eq_true c9
     clear c9
     by_cases c10 : x14_1 < (l1.length : Int)
     ·rw [if_pos c10] at H
      have c10b0 : decide (x14_1 < (l1.length : Int)) = true := decide_eq_true c10
      clear c10
      replace H := Option.bind_eq_some_iff.mp H
      obtain ⟨⟨t132, t133, t134, t135, t136, t137, t138, t139⟩, A110, H⟩ := H
      replace H : (if x130007_1.length < 1466015503701 then (procfs_CgroupSummary___CgroupSummary.l0 k1 l1 (l1.length : Int) (wrap64 (x14_1 + 1)) a0 6 false 0 0 0 (⟨#[]⟩ : ByteArray) (x130007_1 ++ [(⟨t132, t133, t134, t135, t136, t137, t138, t139⟩ : S35)])) else (none)) = some (r1, r2, r3, r4, r5, r6, r7, r8) := H
      have A11 := Aside0.mk A110
      clear A110
      by_cases c12 : x130007_1.length < 1466015503701
      ·rw [if_pos c12] at H
       have LMc12 := Aside0.mk c12
       clear c12
       obtain ⟨y142, hy142⟩ : ∃ y_ : List (S35), y_ = (x130007_1 ++ [(⟨t132, t133, t134, t135, t136, t137, t138, t139⟩ : S35)]) := ⟨_, rfl⟩
       replace H : (procfs_CgroupSummary___CgroupSummary.l0 k1 l1 (l1.length : Int) (wrap64 (x14_1 + 1)) a0 6 false 0 0 0 (⟨#[]⟩ : ByteArray) y142) = some (r1, r2, r3, r4, r5, r6, r7, r8) := by first | (rw [hy142]; with_reducible exact H) | (have H2_ := (Option.bind_some _ _).symm.trans H; rw [hy142]; with_reducible exact H2_) | (have H2_ := (Option.bind_some _ _).symm.trans H; with_reducible exact H2_) | with_reducible exact H | (rw [hy142]; exact H) | exact H
       have Ny142 := Aside0.mk hy142
       clear hy142
       have H' := Aside0.mk H
       clear H
       have p130 : 0 ≤ (x14_1 : Int) := of_decide_eq_true (by first | (with_reducible assumption) | assumption)
       have q130 : x14_1 < (l1.length : Int) := of_decide_eq_true (by first | (with_reducible assumption) | assumption)
       obtain ⟨ad130, e130, hx130_0, hx130_1, hx130_2, hx130_3⟩ := at_T142 HR1.out x14_1 p130 q130
       cases e130
       replace hx130_0 := (HB.out.cell (World.block_lt_of_cell? w _ hx130_0)).trans hx130_0
       replace hx130_1 := (HB.out.cell (World.block_lt_of_cell? w _ hx130_1)).trans hx130_1
       replace hx130_2 := (HB.out.cell (World.block_lt_of_cell? w _ hx130_2)).trans hx130_2
       replace hx130_3 := (HB.out.cell (World.block_lt_of_cell? w _ hx130_3)).trans hx130_3
       replace p130 := eq_true p130
       replace q130 := eq_true q130
       try go_wp2_with (first | ((with_reducible refine gate_dst (N := 9) rfl ?_); refine box_event ?hg (N := 9) ?hd (cs := #[.string (⟨#[]⟩ : ByteArray), .int .i64 0, .int .i64 0, .int .i64 0]) (t := 142) ?hr ?_; (case hd => rfl); (case hg => rfl); (case hr => first | (go_simp; done) | (go_simp; rfl)); intro gb131 hg w13 hbox hb; have n0_ := Aside0.mk (Kd.R_below (by (with_reducible repeat (first | apply Kd.R_alloc | apply Kd.R_drewN | apply Kd.R_drew)); exact HO_130007.out) hb); have n1_ := Aside0.mk (blk_below (g := gb128) (o := .cells #[.string (⟨#[]⟩ : ByteArray), .int .i64 0, .bool false, .int .i64 0, .int .u64 0, .float .f64 0, .string (⟨#[]⟩ : ByteArray), .slice none 0 0] 35 (0, 0)) (by (with_reducible repeat (first | refine bN ?_ _ | refine bW ?_ | refine bA ?_ _)); exact BK128.out) hb); have n2_ := Aside0.mk (blk_below (g := gb129) (o := .cells #[.string a0, .int .i64 6, .bool false, .int .i64 0, .int .u64 0, .float .f64 0, .string (⟨#[]⟩ : ByteArray), u130007] 35 (0, 0)) (by (with_reducible repeat (first | refine bN ?_ _ | refine bW ?_ | refine bA ?_ _)); exact BK129.out) hb); have n3_ := Aside0.mk (below_step belS hb); have n4_ := Aside0.mk (hbox); have n5_ := Aside0.mk ((by rw [hg]; exact (below_size belS) : w.heap.size ≤ gb131)); have n6_ := Aside0.mk ((by rw [hg]; exact (below_size belS) : w.heap.size ≤ gb131)); have n7_ := Aside0.mk ((by rw [hg]; exact Nat.ne_of_lt (blk_lt (g := gb128) (o := .cells #[.string (⟨#[]⟩ : ByteArray), .int .i64 0, .bool false, .int .i64 0, .int .u64 0, .float .f64 0, .string (⟨#[]⟩ : ByteArray), .slice none 0 0] 35 (0, 0)) (by (with_reducible repeat (first | refine bN ?_ _ | refine bW ?_ | refine bA ?_ _)); exact BK128.out)) : gb128 ≠ gb131)); have n8_ := Aside0.mk ((by rw [hg]; exact Nat.ne_of_gt (blk_lt (g := gb128) (o := .cells #[.string (⟨#[]⟩ : ByteArray), .int .i64 0, .bool false, .int .i64 0, .int .u64 0, .float .f64 0, .string (⟨#[]⟩ : ByteArray), .slice none 0 0] 35 (0, 0)) (by (with_reducible repeat (first | refine bN ?_ _ | refine bW ?_ | refine bA ?_ _)); exact BK128.out)) : gb131 ≠ gb128)); have n9_ := Aside0.mk ((by rw [hg]; exact Nat.ne_of_lt (blk_lt (g := gb129) (o := .cells #[.string a0, .int .i64 6, .bool false, .int .i64 0, .int .u64 0, .float .f64 0, .string (⟨#[]⟩ : ByteArray), u130007] 35 (0, 0)) (by (with_reducible repeat (first | refine bN ?_ _ | refine bW ?_ | refine bA ?_ _)); exact BK129.out)) : gb129 ≠ gb131)); have n10_ := Aside0.mk ((by rw [hg]; exact Nat.ne_of_gt (blk_lt (g := gb129) (o := .cells #[.string a0, .int .i64 6, .bool false, .int .i64 0, .int .u64 0, .float .f64 0, .string (⟨#[]⟩ : ByteArray), u130007] 35 (0, 0)) (by (with_reducible repeat (first | refine bN ?_ _ | refine bW ?_ | refine bA ?_ _)); exact BK129.out)) : gb131 ≠ gb129)); clear HO_130007; clear BK128; clear BK129; clear HB; have HO_130007 := n0_; have BK128 := n1_; have BK129 := n2_; have HB := n3_; have BK131 := n4_; have GW131 := n5_; have GE131 := n6_; have NB128_131 := n7_; have NB131_128 := n8_; have NB129_131 := n9_; have NB131_129 := n10_; clear n0_ n1_ n2_ n3_ n4_ n5_ n6_ n7_ n8_ n9_ n10_; clear hb hbox hg; have hnb14 := NB131_128.out; have hnc14 := NB128_131.out; have hnb15 := NB131_129.out; have hnc15 := NB129_131.out; have hcz16_0 : w13.cell? ⟨gb131, 0, none⟩ = some (.string (⟨#[]⟩ : ByteArray)) := (blk_cell BK131.out 0).trans rfl; have hcz16_1 : w13.cell? ⟨gb131, 1, none⟩ = some (.int .i64 0) := (blk_cell BK131.out 1).trans rfl; have hcz16_2 : w13.cell? ⟨gb131, 2, none⟩ = some (.int .i64 0) := (blk_cell BK131.out 2).trans rfl; have hcz16_3 : w13.cell? ⟨gb131, 3, none⟩ = some (.int .i64 0) := (blk_cell BK131.out 3).trans rfl; have hfz16_0 := blk_frozen BK131.out 0; have hfz16_1 := blk_frozen BK131.out 1; have hfz16_2 := blk_frozen BK131.out 2; have hfz16_3 := blk_frozen BK131.out 3))
       have n0_ : Aside0 (Kd.R k35 35 ((((w13.setCell ⟨gb131, 0, none⟩ (.string ((rd_T142 l1 x14_1).f0))).setCell ⟨gb131, 1, none⟩ (.int .i64 ((rd_T142 l1 x14_1).f1))).setCell ⟨gb131, 2, none⟩ (.int .i64 ((rd_T142 l1 x14_1).f2))).setCell ⟨gb131, 3, none⟩ (.int .i64 ((rd_T142 l1 x14_1).f3))) w.heap.size (fun k_ => k_ ≠ gb128 ∧ k_ ≠ gb129) u130007 x130007_1) := ⟨by (with_reducible repeat (first | apply Kd.R_alloc | apply Kd.R_drewN | apply Kd.R_drew)); exact Kd.R_mono (Kd.R_far (p := ⟨gb131, 3, none⟩) (Kd.R_far (p := ⟨gb131, 2, none⟩) (Kd.R_far (p := ⟨gb131, 1, none⟩) (Kd.R_far (p := ⟨gb131, 0, none⟩) (Kd.R_types HO_130007.out BK131.out (by decide)) (fun _ hk => hk.2) (.string ((rd_T142 l1 x14_1).f0))) (fun _ hk => hk.2) (.int .i64 ((rd_T142 l1 x14_1).f1))) (fun _ hk => hk.2) (.int .i64 ((rd_T142 l1 x14_1).f2))) (fun _ hk => hk.2) (.int .i64 ((rd_T142 l1 x14_1).f3))) (fun _ hk => ⟨hk.1.1, hk.1.2⟩)⟩
       have n1_ : Aside0 (((((w13.setCell ⟨gb131, 0, none⟩ (.string ((rd_T142 l1 x14_1).f0))).setCell ⟨gb131, 1, none⟩ (.int .i64 ((rd_T142 l1 x14_1).f1))).setCell ⟨gb131, 2, none⟩ (.int .i64 ((rd_T142 l1 x14_1).f2))).setCell ⟨gb131, 3, none⟩ (.int .i64 ((rd_T142 l1 x14_1).f3))).heap[gb128]? = some (.cells #[.string (⟨#[]⟩ : ByteArray), .int .i64 0, .bool false, .int .i64 0, .int .u64 0, .float .f64 0, .string (⟨#[]⟩ : ByteArray), .slice none 0 0] 35 (0, 0))) := ⟨by (with_reducible repeat (first | refine bN ?_ _ | refine bW ?_ | refine bA ?_ _)); refine blk_far ?_ NB128_131.out _; (with_reducible repeat (first | refine bN ?_ _ | refine bW ?_ | refine bA ?_ _)); refine blk_far ?_ NB128_131.out _; (with_reducible repeat (first | refine bN ?_ _ | refine bW ?_ | refine bA ?_ _)); refine blk_far ?_ NB128_131.out _; (with_reducible repeat (first | refine bN ?_ _ | refine bW ?_ | refine bA ?_ _)); refine blk_far ?_ NB128_131.out _; (with_reducible repeat (first | refine bN ?_ _ | refine bW ?_ | refine bA ?_ _)); exact BK128.out⟩
       have n2_ : Aside0 (((((w13.setCell ⟨gb131, 0, none⟩ (.string ((rd_T142 l1 x14_1).f0))).setCell ⟨gb131, 1, none⟩ (.int .i64 ((rd_T142 l1 x14_1).f1))).setCell ⟨gb131, 2, none⟩ (.int .i64 ((rd_T142 l1 x14_1).f2))).setCell ⟨gb131, 3, none⟩ (.int .i64 ((rd_T142 l1 x14_1).f3))).heap[gb129]? = some (.cells #[.string a0, .int .i64 6, .bool false, .int .i64 0, .int .u64 0, .float .f64 0, .string (⟨#[]⟩ : ByteArray), u130007] 35 (0, 0))) := ⟨by (with_reducible repeat (first | refine bN ?_ _ | refine bW ?_ | refine bA ?_ _)); refine blk_far ?_ NB129_131.out _; (with_reducible repeat (first | refine bN ?_ _ | refine bW ?_ | refine bA ?_ _)); refine blk_far ?_ NB129_131.out _; (with_reducible repeat (first | refine bN ?_ _ | refine bW ?_ | refine bA ?_ _)); refine blk_far ?_ NB129_131.out _; (with_reducible repeat (first | refine bN ?_ _ | refine bW ?_ | refine bA ?_ _)); refine blk_far ?_ NB129_131.out _; (with_reducible repeat (first | refine bN ?_ _ | refine bW ?_ | refine bA ?_ _)); exact BK129.out⟩
       have n3_ : Aside0 (((((w13.setCell ⟨gb131, 0, none⟩ (.string ((rd_T142 l1 x14_1).f0))).setCell ⟨gb131, 1, none⟩ (.int .i64 ((rd_T142 l1 x14_1).f1))).setCell ⟨gb131, 2, none⟩ (.int .i64 ((rd_T142 l1 x14_1).f2))).setCell ⟨gb131, 3, none⟩ (.int .i64 ((rd_T142 l1 x14_1).f3))).heap[gb131]? = some (.cells #[.string ((rd_T142 l1 x14_1).f0), .int .i64 ((rd_T142 l1 x14_1).f1), .int .i64 ((rd_T142 l1 x14_1).f2), .int .i64 ((rd_T142 l1 x14_1).f3)] 142 (0, 0))) := ⟨by (with_reducible repeat (first | refine bN ?_ _ | refine bW ?_ | refine bA ?_ _)); refine blk_put (cs := #[.string ((rd_T142 l1 x14_1).f0), .int .i64 ((rd_T142 l1 x14_1).f1), .int .i64 ((rd_T142 l1 x14_1).f2), .int .i64 0]) ?_ 3 _ rfl; (with_reducible repeat (first | refine bN ?_ _ | refine bW ?_ | refine bA ?_ _)); refine blk_put (cs := #[.string ((rd_T142 l1 x14_1).f0), .int .i64 ((rd_T142 l1 x14_1).f1), .int .i64 0, .int .i64 0]) ?_ 2 _ rfl; (with_reducible repeat (first | refine bN ?_ _ | refine bW ?_ | refine bA ?_ _)); refine blk_put (cs := #[.string ((rd_T142 l1 x14_1).f0), .int .i64 0, .int .i64 0, .int .i64 0]) ?_ 1 _ rfl; (with_reducible repeat (first | refine bN ?_ _ | refine bW ?_ | refine bA ?_ _)); refine blk_put (cs := #[.string (⟨#[]⟩ : ByteArray), .int .i64 0, .int .i64 0, .int .i64 0]) ?_ 0 _ rfl; (with_reducible repeat (first | refine bN ?_ _ | refine bW ?_ | refine bA ?_ _)); exact BK131.out⟩
       have n4_ : Aside0 (Below w.heap.size w ((((w13.setCell ⟨gb131, 0, none⟩ (.string ((rd_T142 l1 x14_1).f0))).setCell ⟨gb131, 1, none⟩ (.int .i64 ((rd_T142 l1 x14_1).f1))).setCell ⟨gb131, 2, none⟩ (.int .i64 ((rd_T142 l1 x14_1).f2))).setCell ⟨gb131, 3, none⟩ (.int .i64 ((rd_T142 l1 x14_1).f3)))) := ⟨by repeat (first | (with_reducible first | exact HB.out | apply below_alloc | apply pw_below_drewN | apply below_drew1 | refine below_set ?_ GE128.out | refine below_set ?_ GE129.out | refine below_set ?_ GE131.out) | exact HB.out)⟩
       (try clear HO_130007)
       (try clear BK128)
       (try clear BK129)
       (try clear BK131)
       (try clear HB)
       generalize ((((w13.setCell ⟨gb131, 0, none⟩ (.string ((rd_T142 l1 x14_1).f0))).setCell ⟨gb131, 1, none⟩ (.int .i64 ((rd_T142 l1 x14_1).f1))).setCell ⟨gb131, 2, none⟩ (.int .i64 ((rd_T142 l1 x14_1).f2))).setCell ⟨gb131, 3, none⟩ (.int .i64 ((rd_T142 l1 x14_1).f3))) = w17 at n0_ n1_ n2_ n3_ n4_ ⊢
       have HO_130007 := n0_
       have BK128 := n1_
       have BK129 := n2_
       have BK131 := n3_
       have HB := n4_
       clear n0_ n1_ n2_ n3_ n4_
       have n0_ := Aside0.mk (Kd.R_drew HO_130007.out)
       have n1_ := Aside0.mk (blk_drew BK128.out)
       have n2_ := Aside0.mk (blk_drew BK129.out)
       have n3_ := Aside0.mk (blk_drew BK131.out)
       have n4_ := Aside0.mk (below_drew1 HB.out)
       clear HO_130007
       clear BK128
       clear BK129
       clear BK131
       clear HB
       have HO_130007 := n0_
       have BK128 := n1_
       have BK129 := n2_
       have BK131 := n3_
       have HB := n4_
       clear n0_ n1_ n2_ n3_ n4_
       refine start_ (n := 9) (S := fun w' => w'.cell? ⟨gb129, 0, none⟩ = some (.string a0) ∧ w'.cell? ⟨gb129, 1, none⟩ = some (.int .i64 6) ∧ w'.cell? ⟨gb129, 2, none⟩ = some (.bool false) ∧ w'.cell? ⟨gb129, 3, none⟩ = some (.int .i64 0) ∧ w'.cell? ⟨gb129, 4, none⟩ = some (.int .u64 0) ∧ w'.cell? ⟨gb129, 5, none⟩ = some (.float .f64 0) ∧ w'.cell? ⟨gb129, 6, none⟩ = some (.string (⟨#[]⟩ : ByteArray)) ∧ w'.cell? ⟨gb129, 7, none⟩ = some (u130007) ∧ w'.cell? ⟨gb131, 0, none⟩ = some (.string ((rd_T142 l1 x14_1).f0)) ∧ w'.cell? ⟨gb131, 1, none⟩ = some (.int .i64 ((rd_T142 l1 x14_1).f1)) ∧ w'.cell? ⟨gb131, 2, none⟩ = some (.int .i64 ((rd_T142 l1 x14_1).f2)) ∧ w'.cell? ⟨gb131, 3, none⟩ = some (.int .i64 ((rd_T142 l1 x14_1).f3))) (ds := [8]) (tfA 0 9) (by kernel_rfl) rfl rfl ⟨(blk_cell BK129.out 0).trans rfl, (blk_cell BK129.out 1).trans rfl, (blk_cell BK129.out 2).trans rfl, (blk_cell BK129.out 3).trans rfl, (blk_cell BK129.out 4).trans rfl, (blk_cell BK129.out 5).trans rfl, (blk_cell BK129.out 6).trans rfl, (blk_cell BK129.out 7).trans rfl, (blk_cell BK131.out 0).trans rfl, (blk_cell BK131.out 1).trans rfl, (blk_cell BK131.out 2).trans rfl, (blk_cell BK131.out 3).trans rfl⟩ (fun hHeld => ?_); refine with_tabW procfs_CgroupSummary___CgroupSummary.tab5 procfs_CgroupSummary___CgroupSummary.bits5 (fun HT_ HW_ => ?_)
       generalize w17.drew = w18 at HO_130007 BK128 BK129 BK131 HB hHeld ⊢
       refine pure_ (i := 0) (N := some 18) (v := ?_) (a' := ?_) (tfA 1 8) rfl rfl (any_of HT_.out (by kernel_rfl)) (fun _ _ _ h => h) (Or.inl ⟨by rfl, ?_⟩) ?_ ?_
       rotate_left
       ·intro w'
        go_simp
        with_reducible rfl
       rotate_left
       ·simp only [Act.put, sA, s0, s1, i64_w, i32_w]
        rfl
       refine pure_ (i := 2) (N := some 20) (v := ?_) (a' := ?_) (bnA 9 5) rfl rfl (any_of HT_.out (by kernel_rfl)) (fun _ _ _ h => h) (Or.inl ⟨by rfl, ?_⟩) ?_ ?_
       rotate_left
       ·intro w'
        go_simp
        with_reducible rfl
       rotate_left
       ·simp only [Act.put, sA, s0, s1, i64_w, i32_w]
        rfl
       refine take_ (i := 1) (N := some 19) (v := ?_) (a' := ?_) (tfA 3 6) rfl rfl (take_ofW HT_.out HW_.out (by kernel_rfl)) (fun _ _ _ h => h) (Or.inl ⟨by rfl, ?_⟩) hHeld ?_ ?_
       rotate_left
       ·rintro w' ⟨s0, s1, s2, s3, s4, s5, s6, s7, s8, s9, s10, s11⟩
        go_simp
        with_reducible rfl
       rotate_left
       ·simp only [Act.put, sA, s0, s1, i64_w, i32_w]
        rfl
       refine take_ (i := 3) (N := some 21) (v := ?_) (a' := ?_) (tfA 4 5) rfl rfl (take_ofW HT_.out HW_.out (by kernel_rfl)) (fun _ _ _ h => h) (Or.inl ⟨by rfl, ?_⟩) hHeld ?_ ?_
       rotate_left
       ·rintro w' ⟨s0, s1, s2, s3, s4, s5, s6, s7, s8, s9, s10, s11⟩
        go_simp
        with_reducible rfl
       rotate_left
       ·simp only [Act.put, sA, s0, s1, i64_w, i32_w]
        rfl
       refine one_ (i := 4) (N := some 22) (tfA 5 4) rfl rfl (one_of HT_.out (by kernel_rfl)) (by decide) (fun K hK => ?_)
       refine goesV_ Tryz.func112 (by kernel_rfl) rfl #[.agg #[.string ((rd_T142 l1 x14_1).f0), .int .i64 ((rd_T142 l1 x14_1).f1), .int .i64 ((rd_T142 l1 x14_1).f2), .int .i64 ((rd_T142 l1 x14_1).f3)]] (by rfl) rfl rfl (by (try simp only [List.map_toArray, List.map_cons, List.map_nil]); first | done | rfl | (simp only [List.length_drop, List.length_take]; rfl)) ?_
       with_reducible refine (impl_CgroupSummary_1_1.calls ((rd_T142 l1 x14_1).f0) ((rd_T142 l1 x14_1).f1) ((rd_T142 l1 x14_1).f2) ((rd_T142 l1 x14_1).f3) t132 t133 t134 t135 t136 t137 t138 t139 _ A11.out).mono ?_
       rintro e w19 ⟨v140, rfl, ho0, hb⟩
       refine ⟨_, rfl, ?_⟩
       have n0_ := Aside0.mk (Kd.R_elder' (by (with_reducible repeat (first | apply Kd.R_alloc | apply Kd.R_drewN | apply Kd.R_drew)); exact HO_130007.out) (Kd.R_base ho0) hb)
       have n1_ := Aside0.mk (Kd.R_lower (Kd.R_newB (Kd.R_newB (Kd.R_new' ho0 (Kd.R_lt (by (with_reducible repeat (first | apply Kd.R_alloc | apply Kd.R_drewN | apply Kd.R_drew)); exact HO_130007.out))) (g := gb128) (o := .cells #[.string (⟨#[]⟩ : ByteArray), .int .i64 0, .bool false, .int .i64 0, .int .u64 0, .float .f64 0, .string (⟨#[]⟩ : ByteArray), .slice none 0 0] 35 (0, 0)) (by (with_reducible repeat (first | refine bN ?_ _ | refine bW ?_ | refine bA ?_ _)); exact BK128.out)) (g := gb129) (o := .cells #[.string a0, .int .i64 6, .bool false, .int .i64 0, .int .u64 0, .float .f64 0, .string (⟨#[]⟩ : ByteArray), u130007] 35 (0, 0)) (by (with_reducible repeat (first | refine bN ?_ _ | refine bW ?_ | refine bA ?_ _)); exact BK129.out)) (below_size belS))
       have n2_ := Aside0.mk (blk_below (g := gb128) (o := .cells #[.string (⟨#[]⟩ : ByteArray), .int .i64 0, .bool false, .int .i64 0, .int .u64 0, .float .f64 0, .string (⟨#[]⟩ : ByteArray), .slice none 0 0] 35 (0, 0)) (by (with_reducible repeat (first | refine bN ?_ _ | refine bW ?_ | refine bA ?_ _)); exact BK128.out) hb)
       have n3_ := Aside0.mk (blk_below (g := gb129) (o := .cells #[.string a0, .int .i64 6, .bool false, .int .i64 0, .int .u64 0, .float .f64 0, .string (⟨#[]⟩ : ByteArray), u130007] 35 (0, 0)) (by (with_reducible repeat (first | refine bN ?_ _ | refine bW ?_ | refine bA ?_ _)); exact BK129.out) hb)
       have n4_ := Aside0.mk (blk_below (g := gb131) (o := .cells #[.string ((rd_T142 l1 x14_1).f0), .int .i64 ((rd_T142 l1 x14_1).f1), .int .i64 ((rd_T142 l1 x14_1).f2), .int .i64 ((rd_T142 l1 x14_1).f3)] 142 (0, 0)) (by (with_reducible repeat (first | refine bN ?_ _ | refine bW ?_ | refine bA ?_ _)); exact BK131.out) hb)
       have n5_ := Aside0.mk (below_step belS hb)
       clear HO_130007
       clear BK128
       clear BK129
       clear BK131
       clear HB
       have HO_130007 := n0_
       have HO141 := n1_
       have BK128 := n2_
       have BK129 := n3_
       have BK131 := n4_
       have HB := n5_
       clear n0_ n1_ n2_ n3_ n4_ n5_
       (try clear hb)
       (try clear hb2)
       (try clear hk)
       (try clear hi)
       (try clear ho0)
       obtain ⟨Ao21, co21, eo21⟩ := Kd.R_slice HO141.out
       (first | subst eo21 | (injection eo21 with f1_ f2_ f3_; have f4_ := f1_.symm; have f5_ := f3_.symm; clear f1_ f2_ f3_; subst f4_; subst f5_))
       refine hK.out _ _ ⟨(blk_cell BK129.out 0).trans rfl, (blk_cell BK129.out 1).trans rfl, (blk_cell BK129.out 2).trans rfl, (blk_cell BK129.out 3).trans rfl, (blk_cell BK129.out 4).trans rfl, (blk_cell BK129.out 5).trans rfl, (blk_cell BK129.out 6).trans rfl, (blk_cell BK129.out 7).trans rfl, (blk_cell BK131.out 0).trans rfl, (blk_cell BK131.out 1).trans rfl, (blk_cell BK131.out 2).trans rfl, (blk_cell BK131.out 3).trans rfl⟩ (fun hHeld => ?_)
       clear hK K
       refine norm_ (a' := ?_) ?_ ?_
       rotate_left
       ·show Act.put _ (some 22) _ = _
        simp only [Act.put, sA, s0, s1, i64_w, i32_w]
        rfl
       refine one_ (i := 5) (N := some 23) (tfA 6 3) rfl rfl (one_of HT_.out (by kernel_rfl)) (by decide) (fun K hK => ?_)
       refine value_ (w1 := ?_) (v := ?_) (by rfl) rfl ?_ ?_
       rotate_left 2
       ·go_simp
        constructor
        ·rfl
        ·rfl
       refine hK.out _ _ ⟨(blk_cell (blk_alloc BK129.out _) 0).trans rfl, (blk_cell (blk_alloc BK129.out _) 1).trans rfl, (blk_cell (blk_alloc BK129.out _) 2).trans rfl, (blk_cell (blk_alloc BK129.out _) 3).trans rfl, (blk_cell (blk_alloc BK129.out _) 4).trans rfl, (blk_cell (blk_alloc BK129.out _) 5).trans rfl, (blk_cell (blk_alloc BK129.out _) 6).trans rfl, (blk_cell (blk_alloc BK129.out _) 7).trans rfl, (blk_cell (blk_alloc BK131.out _) 0).trans rfl, (blk_cell (blk_alloc BK131.out _) 1).trans rfl, (blk_cell (blk_alloc BK131.out _) 2).trans rfl, (blk_cell (blk_alloc BK131.out _) 3).trans rfl⟩ (fun hHeld => ?_)
       clear hK K
       refine norm_ (a' := ?_) ?_ ?_
       rotate_left
       ·show Act.put _ (some 23) _ = _
        simp only [Act.put, sA, s0, s1, i64_w, i32_w]
        rfl
       refine one_ (i := 6) (N := some 24) (tfA 7 2) rfl rfl (one_of HT_.out (by kernel_rfl)) (by decide) (fun K hK => ?_)
       refine Kd.R_append_step k35 (w0 := w) w.heap.size (by rfl) (.tmp 19) (.tmp 23) 33 35 (.agg #[(.string ⟨#[]⟩), (.int .i64 0), (.bool false), (.int .i64 0), (.int .u64 0), (.float .f64 0), (.string ⟨#[]⟩), (.slice none 0 0)]) 96 rfl Tryz.underlying33 info35 rfl (by decide) (by omega) u130007 x130007_1 (⟨t132, t133, t134, t135, t136, t137, t138, t139⟩ : S35) [.string t132, .int .i64 t133, .bool t134, .int .i64 t135, .int .u64 t136, .float .f64 t137, .string t138, .slice Ao21 t139.length co21] (fun k_ => k_ ≠ gb128 ∧ k_ ≠ gb129) (fun k_ => ((fun k_ => k_ ≠ gb128 ∧ k_ ≠ gb129)) k_ ∧ some k_ ≠ (u130007 : Value).ownBlock) rfl rfl ?aP (fun _ hk => hk) ?aF ?aO ?aB ?aS ?aL ?_
       (case aP => exact k35_mkM _ _ _ (⟨t132, t133, t134, t135, t136, t137, t138, t139⟩ : S35) (Kd.R_mono (HO141.out) (fun k_ hk => ⟨⟨hk.1.2, hk.2⟩, hk.1.1.2⟩)))
       (case aB => exact belS)
       (case aF => exact (fun k_ hk => ⟨Kd.freshB (g := gb128) (o := .cells #[.string (⟨#[]⟩ : ByteArray), .int .i64 0, .bool false, .int .i64 0, .int .u64 0, .float .f64 0, .string (⟨#[]⟩ : ByteArray), .slice none 0 0] 35 (0, 0)) (by (with_reducible repeat (first | refine bN ?_ _ | refine bW ?_ | refine bA ?_ _)); exact BK128.out) k_ hk, Kd.freshB (g := gb129) (o := .cells #[.string a0, .int .i64 6, .bool false, .int .i64 0, .int .u64 0, .float .f64 0, .string (⟨#[]⟩ : ByteArray), u130007] 35 (0, 0)) (by (with_reducible repeat (first | refine bN ?_ _ | refine bW ?_ | refine bA ?_ _)); exact BK129.out) k_ hk⟩))
       (case aO => exact (by (with_reducible repeat (first | apply Kd.R_alloc | apply Kd.R_drewN | apply Kd.R_drew)); exact Kd.R_mono HO_130007.out (fun _ hk => ⟨hk.1.1, hk.1.2⟩)))
       (case aS => exact (below_size belS))
       (case aL => have := LMc12.out; omega)
       intro v143 w20 ho hb hg hat
       rw [← Ny142.out] at ho
       have n0_ := Aside0.mk (blk_grown (g := gb128) (o := .cells #[.string (⟨#[]⟩ : ByteArray), .int .i64 0, .bool false, .int .i64 0, .int .u64 0, .float .f64 0, .string (⟨#[]⟩ : ByteArray), .slice none 0 0] 35 (0, 0)) (by (with_reducible repeat (first | refine bN ?_ _ | refine bW ?_ | refine bA ?_ _)); exact BK128.out) hg (Kd.R_away HO_130007.out (fun _ hk => hk.1.1)))
       have n1_ := Aside0.mk (blk_grown (g := gb129) (o := .cells #[.string a0, .int .i64 6, .bool false, .int .i64 0, .int .u64 0, .float .f64 0, .string (⟨#[]⟩ : ByteArray), u130007] 35 (0, 0)) (by (with_reducible repeat (first | refine bN ?_ _ | refine bW ?_ | refine bA ?_ _)); exact BK129.out) hg (Kd.R_away HO_130007.out (fun _ hk => hk.1.2)))
       have n2_ := Aside0.mk (blk_grown (g := gb131) (o := .cells #[.string ((rd_T142 l1 x14_1).f0), .int .i64 ((rd_T142 l1 x14_1).f1), .int .i64 ((rd_T142 l1 x14_1).f2), .int .i64 ((rd_T142 l1 x14_1).f3)] 142 (0, 0)) (by (with_reducible repeat (first | refine bN ?_ _ | refine bW ?_ | refine bA ?_ _)); exact BK131.out) hg (Kd.R_ne HO_130007.out BK131.out (by decide)))
       have n3_ := Aside0.mk (hb)
       have n4_ := Aside0.mk (ho)
       clear BK128
       clear BK129
       clear BK131
       clear HB
       clear HO_130007
       clear HO141
       have BK128 := n0_
       have BK129 := n1_
       have BK131 := n2_
       have HB := n3_
       have HO144 := n4_
       clear n0_ n1_ n2_ n3_ n4_
       clear ho hb hg hat
       obtain ⟨Ao22, co22, eo22⟩ := Kd.R_slice HO144.out
       (first | subst eo22 | (injection eo22 with f1_ f2_ f3_; have f4_ := f1_.symm; have f5_ := f3_.symm; clear f1_ f2_ f3_; subst f4_; subst f5_))
       refine hK.out _ _ ⟨(blk_cell BK129.out 0).trans rfl, (blk_cell BK129.out 1).trans rfl, (blk_cell BK129.out 2).trans rfl, (blk_cell BK129.out 3).trans rfl, (blk_cell BK129.out 4).trans rfl, (blk_cell BK129.out 5).trans rfl, (blk_cell BK129.out 6).trans rfl, (blk_cell BK129.out 7).trans rfl, (blk_cell BK131.out 0).trans rfl, (blk_cell BK131.out 1).trans rfl, (blk_cell BK131.out 2).trans rfl, (blk_cell BK131.out 3).trans rfl⟩ (fun hHeld => ?_)
       clear hK K
       refine norm_ (a' := ?_) ?_ ?_
       rotate_left
       ·show Act.put _ (some 24) _ = _
        simp only [Act.put, sA, s0, s1, i64_w, i32_w]
        rfl
       refine pure_ (i := 7) (N := some 25) (v := ?_) (a' := ?_) (tfA 8 1) rfl rfl (any_of HT_.out (by kernel_rfl)) (fun _ _ _ h => h) (Or.inl ⟨by rfl, ?_⟩) ?_ ?_
       rotate_left
       ·intro w'
        go_simp
        with_reducible rfl
       rotate_left
       ·simp only [Act.put, sA, s0, s1, i64_w, i32_w]
        rfl
       refine last_ (i := 8) (N := none) (tfA 9 0) rfl rfl (one_of HT_.out (by kernel_rfl)) (by decide) (fun K hK => ?_)
       have hs23 : w20.cell? ⟨gb129, 7, none⟩ = some (u130007) := (blk_cell BK129.out 7).trans rfl
       have hfs23 := blk_frozen BK129.out 7
       have hns23_0 := NB128_129.out
       have hns23_2 := NB131_129.out
       have hms23_0 := NB129_128.out
       have hms23_2 := NB129_131.out
       refine skip_ (w1 := ?_) (by rfl) rfl ?_ ?_
       rotate_left
       ·go_simp
        rfl
       refine hK.out _ _ ?_
       clear hK K
       refine done_ (done_of HT_.out (by kernel_rfl)) ?_
       try go_wp2
       go_roundg k1
       case measure => have := HK1.out; omega
       case rel => exact ⟨(wrap64 (x14_1 + 1)), (y142), (.slice Ao22 y142.length co22), (by first | rfl | (simp; done) | (simp [*]; done) | (simp [bne_nil]; done) | (simp [bne_nil, *]; done)), H', ⟨by have := HK1.out; omega⟩, ⟨by (with_reducible repeat (first | apply Kd.R_alloc | apply Kd.R_drewN | apply Kd.R_drew)); exact Kd.R_mono (Kd.R_far (p := ⟨gb129, 7, none⟩) (Kd.R_mono HO144.out (fun k_ hk => (⟨hk, hk.2⟩ : _ ∧ k_ ≠ gb129))) (fun _ hk => hk.2) (.slice Ao22 y142.length co22)) (fun _ hk => ⟨hk.1.1, hk.1.2⟩)⟩, ⟨by (with_reducible repeat (first | refine bN ?_ _ | refine bW ?_ | refine bA ?_ _)); refine blk_far ?_ NB128_129.out _; (with_reducible repeat (first | refine bN ?_ _ | refine bW ?_ | refine bA ?_ _)); exact BK128.out⟩, ⟨by (with_reducible repeat (first | refine bN ?_ _ | refine bW ?_ | refine bA ?_ _)); refine blk_put (cs := #[.string a0, .int .i64 6, .bool false, .int .i64 0, .int .u64 0, .float .f64 0, .string (⟨#[]⟩ : ByteArray), u130007]) ?_ 7 _ rfl; (with_reducible repeat (first | refine bN ?_ _ | refine bW ?_ | refine bA ?_ _)); exact BK129.out⟩, ⟨by repeat (first | (with_reducible first | exact HB.out | apply below_alloc | apply pw_below_drewN | apply below_drew1 | refine below_set ?_ GE128.out | refine below_set ?_ GE129.out | refine below_set ?_ GE131.out) | exact HB.out)⟩⟩
      ·rw [if_neg c12] at H
       exact absurd H (by simp)
     ·rw [if_neg c10] at H
      exact absurd H (by simp)
    ·rw [if_neg c9] at H
     exact absurd H (by simp)
   ·rw [if_neg c8] at H
    have c8b0 : decide (x14_1 < (l1.length : Int)) = false := decide_eq_false c8
    clear c8
    simp only [Option.some.injEq, Prod.mk.injEq] at H
    obtain ⟨rfl, rfl, rfl, rfl, rfl, rfl, rfl, rfl⟩ := H
    have hnb24 := NB129_128.out
    have hnc24 := NB128_129.out
    have hcz25_0 : wr.cell? ⟨gb129, 0, none⟩ = some (.string a0) := (blk_cell BK129.out 0).trans rfl
    have hcz25_1 : wr.cell? ⟨gb129, 1, none⟩ = some (.int .i64 6) := (blk_cell BK129.out 1).trans rfl
    have hcz25_2 : wr.cell? ⟨gb129, 2, none⟩ = some (.bool false) := (blk_cell BK129.out 2).trans rfl
    have hcz25_3 : wr.cell? ⟨gb129, 3, none⟩ = some (.int .i64 0) := (blk_cell BK129.out 3).trans rfl
    have hcz25_4 : wr.cell? ⟨gb129, 4, none⟩ = some (.int .u64 0) := (blk_cell BK129.out 4).trans rfl
    have hcz25_5 : wr.cell? ⟨gb129, 5, none⟩ = some (.float .f64 0) := (blk_cell BK129.out 5).trans rfl
    have hcz25_6 : wr.cell? ⟨gb129, 6, none⟩ = some (.string (⟨#[]⟩ : ByteArray)) := (blk_cell BK129.out 6).trans rfl
    have hcz25_7 : wr.cell? ⟨gb129, 7, none⟩ = some (u130007) := (blk_cell BK129.out 7).trans rfl
    have hfz25_0 := blk_frozen BK129.out 0
    have hfz25_1 := blk_frozen BK129.out 1
    have hfz25_2 := blk_frozen BK129.out 2
    have hfz25_3 := blk_frozen BK129.out 3
    have hfz25_4 := blk_frozen BK129.out 4
    have hfz25_5 := blk_frozen BK129.out 5
    have hfz25_6 := blk_frozen BK129.out 6
    have hfz25_7 := blk_frozen BK129.out 7
    have hcz26_0 : wr.cell? ⟨gb128, 0, none⟩ = some (.string (⟨#[]⟩ : ByteArray)) := (blk_cell BK128.out 0).trans rfl
    have hcz26_1 : wr.cell? ⟨gb128, 1, none⟩ = some (.int .i64 0) := (blk_cell BK128.out 1).trans rfl
    have hcz26_2 : wr.cell? ⟨gb128, 2, none⟩ = some (.bool false) := (blk_cell BK128.out 2).trans rfl
    have hcz26_3 : wr.cell? ⟨gb128, 3, none⟩ = some (.int .i64 0) := (blk_cell BK128.out 3).trans rfl
    have hcz26_4 : wr.cell? ⟨gb128, 4, none⟩ = some (.int .u64 0) := (blk_cell BK128.out 4).trans rfl
    have hcz26_5 : wr.cell? ⟨gb128, 5, none⟩ = some (.float .f64 0) := (blk_cell BK128.out 5).trans rfl
    have hcz26_6 : wr.cell? ⟨gb128, 6, none⟩ = some (.string (⟨#[]⟩ : ByteArray)) := (blk_cell BK128.out 6).trans rfl
    have hcz26_7 : wr.cell? ⟨gb128, 7, none⟩ = some (.slice none 0 0) := (blk_cell BK128.out 7).trans rfl
    have hfz26_0 := blk_frozen BK128.out 0
    have hfz26_1 := blk_frozen BK128.out 1
    have hfz26_2 := blk_frozen BK128.out 2
    have hfz26_3 := blk_frozen BK128.out 3
    have hfz26_4 := blk_frozen BK128.out 4
    have hfz26_5 := blk_frozen BK128.out 5
    have hfz26_6 := blk_frozen BK128.out 6
    have hfz26_7 := blk_frozen BK128.out 7
    obtain ⟨Ao27, co27, eo27⟩ := Kd.R_slice HO_130007.out
    subst eo27
    go_wp2
    refine bodyPost_ret (results_cell_row rfl _ _ gb128 35 #[.string a0, .int .i64 6, .bool false, .int .i64 0, .int .u64 0, .float .f64 0, .string (⟨#[]⟩ : ByteArray), .slice Ao27 x130007_1.length co27] (0, 0) _ rfl (by (with_reducible repeat (first | refine bN ?_ _ | refine bW ?_ | refine bA ?_ _)); exact blk_put8 BK128.out) Tryz.underlying35 rfl (by kernel_rfl)) rfl ?_
    exact ⟨_, by first | rfl | (simp [errW_none, errW_some] <;> rfl) | (simp [*, errW_none, errW_some] <;> rfl), by (with_reducible repeat (first | apply Kd.R_alloc | apply Kd.R_drewN | apply Kd.R_drew)); exact Kd.R_mono (Kd.R_far8 (g := gb128) (Kd.R_mono HO_130007.out (fun k_ hk => (⟨hk, hk.1⟩ : _ ∧ k_ ≠ gb128))) (fun _ hk => hk.2) (.string a0) (.int .i64 6) (.bool false) (.int .i64 0) (.int .u64 0) (.float .f64 0) (.string (⟨#[]⟩ : ByteArray)) (.slice Ao27 x130007_1.length co27)) (fun _ hk => trivial), by repeat (first | (with_reducible first | exact HB.out | apply below_alloc | apply pw_below_drewN | apply below_drew1 | refine below_set ?_ GE128.out | refine below_set ?_ GE129.out) | exact HB.out)⟩

/-! ### impl_CgroupSummary_1: function 110 -/
def impl_CgroupSummary_1.f (k : Nat) (l0 : List (S142)) : Option (ByteArray × Int × Bool × Int × Int × Nat × ByteArray × (List (S35))) := (procfs_CgroupSummary___CgroupSummary.f k (⟨#[]⟩ : ByteArray) l0).bind fun bt146 => (some (bt146.1, bt146.2.1, bt146.2.2.1, bt146.2.2.2.1, bt146.2.2.2.2.1, bt146.2.2.2.2.2.1, bt146.2.2.2.2.2.2.1, bt146.2.2.2.2.2.2.2))
theorem impl_CgroupSummary_1.mono : ∀ a0 k, LeO (impl_CgroupSummary_1.f k a0) (impl_CgroupSummary_1.f (k + 1) a0) := by
 intro a0 k
 unfold impl_CgroupSummary_1.f
 repeat' first
   | (with_reducible exact procfs_CgroupSummary___CgroupSummary.mono _ _ _)
   | (with_reducible exact LeO.refl _)
   | (with_reducible exact LeO.none _)
   | (with_reducible refine LeO.ite ?_ ?_)
   | (with_reducible refine LeO.bind ?_ (fun _ => ?_))
   | exact procfs_CgroupSummary___CgroupSummary.mono _ _ _
   | exact LeO.none _
   | refine LeO.ite ?_ ?_
   | refine LeO.bind ?_ (fun _ => ?_)
set_option maxHeartbeats 8000000 in
set_option maxRecDepth 100000 in
theorem impl_CgroupSummary_1.calls (k : Nat) (A0 : Option Addr) (c0 : Nat) (l0 : List (S142)) (r1 : ByteArray) (r2 : Int) (r3 : Bool) (r4 : Int) (r5 : Int) (r6 : Nat) (r7 : ByteArray) (r8 : List (S35)) (w : World) (hr0 : Kd.C k142 w A0 l0.length l0) (hc0 : l0.length ≤ c0) (h : impl_CgroupSummary_1.f k l0 = some (r1, r2, r3, r4, r5, r6, r7, r8)) :
  Calls Tryz.prog 110 #[.slice A0 l0.length c0] w fun e w' => ∃ v7_ : Value, e = .returned (.agg #[.string r1, .int .i64 r2, .bool r3, .int .i64 r4, .int .u64 r5, .float .f64 r6, .string r7, v7_]) ∧ Kd.R k35 35 w' w.heap.size (fun _ => True) v7_ r8 ∧ Below w.heap.size w w' := by
 have hu35 := Tryz.underlying35
 have HR0 := Aside0.mk hr0
 have HC0 := Aside0.mk hc0
 clear hr0 hc0
 have HB := Aside0.mk (Below.refl w.heap.size w)
 have H : ((procfs_CgroupSummary___CgroupSummary.f k (⟨#[]⟩ : ByteArray) l0).bind fun bt146 => (some (bt146.1, bt146.2.1, bt146.2.2.1, bt146.2.2.2.1, bt146.2.2.2.2.1, bt146.2.2.2.2.2.1, bt146.2.2.2.2.2.2.1, bt146.2.2.2.2.2.2.2))) = some (r1, r2, r3, r4, r5, r6, r7, r8) := h
 clear h
 replace H := Option.bind_eq_some_iff.mp H
 obtain ⟨⟨t146, t147, t148, t149, t150, t151, t152, t153⟩, A20, H⟩ := H
 replace H : (some (t146, t147, t148, t149, t150, t151, t152, t153)) = some (r1, r2, r3, r4, r5, r6, r7, r8) := H
 have A2 := Aside0.mk A20
 clear A20
 simp only [Option.some.injEq, Prod.mk.injEq] at H
 obtain ⟨rfl, rfl, rfl, rfl, rfl, rfl, rfl, rfl⟩ := H
 go_enter Tryz.func110, Tryz.ntmps110
 go_wp2_with (first | ((with_reducible refine gate_dst (N := 2) rfl ?_); refine box_event ?hg (N := 2) ?hd (cs := #[.string (⟨#[]⟩ : ByteArray), .int .i64 0, .bool false, .int .i64 0, .int .u64 0, .float .f64 0, .string (⟨#[]⟩ : ByteArray), .slice none 0 0]) (t := 35) ?hr ?_; (case hd => rfl); (case hg => rfl); (case hr => first | (go_simp; done) | (go_simp; rfl)); intro gb145 hg w3 hbox hb; have n0_ := Aside0.mk (below_step belH hb); have n1_ := Aside0.mk (hbox); have n2_ := Aside0.mk ((by rw [hg]; exact (below_size belH) : w.heap.size ≤ gb145)); have n3_ := Aside0.mk ((by rw [hg]; exact (below_size belH) : w.heap.size ≤ gb145)); clear HB; have HB := n0_; have BK145 := n1_; have GW145 := n2_; have GE145 := n3_; clear n0_ n1_ n2_ n3_; clear hb hbox hg) | ((with_reducible refine gate_callee (f := 111) rfl ?_); refine goesL_ (some 4) rfl rfl Tryz.func111 (by kernel_rfl) rfl #[.string (⟨#[]⟩ : ByteArray), .slice A0 l0.length c0, .func (.func 112) #[] #[]] rfl (by (try simp only [List.map_toArray, List.map_cons, List.map_nil]); first | done | rfl | (simp only [List.length_drop, List.length_take]; rfl)) ?_; (with_reducible refine (procfs_CgroupSummary___CgroupSummary.calls k (⟨#[]⟩ : ByteArray) _ _ l0  t146 t147 t148 t149 t150 t151 t152 t153 _ ?side1 ?side2 A2.out).mono ?_); (case side1 => repeat (first | exact (Kd.C_below HR0.out HB.out) | (with_reducible refine Kd.C_alloc ?_ _) | (with_reducible refine Kd.C_drewN ?_ _) | (with_reducible refine Kd.C_drew ?_))); (case side2 => exact HC0.out); rintro e w4 ⟨v154, rfl, ho0, hb⟩; refine ⟨_, rfl, ?_⟩; have n0_ := Aside0.mk (Kd.R_lower (Kd.R_newB ho0 (g := gb145) (o := .cells #[.string (⟨#[]⟩ : ByteArray), .int .i64 0, .bool false, .int .i64 0, .int .u64 0, .float .f64 0, .string (⟨#[]⟩ : ByteArray), .slice none 0 0] 35 (0, 0)) (by (with_reducible repeat (first | refine bN ?_ _ | refine bW ?_ | refine bA ?_ _)); exact BK145.out)) (below_size belS)); have n1_ := Aside0.mk (blk_below (g := gb145) (o := .cells #[.string (⟨#[]⟩ : ByteArray), .int .i64 0, .bool false, .int .i64 0, .int .u64 0, .float .f64 0, .string (⟨#[]⟩ : ByteArray), .slice none 0 0] 35 (0, 0)) (by (with_reducible repeat (first | refine bN ?_ _ | refine bW ?_ | refine bA ?_ _)); exact BK145.out) hb); have n2_ := Aside0.mk (below_step belS hb); clear BK145; clear HB; have HO155 := n0_; have BK145 := n1_; have HB := n2_; clear n0_ n1_ n2_; (try clear hb); (try clear hb2); (try clear hk); (try clear hi); (try clear ho0); have hcz5_0 : w4.cell? ⟨gb145, 0, none⟩ = some (.string (⟨#[]⟩ : ByteArray)) := (blk_cell BK145.out 0).trans rfl; have hcz5_1 : w4.cell? ⟨gb145, 1, none⟩ = some (.int .i64 0) := (blk_cell BK145.out 1).trans rfl; have hcz5_2 : w4.cell? ⟨gb145, 2, none⟩ = some (.bool false) := (blk_cell BK145.out 2).trans rfl; have hcz5_3 : w4.cell? ⟨gb145, 3, none⟩ = some (.int .i64 0) := (blk_cell BK145.out 3).trans rfl; have hcz5_4 : w4.cell? ⟨gb145, 4, none⟩ = some (.int .u64 0) := (blk_cell BK145.out 4).trans rfl; have hcz5_5 : w4.cell? ⟨gb145, 5, none⟩ = some (.float .f64 0) := (blk_cell BK145.out 5).trans rfl; have hcz5_6 : w4.cell? ⟨gb145, 6, none⟩ = some (.string (⟨#[]⟩ : ByteArray)) := (blk_cell BK145.out 6).trans rfl; have hcz5_7 : w4.cell? ⟨gb145, 7, none⟩ = some (.slice none 0 0) := (blk_cell BK145.out 7).trans rfl; have hfz5_0 := blk_frozen BK145.out 0; have hfz5_1 := blk_frozen BK145.out 1; have hfz5_2 := blk_frozen BK145.out 2; have hfz5_3 := blk_frozen BK145.out 3; have hfz5_4 := blk_frozen BK145.out 4; have hfz5_5 := blk_frozen BK145.out 5; have hfz5_6 := blk_frozen BK145.out 6; have hfz5_7 := blk_frozen BK145.out 7; obtain ⟨Ao6, co6, eo6⟩ := Kd.R_slice HO155.out; subst eo6))
 refine bodyPost_ret (results_cell_row rfl _ _ gb145 35 #[.string t146, .int .i64 t147, .bool t148, .int .i64 t149, .int .u64 t150, .float .f64 t151, .string t152, .slice Ao6 t153.length co6] (0, 0) _ rfl (by (with_reducible repeat (first | refine bN ?_ _ | refine bW ?_ | refine bA ?_ _)); exact blk_put8 BK145.out) Tryz.underlying35 rfl (by kernel_rfl)) rfl ?_
 exact ⟨_, by first | rfl | (simp [errW_none, errW_some] <;> rfl) | (simp [*, errW_none, errW_some] <;> rfl), by (with_reducible repeat (first | apply Kd.R_alloc | apply Kd.R_drewN | apply Kd.R_drew)); exact Kd.R_mono (Kd.R_far8 (g := gb145) (Kd.R_mono HO155.out (fun k_ hk => (⟨hk, hk.2⟩ : _ ∧ k_ ≠ gb145))) (fun _ hk => hk.2) (.string t146) (.int .i64 t147) (.bool t148) (.int .i64 t149) (.int .u64 t150) (.float .f64 t151) (.string t152) (.slice Ao6 t153.length co6)) (fun _ hk => trivial), by repeat (first | (with_reducible first | exact HB.out | apply below_alloc | apply pw_below_drewN | apply below_drew1 | refine below_set ?_ GE145.out) | exact HB.out)⟩

end Go.Proofs.YtdmpbaanonafbaaGreatDoor.H
