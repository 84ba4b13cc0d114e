import Derived.Test.YtdmpbaanonafbaaGreatDoorProg
import Derived.Below
import Derived.Deep.Draws
import Derived.Deep.AppendLies
import Derived.Maps.AppendAt
import Derived.OwnWalk
import Derived.Laws.BytesArg
import Derived.Laws.MakeOwn
import Derived.Laws.OwnMore
import Derived.Deep.OwnRows
import Derived.Tactics
import Derived.Lib.ConvBytes
import Derived.Laws.Slices
import Derived.WalkKit
import Derived.KernelRfl
import Derived.RowKit3
import Derived.Deep.LoopGhost
import Derived.Deep.QuietTactic
import Derived.BigQuiet
import Derived.WideLaws
import Derived.Deep.DeepCutAuto
import Derived.Deep.CutBlock
import Derived.Deep.RegionHeld3
import Derived.Laws.Rows
import Derived.Lib.AppendStr
import Derived.ArgAppend
import Derived.Laws.IdiomCopy
import Derived.OrdersHeld
import Derived.Laws.BitsLemmas
import Derived.RowKit
import Derived.Test.YtdmpbaanonafbaaGreatDoorSq
import Derived.Test.YtdmpbaanonafbaaGreatDoorFlt
import Derived.Test.YtdmpbaanonafbaaGreatDoorGivZ
import Derived.Test.YtdmpbaanonafbaaGreatDoorE0
import Derived.Test.YtdmpbaanonafbaaGreatDoorL3
import Derived.Test.YtdmpbaanonafbaaGreatDoorV2
import Derived.Test.YtdmpbaanonafbaaGreatDoorDoorSs
import Derived.Test.YtdmpbaanonafbaaGreatDoorLives
import Derived.Test.YtdmpbaanonafbaaGreatDoorL1
import Derived.Test.YtdmpbaanonafbaaGreatDoorL2
import Derived.Test.YtdmpbaanonafbaaGreatDoorV1
import Derived.Test.YtdmpbaanonafbaaGreatDoorR1
import Derived.Test.YtdmpbaanonafbaaGreatDoorWWords
import Derived.Test.YtdmpbaanonafbaaGreatDoorWLast
import Derived.Test.YtdmpbaanonafbaaGreatDoorWTab
import Derived.Test.YtdmpbaanonafbaaGreatDoorWApart
import Derived.Test.YtdmpbaanonafbaaGreatDoorWArr
import Derived.Test.YtdmpbaanonafbaaGreatDoorWZeros
import Derived.Test.YtdmpbaanonafbaaGreatDoorWFoot
import Derived.Test.YtdmpbaanonafbaaGreatDoorWKept
import Derived.Test.YtdmpbaanonafbaaGreatDoorWShare
import Derived.Test.YtdmpbaanonafbaaGreatDoorWN
import Derived.Test.YtdmpbaanonafbaaGreatDoorWRepsOne
import Derived.Test.YtdmpbaanonafbaaGreatDoorWGuard
import Derived.Test.YtdmpbaanonafbaaGreatDoorWNEv
import Derived.Test.YtdmpbaanonafbaaGreatDoorWMore
-- written by a program of this session (wip/tools/pp.py)
namespace Go.Proofs.YtdmpbaanonafbaaGreatDoor.D
open Go.RowKit Go.Proofs.YtdmpbaanonafbaaGreatDoorW.PrintWords Go.Proofs.YtdmpbaanonafbaaGreatDoorW.PrintLast Go.Proofs.YtdmpbaanonafbaaGreatDoor.Flt Go.Proofs.YtdmpbaanonafbaaGreatDoor.GivZ Go.Proofs.YtdmpbaanonafbaaGreatDoor.E Go.Proofs.YtdmpbaanonafbaaGreatDoor.L Go.Proofs.YtdmpbaanonafbaaGreatDoor.V Go.Proofs.YtdmpbaanonafbaaGreatDoor.DoorSs Go.Proofs.YtdmpbaanonafbaaGreatDoor.Lives Go.Proofs.YtdmpbaanonafbaaGreatDoor.R Go.Proofs.YtdmpbaanonafbaaGreatDoorW.PrintMore
attribute [local go_sem] max2_int min2_int max_two min_two max_three min_three max_four min_four   -- for this text's walks alone
set_option linter.unusedVariables false
set_option linter.unusedSimpArgs false




theorem info9 : (Tryz.prog.info? 9).map (fun i => (i.zero, i.size, i.bytes)) = some (some (.string ⟨#[]⟩), 1, 16) := by kernel_rfl
theorem info48 : (Tryz.prog.info? 48).map (fun i => (i.zero, i.size, i.bytes)) = some (some (.agg #[(.string ⟨#[]⟩), (.slice none 0 0), (.slice none 0 0)]), 3, 64) := by kernel_rfl
-- the values' own types
/-! #### struct type 48 -/
structure S48 where
 f0 : ByteArray
 f1 : (List Int)
 f2 : (List ByteArray)
def z48 : S48 := ⟨(⟨#[]⟩ : ByteArray), ([] : List Int), ([] : List ByteArray)⟩
def k48 : Kd S48 := Kd.iso (Kd.pair Kd.string (Kd.pair (Kd.slice 31 (Kd.int .u64)) (Kd.slice 9 Kd.string))) (fun x : S48 => (x.f0, x.f1, x.f2))
theorem k48_open {w : World} {x : S48} {cs : List Value} (h : k48.K w x cs) : ∃ A1 c1 A2 c2, cs = [.string x.f0, .slice A1 x.f1.length c1, .slice A2 x.f2.length c2] ∧ x.f1.length ≤ c1 ∧ (Kd.int .u64).C w A1 x.f1.length x.f1 ∧ x.f2.length ≤ c2 ∧ Kd.string.C w A2 x.f2.length x.f2 := by
 obtain ⟨_, _, rfl, rfl, ⟨_, _, rfl, ⟨A1, c1, rfl, l1, g1⟩, ⟨A2, c2, rfl, l2, g2⟩⟩⟩ := h
 exact ⟨A1, c1, A2, c2, rfl, l1, g1, l2, g2⟩
theorem k48_openM {w : World} {base : Nat} {ok : Nat → Prop} {x : S48} {cs : List Value} (h : k48.M w base ok x cs) : ∃ v1 v2, cs = [.string x.f0, v1, v2] ∧ (Kd.int .u64).R 31 w base ok v1 x.f1 ∧ Kd.string.R 9 w base ok v2 x.f2 := by
 obtain ⟨_, _, rfl, rfl, ⟨_, _, rfl, ⟨v1, rfl, g1⟩, ⟨v2, rfl, g2⟩⟩⟩ := h
 exact ⟨v1, v2, rfl, g1, g2⟩
theorem k48_mkM (w : World) (base : Nat) (ok : Nat → Prop) (x : S48) {v1 : Value} (g1 : (Kd.int .u64).R 31 w base ok v1 x.f1) {v2 : Value} (g2 : Kd.string.R 9 w base ok v2 x.f2) : k48.M w base ok x [.string x.f0, v1, v2] := ⟨[.string x.f0], [v1, v2], rfl, rfl, ⟨[v1], [v2], rfl, ⟨v1, rfl, g1⟩, ⟨v2, rfl, g2⟩⟩⟩
def rd_T48 (xs : List S48) (i : Int) : S48 := xs.getD i.toNat z48
theorem at_T48 {w : World} {A : Option Addr} {n : Nat} {xs : List S48} (h : Kd.C k48 w A n xs) (i : Int) (h0 : 0 ≤ i) (h1 : i < n) : ∃ ad A1 c1 A2 c2, A = some ad ∧ w.cell? (ad.add (i.toNat * 3)) = some (.string (rd_T48 xs i).f0) ∧ w.cell? ⟨(ad.add (i.toNat * 3)).block, (ad.add (i.toNat * 3)).off + 1, none⟩ = some (.slice A1 (rd_T48 xs i).f1.length c1) ∧ w.cell? ⟨(ad.add (i.toNat * 3)).block, (ad.add (i.toNat * 3)).off + 2, none⟩ = some (.slice A2 (rd_T48 xs i).f2.length c2) ∧ (rd_T48 xs i).f1.length ≤ c1 ∧ (Kd.int .u64).C w A1 (rd_T48 xs i).f1.length (rd_T48 xs i).f1 ∧ (rd_T48 xs i).f2.length ≤ c2 ∧ Kd.string.C w A2 (rd_T48 xs i).f2.length (rd_T48 xs i).f2 := by
 obtain ⟨ad, c, e, _, hK, hc0⟩ := Kd.C_get h z48 i h0 h1
 have hc : ∀ j u, c[j]? = some u → w.cell? (ad.add (i.toNat * 3 + j)) = some u := hc0
 obtain ⟨A1, c1, A2, c2, rfl, l1, g1, l2, g2⟩ := k48_open hK
 exact ⟨ad, A1, c1, A2, c2, e, hc 0 _ rfl, by rw [← add_field _ _ 1 (by omega)]; exact hc 1 _ rfl, by rw [← add_field _ _ 2 (by omega)]; exact hc 2 _ rfl, l1, g1, l2, g2⟩

/-! #### struct type 35, nested in itself -/
end Go.Proofs.YtdmpbaanonafbaaGreatDoor.D

-- written by a program of this session (wip/tools/pp.py)
namespace Go.Proofs.YtdmpbaanonafbaaGreatDoor.D
open Go.RowKit Go.Proofs.YtdmpbaanonafbaaGreatDoorW.PrintWords Go.Proofs.YtdmpbaanonafbaaGreatDoorW.PrintLast Go.Proofs.YtdmpbaanonafbaaGreatDoor.Flt Go.Proofs.YtdmpbaanonafbaaGreatDoor.GivZ Go.Proofs.YtdmpbaanonafbaaGreatDoor.E Go.Proofs.YtdmpbaanonafbaaGreatDoor.L Go.Proofs.YtdmpbaanonafbaaGreatDoor.V Go.Proofs.YtdmpbaanonafbaaGreatDoor.DoorSs Go.Proofs.YtdmpbaanonafbaaGreatDoor.Lives Go.Proofs.YtdmpbaanonafbaaGreatDoor.R Go.Proofs.YtdmpbaanonafbaaGreatDoorW.PrintMore
attribute [local go_sem] max2_int min2_int max_two min_two max_three min_three max_four min_four   -- for this text's walks alone
set_option linter.unusedVariables false
set_option linter.unusedSimpArgs false
theorem sz1d1_ (c : UInt8) : (⟨#[c]⟩ : ByteArray).size = 1 := rfl
theorem sz3d1_ (a b c : UInt8) : (⟨#[a, b, c]⟩ : ByteArray).size = 3 := rfl

/-! ### spec_SchedstatPrint: function 22 -/
def spec_SchedstatPrint.l0 : Nat → ByteArray → List (S48) → Int → Int → Option (ByteArray × Int)
 | 0, _, _, _, _ => none
 | k + 1, x4, x9, x10, x11 => if x11 < x10 then (if 0 ≤ x11 then (if x11 < (x9.length : Int) then ((spec_Dec.f k ((rd_T48 x9 x11).f0)).bind fun bt103 => (if bt103.2 = true then ((spec_Text.f k bt103.1).bind fun t105 => (if t105.toList = ((rd_T48 x9 x11).f0).toList then ((spec_sized.f ((rd_T48 x9 x11).f0) ((rd_T48 x9 x11).f1) ((rd_T48 x9 x11).f2) 9 0).bind fun t106 => (if t106 = true then (if 3 + ((rd_T48 x9 x11).f0).size ≤ 9223372036854775807 then (if ((⟨#[99, 112, 117]⟩ : ByteArray) ++ ((rd_T48 x9 x11).f0)).size + 1 ≤ 9223372036854775807 then ((spec_numbers.f k ((rd_T48 x9 x11).f1) (⟨#[32]⟩ : ByteArray)).bind fun t107 => (if (((⟨#[99, 112, 117]⟩ : ByteArray) ++ ((rd_T48 x9 x11).f0)) ++ (⟨#[32]⟩ : ByteArray)).size + t107.size ≤ 9223372036854775807 then (if ((((⟨#[99, 112, 117]⟩ : ByteArray) ++ ((rd_T48 x9 x11).f0)) ++ (⟨#[32]⟩ : ByteArray)) ++ t107).size + 1 ≤ 9223372036854775807 then (if x4.size + (((((⟨#[99, 112, 117]⟩ : ByteArray) ++ ((rd_T48 x9 x11).f0)) ++ (⟨#[32]⟩ : ByteArray)) ++ t107) ++ (⟨#[10]⟩ : ByteArray)).size ≤ 9223372036854775807 then (spec_SchedstatPrint.l0 k (x4 ++ (((((⟨#[99, 112, 117]⟩ : ByteArray) ++ ((rd_T48 x9 x11).f0)) ++ (⟨#[32]⟩ : ByteArray)) ++ t107) ++ (⟨#[10]⟩ : ByteArray))) x9 x10 (wrap64 (x11 + 1))) else (none)) else (none)) else (none))) else (none)) else (none)) else (some ((⟨#[]⟩ : ByteArray), 2)))) else (some ((⟨#[]⟩ : ByteArray), 2)))) else (some ((⟨#[]⟩ : ByteArray), 2)))) else (none)) else (none)) else (some (x4, 1))
def spec_SchedstatPrint.f (k : Nat) (l0 : List (S48)) : Option (ByteArray × Int) := spec_SchedstatPrint.l0 k (⟨#[118, 101, 114, 115, 105, 111, 110, 32, 49, 53, 10, 116, 105, 109, 101, 115, 116, 97, 109, 112, 32, 52, 50, 57, 52, 56, 57, 50, 50, 57, 54, 10]⟩ : ByteArray) l0 (l0.length : Int) 0
theorem spec_SchedstatPrint.mono_l : ∀ k, (∀ y0 y1 y2 y3, LeO (spec_SchedstatPrint.l0 k y0 y1 y2 y3) (spec_SchedstatPrint.l0 (k + 1) y0 y1 y2 y3))
 | 0 => fun _ _ _ _ r h => by simp [spec_SchedstatPrint.l0] at h
 | k + 1 => by
  have ih0 := spec_SchedstatPrint.mono_l k
  ·intro y0 y1 y2 y3
   unfold spec_SchedstatPrint.l0
   repeat' first
   | (with_reducible exact ih0 _ _ _ _)
   | (with_reducible exact spec_Dec.mono _ _)
   | (with_reducible exact spec_Text.mono _ _)
   | (with_reducible exact spec_numbers.mono _ _ _)
   | (with_reducible exact LeO.refl _)
   | (with_reducible exact LeO.none _)
   | (with_reducible refine LeO.ite ?_ ?_)
   | (with_reducible refine LeO.bind ?_ (fun _ => ?_))
   | exact ih0 _ _ _ _
   | exact spec_Dec.mono _ _
   | exact spec_Text.mono _ _
   | exact spec_numbers.mono _ _ _
   | exact LeO.none _
   | refine LeO.ite ?_ ?_
   | refine LeO.bind ?_ (fun _ => ?_)
theorem spec_SchedstatPrint.mono : ∀ a0 k, LeO (spec_SchedstatPrint.f k a0) (spec_SchedstatPrint.f (k + 1) a0) := by
 intro a0 k
 have ih0 := spec_SchedstatPrint.mono_l k
 unfold spec_SchedstatPrint.f
 repeat' first
   | (with_reducible exact ih0 _ _ _ _)
   | (with_reducible exact spec_Dec.mono _ _)
   | (with_reducible exact spec_Text.mono _ _)
   | (with_reducible exact spec_numbers.mono _ _ _)
   | (with_reducible exact LeO.refl _)
   | (with_reducible exact LeO.none _)
   | (with_reducible refine LeO.ite ?_ ?_)
   | (with_reducible refine LeO.bind ?_ (fun _ => ?_))
   | exact ih0 _ _ _ _
   | exact spec_Dec.mono _ _
   | exact spec_Text.mono _ _
   | exact spec_numbers.mono _ _ _
   | exact LeO.none _
   | refine LeO.ite ?_ ?_
   | refine LeO.bind ?_ (fun _ => ?_)
def spec_SchedstatPrint.T6 : Bool × List (List Nat × List Nat) := (true, [([], []), ([0], [0]), ([1], [1]), ([2], [2]), ([3, 2, 2], [2, 3]), ([2], [2]), ([5, 2], [2, 5]), ([4, 6, 2], [2, 4, 6]), ([2, 7], [2, 7]), ([8, 4], [8]), ([9], [9]), ([10, 9, 9], [9, 10]), ([11, 9], [9, 11]), ([9, 12], [9, 12])])
def spec_SchedstatPrint.B6 : List Nat := [0, 1, 3, 7, 15, 7, 39, 127, 255, 511, 1023, 2047, 4095, 8191]
theorem spec_SchedstatPrint.tab6 : rtab .any (opsOf Tryz.f22 6) = spec_SchedstatPrint.T6 := by kernel_rfl
theorem spec_SchedstatPrint.bits6 : waitsOk spec_SchedstatPrint.T6.2 spec_SchedstatPrint.B6 = true := by kernel_rfl
def spec_SchedstatPrint.T8 : Bool × List (List Nat × List Nat) := (true, [([], []), ([], []), ([1], [1]), ([2], [2]), ([3], [3]), ([], []), ([5], [5]), ([6], [6]), ([4, 7], [4, 7]), ([8], [8]), ([0, 9], [0, 9]), ([10, 7, 0, 1, 2, 3, 4, 5, 6, 7, 8, 9, 10], [0, 10])])
def spec_SchedstatPrint.B8 : List Nat := [0, 0, 2, 6, 14, 0, 32, 96, 254, 510, 1023, 2047]
theorem spec_SchedstatPrint.tab8 : rtab .any (opsOf Tryz.f22 8) = spec_SchedstatPrint.T8 := by kernel_rfl
theorem spec_SchedstatPrint.bits8 : waitsOk spec_SchedstatPrint.T8.2 spec_SchedstatPrint.B8 = true := by kernel_rfl
set_option maxHeartbeats 8000000 in
set_option maxRecDepth 100000 in
theorem spec_SchedstatPrint.calls (k : Nat) (A0 : Option Addr) (c0 : Nat) (l0 : List (S48)) (r1 : ByteArray) (r2 : Int) (w : World) (hr0 : Kd.C k48 w A0 l0.length l0) (hc0 : l0.length ≤ c0) (h : spec_SchedstatPrint.f k l0 = some (r1, r2)) :
  Calls Tryz.prog 22 #[.slice A0 l0.length c0] w fun e w' => e = .returned (.tuple #[.string r1, .int .i64 r2]) ∧ Below w.heap.size w w' := by
 have hu48 := Tryz.underlying48
 have HR0 := Aside0.mk hr0
 have HC0 := Aside0.mk hc0
 clear hr0 hc0
 have HB := Aside0.mk (Below.refl w.heap.size w)
 have H : (spec_SchedstatPrint.l0 k (⟨#[118, 101, 114, 115, 105, 111, 110, 32, 49, 53, 10, 116, 105, 109, 101, 115, 116, 97, 109, 112, 32, 52, 50, 57, 52, 56, 57, 50, 50, 57, 54, 10]⟩ : ByteArray) l0 (l0.length : Int) 0) = some (r1, r2) := h
 clear h
 have H' := Aside0.mk H
 clear H
 go_enter Tryz.func22, Tryz.ntmps22
 go_wp2
 go_loopg [4, 11] k (fun kq v4 v11 w' => ∃ (x4_1 : ByteArray) (x11_1 : Int), v4 = .string x4_1 ∧ v11 = .int .i64 x11_1 ∧ Aside0 (spec_SchedstatPrint.l0 kq x4_1 l0 (l0.length : Int) x11_1 = some (r1, r2)) ∧ Aside0 (kq ≤ k) ∧ Aside0 (Below w.heap.size w w'))
 case atStart => exact ⟨((⟨#[118, 101, 114, 115, 105, 111, 110, 32, 49, 53, 10, 116, 105, 109, 101, 115, 116, 97, 109, 112, 32, 52, 50, 57, 52, 56, 57, 50, 50, 57, 54, 10]⟩ : ByteArray)), (0), (by first | rfl | (simp; done) | (simp [*]; done) | (simp [bne_nil]; done) | (simp [bne_nil, *]; done)), (by first | rfl | (simp; done) | (simp [*]; done) | (simp [bne_nil]; done) | (simp [bne_nil, *]; done)), H', ⟨Nat.le_refl _⟩, ⟨by repeat (first | (with_reducible first | exact HB.out | apply below_alloc | apply pw_below_drewN | apply below_drew1) | exact HB.out)⟩⟩
 case round =>
  clear H'
  obtain ⟨x4_1, x11_1, rfl, rfl, HA, HK1, HB⟩ := hrel
  cases gk with
  | zero => exact absurd HA.out (by simp [spec_SchedstatPrint.l0])
  | succ k1 =>
   have H := HA.out
   clear HA
   simp only [spec_SchedstatPrint.l0] at H
   by_cases c2 : x11_1 < (l0.length : Int)
   ·rw [if_pos c2] at H
    have c2b0 : decide (x11_1 < (l0.length : Int)) = true := decide_eq_true c2
    clear c2
    by_cases c3 : 0 ≤ x11_1
    ·rw [if_pos c3] at H
     have c3b0 : decide (0 ≤ x11_1) = true := decide_eq_true c3
     clear c3
     by_cases c4 : x11_1 < (l0.length : Int)
     ·rw [if_pos c4] at H
      have c4b0 : decide (x11_1 < (l0.length : Int)) = true := decide_eq_true c4
      clear c4
      replace H := Option.bind_eq_some_iff.mp H
      obtain ⟨⟨t103, t104⟩, A50, H⟩ := H
      have A5 := Aside0.mk A50
      clear A50
      by_cases c6 : t104 = true
      ·subst c6
       have H1 : ((spec_Text.f k1 t103).bind fun t105 => (if t105.toList = ((rd_T48 l0 x11_1).f0).toList then ((spec_sized.f ((rd_T48 l0 x11_1).f0) ((rd_T48 l0 x11_1).f1) ((rd_T48 l0 x11_1).f2) 9 0).bind fun t106 => (if t106 = true then (if 3 + ((rd_T48 l0 x11_1).f0).size ≤ 9223372036854775807 then (if ((⟨#[99, 112, 117]⟩ : ByteArray) ++ ((rd_T48 l0 x11_1).f0)).size + 1 ≤ 9223372036854775807 then ((spec_numbers.f k1 ((rd_T48 l0 x11_1).f1) (⟨#[32]⟩ : ByteArray)).bind fun t107 => (if (((⟨#[99, 112, 117]⟩ : ByteArray) ++ ((rd_T48 l0 x11_1).f0)) ++ (⟨#[32]⟩ : ByteArray)).size + t107.size ≤ 9223372036854775807 then (if ((((⟨#[99, 112, 117]⟩ : ByteArray) ++ ((rd_T48 l0 x11_1).f0)) ++ (⟨#[32]⟩ : ByteArray)) ++ t107).size + 1 ≤ 9223372036854775807 then (if x4_1.size + (((((⟨#[99, 112, 117]⟩ : ByteArray) ++ ((rd_T48 l0 x11_1).f0)) ++ (⟨#[32]⟩ : ByteArray)) ++ t107) ++ (⟨#[10]⟩ : ByteArray)).size ≤ 9223372036854775807 then (spec_SchedstatPrint.l0 k1 (x4_1 ++ (((((⟨#[99, 112, 117]⟩ : ByteArray) ++ ((rd_T48 l0 x11_1).f0)) ++ (⟨#[32]⟩ : ByteArray)) ++ t107) ++ (⟨#[10]⟩ : ByteArray))) l0 (l0.length : Int) (wrap64 (x11_1 + 1))) else (none)) else (none)) else (none))) else (none)) else (none)) else (some ((⟨#[]⟩ : ByteArray), 2)))) else (some ((⟨#[]⟩ : ByteArray), 2)))) = some (r1, r2) := by rw [if_pos rfl] at H; exact H
       clear H
       have H := H1
       clear H1
       replace H := Option.bind_eq_some_iff.mp H
       obtain ⟨t105, A70, H⟩ := H
       have A7 := Aside0.mk A70
       clear A70
       by_cases c8 : t105.toList = ((rd_T48 l0 x11_1).f0).toList
       ·rw [if_pos c8] at H
        have c8b0 : (t105.toList == ((rd_T48 l0 x11_1).f0).toList) = true := beq_iff_eq.mpr c8
        have c8b1 : (t105.toList != ((rd_T48 l0 x11_1).f0).toList) = false := bne_eq_false_iff_eq.mpr c8
        clear c8
        replace H := Option.bind_eq_some_iff.mp H
        obtain ⟨t106, A90, H⟩ := H
        have A9 := Aside0.mk A90
        clear A90
        by_cases c10 : t106 = true
        ·subst c10
         have H1 : (if 3 + ((rd_T48 l0 x11_1).f0).size ≤ 9223372036854775807 then (if ((⟨#[99, 112, 117]⟩ : ByteArray) ++ ((rd_T48 l0 x11_1).f0)).size + 1 ≤ 9223372036854775807 then ((spec_numbers.f k1 ((rd_T48 l0 x11_1).f1) (⟨#[32]⟩ : ByteArray)).bind fun t107 => (if (((⟨#[99, 112, 117]⟩ : ByteArray) ++ ((rd_T48 l0 x11_1).f0)) ++ (⟨#[32]⟩ : ByteArray)).size + t107.size ≤ 9223372036854775807 then (if ((((⟨#[99, 112, 117]⟩ : ByteArray) ++ ((rd_T48 l0 x11_1).f0)) ++ (⟨#[32]⟩ : ByteArray)) ++ t107).size + 1 ≤ 9223372036854775807 then (if x4_1.size + (((((⟨#[99, 112, 117]⟩ : ByteArray) ++ ((rd_T48 l0 x11_1).f0)) ++ (⟨#[32]⟩ : ByteArray)) ++ t107) ++ (⟨#[10]⟩ : ByteArray)).size ≤ 9223372036854775807 then (spec_SchedstatPrint.l0 k1 (x4_1 ++ (((((⟨#[99, 112, 117]⟩ : ByteArray) ++ ((rd_T48 l0 x11_1).f0)) ++ (⟨#[32]⟩ : ByteArray)) ++ t107) ++ (⟨#[10]⟩ : ByteArray))) l0 (l0.length : Int) (wrap64 (x11_1 + 1))) else (none)) else (none)) else (none))) else (none)) else (none)) = some (r1, r2) := by rw [if_pos rfl] at H; exact H
         clear H
         have H := H1
         clear H1
         by_cases c11 : 3 + ((rd_T48 l0 x11_1).f0).size ≤ 9223372036854775807
         ·rw [if_pos c11] at H
          have c11b0 := eq_true c11
          have c11z := c11
          (try simp only [ByteArray.size_append, sz1d1_, sz3d1_] at c11z)
          try have c11b3 := eq_false (Nat.not_lt.2 c11z)
          have c11b1 : decide (3 + ((rd_T48 l0 x11_1).f0).size ≤ 9223372036854775807) = true := decide_eq_true c11
          try have c11b2 : (9223372036854775807 < 3 + ((rd_T48 l0 x11_1).f0).size) = False := eq_false (Nat.not_lt.2 c11)
          by_cases c12 : ((⟨#[99, 112, 117]⟩ : ByteArray) ++ ((rd_T48 l0 x11_1).f0)).size + 1 ≤ 9223372036854775807
          ·rw [if_pos c12] at H
           have c12b0 := eq_true c12
           have c12z := c12
           (try simp only [ByteArray.size_append, sz1d1_, sz3d1_] at c12z)
           try have c12b3 := eq_false (Nat.not_lt.2 c12z)
           have c12b1 : decide (((⟨#[99, 112, 117]⟩ : ByteArray) ++ ((rd_T48 l0 x11_1).f0)).size + 1 ≤ 9223372036854775807) = true := decide_eq_true c12
           try have c12b2 : (9223372036854775807 < ((⟨#[99, 112, 117]⟩ : ByteArray) ++ ((rd_T48 l0 x11_1).f0)).size + 1) = False := eq_false (Nat.not_lt.2 c12)
           replace H := Option.bind_eq_some_iff.mp H
           obtain ⟨t107, A130, H⟩ := H
           have A13 := Aside0.mk A130
           clear A130
           by_cases c14 : (((⟨#[99, 112, 117]⟩ : ByteArray) ++ ((rd_T48 l0 x11_1).f0)) ++ (⟨#[32]⟩ : ByteArray)).size + t107.size ≤ 9223372036854775807
           ·rw [if_pos c14] at H
            have c14b0 := eq_true c14
            have c14z := c14
            (try simp only [ByteArray.size_append, sz1d1_, sz3d1_] at c14z)
            try have c14b3 := eq_false (Nat.not_lt.2 c14z)
            have c14b1 : decide ((((⟨#[99, 112, 117]⟩ : ByteArray) ++ ((rd_T48 l0 x11_1).f0)) ++ (⟨#[32]⟩ : ByteArray)).size + t107.size ≤ 9223372036854775807) = true := decide_eq_true c14
            try have c14b2 : (9223372036854775807 < (((⟨#[99, 112, 117]⟩ : ByteArray) ++ ((rd_T48 l0 x11_1).f0)) ++ (⟨#[32]⟩ : ByteArray)).size + t107.size) = False := eq_false (Nat.not_lt.2 c14)
            by_cases c15 : ((((⟨#[99, 112, 117]⟩ : ByteArray) ++ ((rd_T48 l0 x11_1).f0)) ++ (⟨#[32]⟩ : ByteArray)) ++ t107).size + 1 ≤ 9223372036854775807
            ·rw [if_pos c15] at H
             have c15b0 := eq_true c15
             have c15z := c15
             (try simp only [ByteArray.size_append, sz1d1_, sz3d1_] at c15z)
             try have c15b3 := eq_false (Nat.not_lt.2 c15z)
             have c15b1 : decide (((((⟨#[99, 112, 117]⟩ : ByteArray) ++ ((rd_T48 l0 x11_1).f0)) ++ (⟨#[32]⟩ : ByteArray)) ++ t107).size + 1 ≤ 9223372036854775807) = true := decide_eq_true c15
             try have c15b2 : (9223372036854775807 < ((((⟨#[99, 112, 117]⟩ : ByteArray) ++ ((rd_T48 l0 x11_1).f0)) ++ (⟨#[32]⟩ : ByteArray)) ++ t107).size + 1) = False := eq_false (Nat.not_lt.2 c15)
             by_cases c16 : x4_1.size + (((((⟨#[99, 112, 117]⟩ : ByteArray) ++ ((rd_T48 l0 x11_1).f0)) ++ (⟨#[32]⟩ : ByteArray)) ++ t107) ++ (⟨#[10]⟩ : ByteArray)).size ≤ 9223372036854775807
             ·rw [if_pos c16] at H
              have c16b0 := eq_true c16
              have c16z := c16
              (try simp only [ByteArray.size_append, sz1d1_, sz3d1_] at c16z)
              try have c16b3 := eq_false (Nat.not_lt.2 c16z)
              have c16b1 : decide (x4_1.size + (((((⟨#[99, 112, 117]⟩ : ByteArray) ++ ((rd_T48 l0 x11_1).f0)) ++ (⟨#[32]⟩ : ByteArray)) ++ t107) ++ (⟨#[10]⟩ : ByteArray)).size ≤ 9223372036854775807) = true := decide_eq_true c16
              try have c16b2 : (9223372036854775807 < x4_1.size + (((((⟨#[99, 112, 117]⟩ : ByteArray) ++ ((rd_T48 l0 x11_1).f0)) ++ (⟨#[32]⟩ : ByteArray)) ++ t107) ++ (⟨#[10]⟩ : ByteArray)).size) = False := eq_false (Nat.not_lt.2 c16)
              have H' := Aside0.mk H
              clear H
              have p101 : 0 ≤ (x11_1 : Int) := of_decide_eq_true (by first | (with_reducible assumption) | assumption)
              have q101 : x11_1 < (l0.length : Int) := of_decide_eq_true (by first | (with_reducible assumption) | assumption)
              obtain ⟨ad101, A101_1, c101_1, A101_2, c101_2, e101, hx101_0, hx101_1, hx101_2, hl101_1, hi101_1, hl101_2, hi101_2⟩ := at_T48 HR0.out x11_1 p101 q101
              cases e101
              replace hx101_0 := (HB.out.cell (World.block_lt_of_cell? w _ hx101_0)).trans hx101_0
              replace hx101_1 := (HB.out.cell (World.block_lt_of_cell? w _ hx101_1)).trans hx101_1
              replace hx101_2 := (HB.out.cell (World.block_lt_of_cell? w _ hx101_2)).trans hx101_2
              have HR101_1 := Aside0.mk hi101_1
              have HC101_1 := Aside0.mk hl101_1
              clear hi101_1 hl101_1
              have HR101_2 := Aside0.mk hi101_2
              have HC101_2 := Aside0.mk hl101_2
              clear hi101_2 hl101_2
              replace p101 := eq_true p101
              replace q101 := eq_true q101
              try go_wp2_with (first | ((with_reducible refine gate_dst (N := 6) rfl ?_); refine box_event ?hg (N := 6) ?hd (cs := #[.string (⟨#[]⟩ : ByteArray), .slice none 0 0, .slice none 0 0]) (t := 48) ?hr ?_; (case hd => rfl); (case hg => rfl); (case hr => first | (go_simp; done) | (go_simp; rfl)); intro gb102 hg w17 hbox hb; have n0_ := Aside0.mk (below_step belH hb); have n1_ := Aside0.mk (hbox); have n2_ := Aside0.mk ((by rw [hg]; exact (below_size belH) : w.heap.size ≤ gb102)); have n3_ := Aside0.mk ((by rw [hg]; exact (below_size belH) : w.heap.size ≤ gb102)); clear HB; have HB := n0_; have BK102 := n1_; have GW102 := n2_; have GE102 := n3_; clear n0_ n1_ n2_ n3_; clear hb hbox hg; obtain ⟨hcz18_0, hcz18_1, hcz18_2, hfz18_0, hfz18_1, hfz18_2⟩ := rows3 (w := w17) BK102) | ((with_reducible refine gate_callee (f := 74) rfl ?_); refine goesL_ (some 18) rfl rfl Tryz.func74 (by kernel_rfl) rfl #[.string ((rd_T48 l0 x11_1).f0)] rfl (by (try simp only [List.map_toArray, List.map_cons, List.map_nil]); first | done | rfl | (simp only [List.length_drop, List.length_take]; rfl)) ?_; (with_reducible refine (spec_Dec.calls k1 ((rd_T48 l0 x11_1).f0) t103 true _ A5.out).mono ?_); rintro e w' ⟨rfl, ⟨nd, rfl⟩⟩; refine ⟨_, rfl, ?_⟩))
              have n0_ : Aside0 ((((w17.setCell ⟨gb102, 0, none⟩ (.string ((rd_T48 l0 x11_1).f0))).setCell ⟨gb102, 1, none⟩ (.slice A101_1 ((rd_T48 l0 x11_1).f1).length c101_1)).setCell ⟨gb102, 2, none⟩ (.slice A101_2 ((rd_T48 l0 x11_1).f2).length c101_2)).heap[gb102]? = some (.cells #[.string ((rd_T48 l0 x11_1).f0), .slice A101_1 ((rd_T48 l0 x11_1).f1).length c101_1, .slice A101_2 ((rd_T48 l0 x11_1).f2).length c101_2] 48 (0, 0))) := ⟨by refine bY ?_; refine blk_put (cs := #[.string ((rd_T48 l0 x11_1).f0), .slice A101_1 ((rd_T48 l0 x11_1).f1).length c101_1, .slice none 0 0]) ?_ 2 _ rfl; refine bY ?_; refine blk_put (cs := #[.string ((rd_T48 l0 x11_1).f0), .slice none 0 0, .slice none 0 0]) ?_ 1 _ rfl; refine bY ?_; refine blk_put (cs := #[.string (⟨#[]⟩ : ByteArray), .slice none 0 0, .slice none 0 0]) ?_ 0 _ rfl; refine bY ?_; exact BK102.out⟩
              have n1_ : Aside0 (Below w.heap.size w (((w17.setCell ⟨gb102, 0, none⟩ (.string ((rd_T48 l0 x11_1).f0))).setCell ⟨gb102, 1, none⟩ (.slice A101_1 ((rd_T48 l0 x11_1).f1).length c101_1)).setCell ⟨gb102, 2, none⟩ (.slice A101_2 ((rd_T48 l0 x11_1).f2).length c101_2))) := ⟨by repeat (first | (with_reducible first | exact HB.out | apply below_alloc | apply pw_below_drewN | apply below_drew1 | refine below_set ?_ GE102.out) | exact HB.out)⟩
              (try clear BK102)
              (try clear HB)
              generalize (((w17.setCell ⟨gb102, 0, none⟩ (.string ((rd_T48 l0 x11_1).f0))).setCell ⟨gb102, 1, none⟩ (.slice A101_1 ((rd_T48 l0 x11_1).f1).length c101_1)).setCell ⟨gb102, 2, none⟩ (.slice A101_2 ((rd_T48 l0 x11_1).f2).length c101_2)) = w19 at n0_ n1_ ⊢
              have BK102 := n0_
              have HB := n1_
              clear n0_ n1_
              (try (rw [drewN_self w19]; generalize hq_ : World.drewN w19 _ = w19; have n0_ : Aside0 (w19.heap[gb102]? = some (.cells #[.string ((rd_T48 l0 x11_1).f0), .slice A101_1 ((rd_T48 l0 x11_1).f1).length c101_1, .slice A101_2 ((rd_T48 l0 x11_1).f2).length c101_2] 48 (0, 0))) := ⟨by rw [← hq_]; exact (by refine bY ?_; exact BK102.out)⟩; have n1_ : Aside0 (Below w.heap.size w w19) := ⟨by rw [← hq_]; exact belS⟩; clear BK102 HB hq_; have BK102 := n0_; have HB := n1_; clear n0_ n1_))
              have n0_ := Aside0.mk (blk_drew BK102.out)
              have n1_ := Aside0.mk (below_drew1 HB.out)
              clear BK102
              clear HB
              have BK102 := n0_
              have HB := n1_
              clear n0_ n1_
              refine start_ (n := 14) (S := fun w' => w'.cell? ⟨gb102, 0, none⟩ = some (.string ((rd_T48 l0 x11_1).f0)) ∧ w'.cell? ⟨gb102, 1, none⟩ = some (.slice A101_1 ((rd_T48 l0 x11_1).f1).length c101_1) ∧ w'.cell? ⟨gb102, 2, none⟩ = some (.slice A101_2 ((rd_T48 l0 x11_1).f2).length c101_2)) (ds := []) (tfA 0 14) (by kernel_rfl) rfl rfl ⟨(blk_cell BK102.out 0).trans rfl, (blk_cell BK102.out 1).trans rfl, (blk_cell BK102.out 2).trans rfl⟩ (fun hHeld => ?_); refine with_tabW spec_SchedstatPrint.tab6 spec_SchedstatPrint.bits6 (fun HT_ HW_ => ?_)
              generalize w19.drew = w20 at BK102 HB hHeld ⊢
              refine pure_ (i := 0) (N := some 21) (v := ?_) (a' := ?_) (tfA 1 13) rfl rfl (any_of HT_.out (by kernel_rfl)) (fun _ _ _ h => h) (Or.inl ⟨by rfl, ?_⟩) ?_ ?_
              rotate_left
              ·intro w'
               go_simp
               first | with_reducible rfl | (rw [if_neg (by omega)])
              rotate_left
              ·simp only [Act.put, sA, s0, s1, i64_w, i32_w]
               rfl
              refine pure_ (i := 1) (N := some 22) (v := ?_) (a' := ?_) (tfA 2 12) rfl rfl (any_of HT_.out (by kernel_rfl)) (fun _ _ _ h => h) (Or.inl ⟨by rfl, ?_⟩) ?_ ?_
              rotate_left
              ·intro w'
               go_simp
               first | with_reducible rfl | (rw [if_neg (by omega)])
              rotate_left
              ·simp only [Act.put, sA, s0, s1, i64_w, i32_w]
               rfl
              refine pure_ (i := 2) (N := some 23) (v := ?_) (a' := ?_) (tfA 3 11) rfl rfl (any_of HT_.out (by kernel_rfl)) (fun _ _ _ h => h) (Or.inl ⟨by rfl, ?_⟩) ?_ ?_
              rotate_left
              ·intro w'
               go_simp
               first | with_reducible rfl | (rw [if_neg (by omega)])
              rotate_left
              ·simp only [Act.put, sA, s0, s1, i64_w, i32_w]
               rfl
              refine pure_ (i := 3) (N := some 24) (v := ?_) (a' := ?_) (tfA 4 10) rfl rfl (any_of HT_.out (by kernel_rfl)) (fun _ _ _ h => h) (Or.inl ⟨by rfl, ?_⟩) ?_ ?_
              rotate_left
              ·intro w'
               go_simp
               first | with_reducible rfl | (rw [if_neg (by omega)])
              rotate_left
              ·simp only [Act.put, sA, s0, s1, i64_w, i32_w]
               rfl
              refine pure_ (i := 5) (N := some 26) (v := ?_) (a' := ?_) (bnA 14 47) rfl rfl (any_of HT_.out (by kernel_rfl)) (fun _ _ _ h => h) (Or.inl ⟨by rfl, ?_⟩) ?_ ?_
              rotate_left
              ·intro w'
               go_simp
               first | with_reducible rfl | (rw [if_neg (by omega)])
              rotate_left
              ·simp only [Act.put, sA, s0, s1, i64_w, i32_w]
               rfl
              refine take_ (i := 6) (N := some 27) (v := ?_) (a' := ?_) (bnA 14 111) rfl rfl (take_ofW HT_.out HW_.out (by kernel_rfl)) (fun _ _ _ h => h) (Or.inl ⟨by rfl, ?_⟩) hHeld ?_ ?_
              rotate_left
              ·rintro w' ⟨s0, s1, s2⟩
               go_simp
               first | with_reducible rfl | (rw [if_neg (by omega)])
              rotate_left
              ·simp only [Act.put, sA, s0, s1, i64_w, i32_w]
               rfl
              refine one_ (i := 4) (N := some 25) (tfA 7 7) rfl rfl (one_of HT_.out (by kernel_rfl)) (by decide) (fun K hK => ?_)
              refine goes_ Tryz.func48 (by kernel_rfl) rfl #[.int .u64 t103] (by rfl) rfl rfl (by (try simp only [List.map_toArray, List.map_cons, List.map_nil]); first | done | rfl | (simp only [List.length_drop, List.length_take]; rfl)) ?_
              with_reducible refine (spec_Text.calls k1 t103 t105 _ A7.out).mono ?_
              rintro e w21 ⟨rfl, hb⟩
              refine ⟨_, rfl, ?_⟩
              have n0_ := Aside0.mk (blk_below (g := gb102) (o := .cells #[.string ((rd_T48 l0 x11_1).f0), .slice A101_1 ((rd_T48 l0 x11_1).f1).length c101_1, .slice A101_2 ((rd_T48 l0 x11_1).f2).length c101_2] 48 (0, 0)) (by refine bY ?_; exact BK102.out) hb)
              have n1_ := Aside0.mk (below_step belS hb)
              clear BK102
              clear HB
              have BK102 := n0_
              have HB := n1_
              clear n0_ n1_
              (try clear hb)
              (try clear hb2)
              (try clear hk)
              (try clear hi)
              refine hK.out _ _ ⟨(blk_cell BK102.out 0).trans rfl, (blk_cell BK102.out 1).trans rfl, (blk_cell BK102.out 2).trans rfl⟩ (fun hHeld => ?_)
              clear hK K
              refine norm_ (a' := ?_) ?_ ?_
              rotate_left
              ·show Act.put _ (some 25) _ = _
               simp only [Act.put, sA, s0, s1, i64_w, i32_w]
               rfl
              refine pure_ (i := 7) (N := some 28) (v := ?_) (a' := ?_) (tfA 8 6) rfl rfl (any_of HT_.out (by kernel_rfl)) (fun _ _ _ h => h) (Or.inl ⟨by rfl, ?_⟩) ?_ ?_
              rotate_left
              ·intro w'
               go_simp
               first | with_reducible rfl | (rw [if_neg (by omega)])
              rotate_left
              ·simp only [Act.put, sA, s0, s1, i64_w, i32_w]
               rfl
              refine pure_ (i := 8) (N := some 29) (v := ?_) (a' := ?_) (tfA 9 5) rfl rfl (any_of HT_.out (by kernel_rfl)) (fun _ _ _ h => h) (Or.inl ⟨by rfl, ?_⟩) ?_ ?_
              rotate_left
              ·intro w'
               go_simp
               first | with_reducible rfl | (rw [if_neg (by omega)])
              rotate_left
              ·simp only [Act.put, sA, s0, s1, i64_w, i32_w]
               rfl
              refine pure_ (i := 9) (N := some 30) (v := ?_) (a' := ?_) (tfA 10 4) rfl rfl (any_of HT_.out (by kernel_rfl)) (fun _ _ _ h => h) (Or.inl ⟨by rfl, ?_⟩) ?_ ?_
              rotate_left
              ·intro w'
               go_simp
               first | with_reducible rfl | (rw [if_neg (by omega)])
              rotate_left
              ·simp only [Act.put, sA, s0, s1, i64_w, i32_w]
               rfl
              refine take_ (i := 10) (N := some 31) (v := ?_) (a' := ?_) (tfA 11 3) rfl rfl (take_ofW HT_.out HW_.out (by kernel_rfl)) (fun _ _ _ h => h) (Or.inl ⟨by rfl, ?_⟩) hHeld ?_ ?_
              rotate_left
              ·rintro w' ⟨s0, s1, s2⟩
               go_simp
               first | with_reducible rfl | (rw [if_neg (by omega)])
              rotate_left
              ·simp only [Act.put, sA, s0, s1, i64_w, i32_w]
               rfl
              refine one_ (i := 11) (N := some 32) (tfA 12 2) rfl rfl (one_of HT_.out (by kernel_rfl)) (by decide) (fun K hK => ?_)
              refine goes_ Tryz.func45 (by kernel_rfl) rfl #[.agg #[.string ((rd_T48 l0 x11_1).f0), .slice A101_1 ((rd_T48 l0 x11_1).f1).length c101_1, .slice A101_2 ((rd_T48 l0 x11_1).f2).length c101_2], .int .i64 9, .int .i64 0] (by rfl) rfl rfl (by (try simp only [List.map_toArray, List.map_cons, List.map_nil]); first | done | rfl | (simp only [List.length_drop, List.length_take]; rfl)) ?_
              with_reducible refine (spec_sized.calls ((rd_T48 l0 x11_1).f0) _ _ ((rd_T48 l0 x11_1).f1) _ _ ((rd_T48 l0 x11_1).f2) 9 0 true _ ?side1 ?side2 ?side3 ?side4 A9.out).mono ?_
              (case side1 => repeat (first | exact (Kd.C_below HR101_1.out HB.out) | (with_reducible refine Kd.C_alloc ?_ _) | (with_reducible refine Kd.C_drewN ?_ _) | (with_reducible refine Kd.C_drew ?_)))
              (case side2 => exact HC101_1.out)
              (case side3 => repeat (first | exact (Kd.C_below HR101_2.out HB.out) | (with_reducible refine Kd.C_alloc ?_ _) | (with_reducible refine Kd.C_drewN ?_ _) | (with_reducible refine Kd.C_drew ?_)))
              (case side4 => exact HC101_2.out)
              rintro e w22 ⟨rfl, hb⟩
              refine ⟨_, rfl, ?_⟩
              have n0_ := Aside0.mk (blk_below (g := gb102) (o := .cells #[.string ((rd_T48 l0 x11_1).f0), .slice A101_1 ((rd_T48 l0 x11_1).f1).length c101_1, .slice A101_2 ((rd_T48 l0 x11_1).f2).length c101_2] 48 (0, 0)) (by refine bY ?_; exact BK102.out) hb)
              have n1_ := Aside0.mk (below_step belS hb)
              clear BK102
              clear HB
              have BK102 := n0_
              have HB := n1_
              clear n0_ n1_
              (try clear hb)
              (try clear hb2)
              (try clear hk)
              (try clear hi)
              refine hK.out _ _ ⟨(blk_cell BK102.out 0).trans rfl, (blk_cell BK102.out 1).trans rfl, (blk_cell BK102.out 2).trans rfl⟩ (fun hHeld => ?_)
              clear hK K
              refine norm_ (a' := ?_) ?_ ?_
              rotate_left
              ·show Act.put _ (some 32) _ = _
               simp only [Act.put, sA, s0, s1, i64_w, i32_w]
               rfl
              refine pure_ (i := 12) (N := some 33) (v := ?_) (a' := ?_) (tfA 13 1) rfl rfl (any_of HT_.out (by kernel_rfl)) (fun _ _ _ h => h) (Or.inl ⟨by rfl, ?_⟩) ?_ ?_
              rotate_left
              ·intro w'
               go_simp
               first | with_reducible rfl | (rw [if_neg (by omega)])
              rotate_left
              ·simp only [Act.put, sA, s0, s1, i64_w, i32_w]
               rfl
              refine pure_ (i := 13) (N := some 34) (v := ?_) (a' := ?_) (tfA 14 0) rfl rfl (any_of HT_.out (by kernel_rfl)) (fun _ _ _ h => h) (Or.inl ⟨by rfl, ?_⟩) ?_ ?_
              rotate_left
              ·intro w'
               go_simp
               first | with_reducible rfl | (rw [if_neg (by omega)])
              rotate_left
              ·simp only [Act.put, sA, s0, s1, i64_w, i32_w]
               rfl
              refine done_ (done_of HT_.out (by kernel_rfl)) ?_
              try go_wp2
              have n0_ := Aside0.mk (blk_drew BK102.out)
              have n1_ := Aside0.mk (below_drew1 HB.out)
              clear BK102
              clear HB
              have BK102 := n0_
              have HB := n1_
              clear n0_ n1_
              refine start_ (n := 12) (S := fun w' => w'.cell? ⟨gb102, 0, none⟩ = some (.string ((rd_T48 l0 x11_1).f0)) ∧ w'.cell? ⟨gb102, 1, none⟩ = some (.slice A101_1 ((rd_T48 l0 x11_1).f1).length c101_1) ∧ w'.cell? ⟨gb102, 2, none⟩ = some (.slice A101_2 ((rd_T48 l0 x11_1).f2).length c101_2)) (ds := []) (tfA 0 12) (by kernel_rfl) rfl rfl ⟨(blk_cell BK102.out 0).trans rfl, (blk_cell BK102.out 1).trans rfl, (blk_cell BK102.out 2).trans rfl⟩ (fun hHeld => ?_); refine with_tabW spec_SchedstatPrint.tab8 spec_SchedstatPrint.bits8 (fun HT_ HW_ => ?_)
              generalize w22.drew = w23 at BK102 HB hHeld ⊢
              refine pure_ (i := 0) (N := some 35) (v := ?_) (a' := ?_) (tfA 1 11) rfl rfl (any_of HT_.out (by kernel_rfl)) (fun _ _ _ h => h) (Or.inl ⟨by rfl, ?_⟩) ?_ ?_
              rotate_left
              ·intro w'
               go_simp
               first | with_reducible rfl | (rw [if_neg (by omega)])
              rotate_left
              ·simp only [Act.put, sA, s0, s1, i64_w, i32_w]
               rfl
              refine pure_ (i := 1) (N := some 36) (v := ?_) (a' := ?_) (tfA 2 10) rfl rfl (any_of HT_.out (by kernel_rfl)) (fun _ _ _ h => h) (Or.inl ⟨by rfl, ?_⟩) ?_ ?_
              rotate_left
              ·intro w'
               go_simp
               first | with_reducible rfl | (rw [if_neg (by omega)])
              rotate_left
              ·simp only [Act.put, sA, s0, s1, i64_w, i32_w]
               rfl
              refine pure_ (i := 5) (N := some 40) (v := ?_) (a' := ?_) (bnA 12 35) rfl rfl (any_of HT_.out (by kernel_rfl)) (fun _ _ _ h => h) (Or.inl ⟨by rfl, ?_⟩) ?_ ?_
              rotate_left
              ·intro w'
               go_simp
               first | with_reducible rfl | (rw [if_neg (by omega)])
              rotate_left
              ·simp only [Act.put, sA, s0, s1, i64_w, i32_w]
               rfl
              refine take_ (i := 2) (N := some 37) (v := ?_) (a' := ?_) (bnA 12 39) rfl rfl (take_ofW HT_.out HW_.out (by kernel_rfl)) (fun _ _ _ h => h) (Or.inl ⟨by rfl, ?_⟩) hHeld ?_ ?_
              rotate_left
              ·rintro w' ⟨s0, s1, s2⟩
               go_simp
               first | with_reducible rfl | (rw [if_neg (by omega)])
              rotate_left
              ·simp only [Act.put, sA, s0, s1, i64_w, i32_w]
               rfl
              refine pure_ (i := 3) (N := some 38) (v := ?_) (a' := ?_) (bnA 12 47) rfl rfl (any_of HT_.out (by kernel_rfl)) (fun _ _ _ h => h) (Or.inl ⟨by rfl, ?_⟩) ?_ ?_
              rotate_left
              ·intro w'
               go_simp
               first | with_reducible rfl | (rw [if_neg (by omega)])
              rotate_left
              ·simp only [Act.put, sA, s0, s1, i64_w, i32_w]
               rfl
              refine pure_ (i := 4) (N := some 39) (v := ?_) (a' := ?_) (tfA 6 6) rfl rfl (any_of HT_.out (by kernel_rfl)) (fun _ _ _ h => h) (Or.inl ⟨by rfl, ?_⟩) ?_ ?_
              rotate_left
              ·intro w'
               go_simp
               first | with_reducible rfl | (rw [if_neg (by omega)])
              rotate_left
              ·simp only [Act.put, sA, s0, s1, i64_w, i32_w]
               rfl
              refine take_ (i := 6) (N := some 41) (v := ?_) (a' := ?_) (tfA 7 5) rfl rfl (take_ofW HT_.out HW_.out (by kernel_rfl)) (fun _ _ _ h => h) (Or.inl ⟨by rfl, ?_⟩) hHeld ?_ ?_
              rotate_left
              ·rintro w' ⟨s0, s1, s2⟩
               go_simp
               first | with_reducible rfl | (rw [if_neg (by omega)])
              rotate_left
              ·simp only [Act.put, sA, s0, s1, i64_w, i32_w]
               rfl
              refine one_ (i := 7) (N := some 42) (tfA 8 4) rfl rfl (one_of HT_.out (by kernel_rfl)) (by decide) (fun K hK => ?_)
              refine goes_ Tryz.func66 (by kernel_rfl) rfl #[.slice A101_1 ((rd_T48 l0 x11_1).f1).length c101_1, .string (⟨#[32]⟩ : ByteArray)] (by rfl) rfl rfl (by (try simp only [List.map_toArray, List.map_cons, List.map_nil]); first | done | rfl | (simp only [List.length_drop, List.length_take]; rfl)) ?_
              with_reducible refine (spec_numbers.calls k1 _ _ ((rd_T48 l0 x11_1).f1) (⟨#[32]⟩ : ByteArray) t107 _ ?side1 ?side2 A13.out).mono ?_
              (case side1 => repeat (first | exact (Kd.C_below HR101_1.out HB.out) | (with_reducible refine Kd.C_alloc ?_ _) | (with_reducible refine Kd.C_drewN ?_ _) | (with_reducible refine Kd.C_drew ?_)))
              (case side2 => exact HC101_1.out)
              rintro e w24 ⟨rfl, hb⟩
              refine ⟨_, rfl, ?_⟩
              have n0_ := Aside0.mk (blk_below (g := gb102) (o := .cells #[.string ((rd_T48 l0 x11_1).f0), .slice A101_1 ((rd_T48 l0 x11_1).f1).length c101_1, .slice A101_2 ((rd_T48 l0 x11_1).f2).length c101_2] 48 (0, 0)) (by refine bY ?_; exact BK102.out) hb)
              have n1_ := Aside0.mk (below_step belS hb)
              clear BK102
              clear HB
              have BK102 := n0_
              have HB := n1_
              clear n0_ n1_
              (try clear hb)
              (try clear hb2)
              (try clear hk)
              (try clear hi)
              refine hK.out _ _ ⟨(blk_cell BK102.out 0).trans rfl, (blk_cell BK102.out 1).trans rfl, (blk_cell BK102.out 2).trans rfl⟩ (fun hHeld => ?_)
              clear hK K
              refine norm_ (a' := ?_) ?_ ?_
              rotate_left
              ·show Act.put _ (some 42) _ = _
               simp only [Act.put, sA, s0, s1, i64_w, i32_w]
               rfl
              refine pure_ (i := 8) (N := some 43) (v := ?_) (a' := ?_) (tfA 9 3) rfl rfl (any_of HT_.out (by kernel_rfl)) (fun _ _ _ h => h) (Or.inl ⟨by rfl, ?_⟩) ?_ ?_
              rotate_left
              ·intro w'
               go_simp
               first | with_reducible rfl | (rw [if_neg (by omega)])
              rotate_left
              ·simp only [Act.put, sA, s0, s1, i64_w, i32_w]
               rfl
              refine pure_ (i := 9) (N := some 44) (v := ?_) (a' := ?_) (tfA 10 2) rfl rfl (any_of HT_.out (by kernel_rfl)) (fun _ _ _ h => h) (Or.inl ⟨by rfl, ?_⟩) ?_ ?_
              rotate_left
              ·intro w'
               go_simp
               first | with_reducible rfl | (rw [if_neg (by omega)])
              rotate_left
              ·simp only [Act.put, sA, s0, s1, i64_w, i32_w]
               rfl
              refine pure_ (i := 10) (N := some 45) (v := ?_) (a' := ?_) (tfA 11 1) rfl rfl (any_of HT_.out (by kernel_rfl)) (fun _ _ _ h => h) (Or.inl ⟨by rfl, ?_⟩) ?_ ?_
              rotate_left
              ·intro w'
               go_simp
               first | with_reducible rfl | (rw [if_neg (by omega)])
              rotate_left
              ·simp only [Act.put, sA, s0, s1, i64_w, i32_w]
               rfl
              refine pure_ (i := 11) (N := some 4) (v := ?_) (a' := ?_) (tfA 12 0) rfl rfl (any_of HT_.out (by kernel_rfl)) (fun _ _ _ h => h) (Or.inl ⟨by rfl, ?_⟩) ?_ ?_
              rotate_left
              ·intro w'
               go_simp
               first | with_reducible rfl | (rw [if_neg (by omega)])
              rotate_left
              ·simp only [Act.put, sA, s0, s1, i64_w, i32_w]
               rfl
              refine done_ (done_of HT_.out (by kernel_rfl)) ?_
              try go_wp2
              go_roundg k1
              case measure => have := HK1.out; omega
              case rel => exact ⟨(x4_1 ++ (((((⟨#[99, 112, 117]⟩ : ByteArray) ++ ((rd_T48 l0 x11_1).f0)) ++ (⟨#[32]⟩ : ByteArray)) ++ t107) ++ (⟨#[10]⟩ : ByteArray))), (wrap64 (x11_1 + 1)), (by first | rfl | (simp; done) | (simp [*]; done) | (simp [bne_nil]; done) | (simp [bne_nil, *]; done)), (by first | rfl | (simp; done) | (simp [*]; done) | (simp [bne_nil]; done) | (simp [bne_nil, *]; done)), H', ⟨by have := HK1.out; omega⟩, ⟨by repeat (first | (with_reducible first | exact HB.out | apply below_alloc | apply pw_below_drewN | apply below_drew1 | refine below_set ?_ GE102.out) | exact HB.out)⟩⟩
             ·rw [if_neg c16] at H
              exact absurd H (by simp)
            ·rw [if_neg c15] at H
             exact absurd H (by simp)
           ·rw [if_neg c14] at H
            exact absurd H (by simp)
          ·rw [if_neg c12] at H
           exact absurd H (by simp)
         ·rw [if_neg c11] at H
          exact absurd H (by simp)
        ·replace c10 := Bool.eq_false_iff.mpr c10
         subst c10
         have H1 : (some ((⟨#[]⟩ : ByteArray), 2)) = some (r1, r2) := by rw [if_neg (show ¬ (false = true) by decide)] at H; exact H
         clear H
         have H := H1
         clear H1
         simp only [Option.some.injEq, Prod.mk.injEq] at H
         obtain ⟨rfl, rfl⟩ := H
         have p101 : 0 ≤ (x11_1 : Int) := of_decide_eq_true (by first | (with_reducible assumption) | assumption)
         have q101 : x11_1 < (l0.length : Int) := of_decide_eq_true (by first | (with_reducible assumption) | assumption)
         obtain ⟨ad101, A101_1, c101_1, A101_2, c101_2, e101, hx101_0, hx101_1, hx101_2, hl101_1, hi101_1, hl101_2, hi101_2⟩ := at_T48 HR0.out x11_1 p101 q101
         cases e101
         replace hx101_0 := (HB.out.cell (World.block_lt_of_cell? w _ hx101_0)).trans hx101_0
         replace hx101_1 := (HB.out.cell (World.block_lt_of_cell? w _ hx101_1)).trans hx101_1
         replace hx101_2 := (HB.out.cell (World.block_lt_of_cell? w _ hx101_2)).trans hx101_2
         have HR101_1 := Aside0.mk hi101_1
         have HC101_1 := Aside0.mk hl101_1
         clear hi101_1 hl101_1
         have HR101_2 := Aside0.mk hi101_2
         have HC101_2 := Aside0.mk hl101_2
         clear hi101_2 hl101_2
         replace p101 := eq_true p101
         replace q101 := eq_true q101
         try go_wp2_with (first | ((with_reducible refine gate_dst (N := 6) rfl ?_); refine box_event ?hg (N := 6) ?hd (cs := #[.string (⟨#[]⟩ : ByteArray), .slice none 0 0, .slice none 0 0]) (t := 48) ?hr ?_; (case hd => rfl); (case hg => rfl); (case hr => first | (go_simp; done) | (go_simp; rfl)); intro gb102 hg w25 hbox hb; have n0_ := Aside0.mk (below_step belH hb); have n1_ := Aside0.mk (hbox); have n2_ := Aside0.mk ((by rw [hg]; exact (below_size belH) : w.heap.size ≤ gb102)); have n3_ := Aside0.mk ((by rw [hg]; exact (below_size belH) : w.heap.size ≤ gb102)); clear HB; have HB := n0_; have BK102 := n1_; have GW102 := n2_; have GE102 := n3_; clear n0_ n1_ n2_ n3_; clear hb hbox hg; obtain ⟨hcz26_0, hcz26_1, hcz26_2, hfz26_0, hfz26_1, hfz26_2⟩ := rows3 (w := w25) BK102) | ((with_reducible refine gate_callee (f := 74) rfl ?_); refine goesL_ (some 18) rfl rfl Tryz.func74 (by kernel_rfl) rfl #[.string ((rd_T48 l0 x11_1).f0)] rfl (by (try simp only [List.map_toArray, List.map_cons, List.map_nil]); first | done | rfl | (simp only [List.length_drop, List.length_take]; rfl)) ?_; (with_reducible refine (spec_Dec.calls k1 ((rd_T48 l0 x11_1).f0) t103 true _ A5.out).mono ?_); rintro e w' ⟨rfl, ⟨nd, rfl⟩⟩; refine ⟨_, rfl, ?_⟩))
         have n0_ : Aside0 ((((w25.setCell ⟨gb102, 0, none⟩ (.string ((rd_T48 l0 x11_1).f0))).setCell ⟨gb102, 1, none⟩ (.slice A101_1 ((rd_T48 l0 x11_1).f1).length c101_1)).setCell ⟨gb102, 2, none⟩ (.slice A101_2 ((rd_T48 l0 x11_1).f2).length c101_2)).heap[gb102]? = some (.cells #[.string ((rd_T48 l0 x11_1).f0), .slice A101_1 ((rd_T48 l0 x11_1).f1).length c101_1, .slice A101_2 ((rd_T48 l0 x11_1).f2).length c101_2] 48 (0, 0))) := ⟨by refine bY ?_; refine blk_put (cs := #[.string ((rd_T48 l0 x11_1).f0), .slice A101_1 ((rd_T48 l0 x11_1).f1).length c101_1, .slice none 0 0]) ?_ 2 _ rfl; refine bY ?_; refine blk_put (cs := #[.string ((rd_T48 l0 x11_1).f0), .slice none 0 0, .slice none 0 0]) ?_ 1 _ rfl; refine bY ?_; refine blk_put (cs := #[.string (⟨#[]⟩ : ByteArray), .slice none 0 0, .slice none 0 0]) ?_ 0 _ rfl; refine bY ?_; exact BK102.out⟩
         have n1_ : Aside0 (Below w.heap.size w (((w25.setCell ⟨gb102, 0, none⟩ (.string ((rd_T48 l0 x11_1).f0))).setCell ⟨gb102, 1, none⟩ (.slice A101_1 ((rd_T48 l0 x11_1).f1).length c101_1)).setCell ⟨gb102, 2, none⟩ (.slice A101_2 ((rd_T48 l0 x11_1).f2).length c101_2))) := ⟨by repeat (first | (with_reducible first | exact HB.out | apply below_alloc | apply pw_below_drewN | apply below_drew1 | refine below_set ?_ GE102.out) | exact HB.out)⟩
         (try clear BK102)
         (try clear HB)
         generalize (((w25.setCell ⟨gb102, 0, none⟩ (.string ((rd_T48 l0 x11_1).f0))).setCell ⟨gb102, 1, none⟩ (.slice A101_1 ((rd_T48 l0 x11_1).f1).length c101_1)).setCell ⟨gb102, 2, none⟩ (.slice A101_2 ((rd_T48 l0 x11_1).f2).length c101_2)) = w27 at n0_ n1_ ⊢
         have BK102 := n0_
         have HB := n1_
         clear n0_ n1_
         (try (rw [drewN_self w27]; generalize hq_ : World.drewN w27 _ = w27; have n0_ : Aside0 (w27.heap[gb102]? = some (.cells #[.string ((rd_T48 l0 x11_1).f0), .slice A101_1 ((rd_T48 l0 x11_1).f1).length c101_1, .slice A101_2 ((rd_T48 l0 x11_1).f2).length c101_2] 48 (0, 0))) := ⟨by rw [← hq_]; exact (by refine bY ?_; exact BK102.out)⟩; have n1_ : Aside0 (Below w.heap.size w w27) := ⟨by rw [← hq_]; exact belS⟩; clear BK102 HB hq_; have BK102 := n0_; have HB := n1_; clear n0_ n1_))
         have n0_ := Aside0.mk (blk_drew BK102.out)
         have n1_ := Aside0.mk (below_drew1 HB.out)
         clear BK102
         clear HB
         have BK102 := n0_
         have HB := n1_
         clear n0_ n1_
         refine start_ (n := 14) (S := fun w' => w'.cell? ⟨gb102, 0, none⟩ = some (.string ((rd_T48 l0 x11_1).f0)) ∧ w'.cell? ⟨gb102, 1, none⟩ = some (.slice A101_1 ((rd_T48 l0 x11_1).f1).length c101_1) ∧ w'.cell? ⟨gb102, 2, none⟩ = some (.slice A101_2 ((rd_T48 l0 x11_1).f2).length c101_2)) (ds := []) (tfA 0 14) (by kernel_rfl) rfl rfl ⟨(blk_cell BK102.out 0).trans rfl, (blk_cell BK102.out 1).trans rfl, (blk_cell BK102.out 2).trans rfl⟩ (fun hHeld => ?_); refine with_tabW spec_SchedstatPrint.tab6 spec_SchedstatPrint.bits6 (fun HT_ HW_ => ?_)
         generalize w27.drew = w28 at BK102 HB hHeld ⊢
         refine pure_ (i := 0) (N := some 21) (v := ?_) (a' := ?_) (tfA 1 13) rfl rfl (any_of HT_.out (by kernel_rfl)) (fun _ _ _ h => h) (Or.inl ⟨by rfl, ?_⟩) ?_ ?_
         rotate_left
         ·intro w'
          go_simp
          first | with_reducible rfl | (rw [if_neg (by omega)])
         rotate_left
         ·simp only [Act.put, sA, s0, s1, i64_w, i32_w]
          rfl
         refine pure_ (i := 1) (N := some 22) (v := ?_) (a' := ?_) (tfA 2 12) rfl rfl (any_of HT_.out (by kernel_rfl)) (fun _ _ _ h => h) (Or.inl ⟨by rfl, ?_⟩) ?_ ?_
         rotate_left
         ·intro w'
          go_simp
          first | with_reducible rfl | (rw [if_neg (by omega)])
         rotate_left
         ·simp only [Act.put, sA, s0, s1, i64_w, i32_w]
          rfl
         refine pure_ (i := 2) (N := some 23) (v := ?_) (a' := ?_) (tfA 3 11) rfl rfl (any_of HT_.out (by kernel_rfl)) (fun _ _ _ h => h) (Or.inl ⟨by rfl, ?_⟩) ?_ ?_
         rotate_left
         ·intro w'
          go_simp
          first | with_reducible rfl | (rw [if_neg (by omega)])
         rotate_left
         ·simp only [Act.put, sA, s0, s1, i64_w, i32_w]
          rfl
         refine pure_ (i := 3) (N := some 24) (v := ?_) (a' := ?_) (tfA 4 10) rfl rfl (any_of HT_.out (by kernel_rfl)) (fun _ _ _ h => h) (Or.inl ⟨by rfl, ?_⟩) ?_ ?_
         rotate_left
         ·intro w'
          go_simp
          first | with_reducible rfl | (rw [if_neg (by omega)])
         rotate_left
         ·simp only [Act.put, sA, s0, s1, i64_w, i32_w]
          rfl
         refine pure_ (i := 5) (N := some 26) (v := ?_) (a' := ?_) (bnA 14 47) rfl rfl (any_of HT_.out (by kernel_rfl)) (fun _ _ _ h => h) (Or.inl ⟨by rfl, ?_⟩) ?_ ?_
         rotate_left
         ·intro w'
          go_simp
          first | with_reducible rfl | (rw [if_neg (by omega)])
         rotate_left
         ·simp only [Act.put, sA, s0, s1, i64_w, i32_w]
          rfl
         refine take_ (i := 6) (N := some 27) (v := ?_) (a' := ?_) (bnA 14 111) rfl rfl (take_ofW HT_.out HW_.out (by kernel_rfl)) (fun _ _ _ h => h) (Or.inl ⟨by rfl, ?_⟩) hHeld ?_ ?_
         rotate_left
         ·rintro w' ⟨s0, s1, s2⟩
          go_simp
          first | with_reducible rfl | (rw [if_neg (by omega)])
         rotate_left
         ·simp only [Act.put, sA, s0, s1, i64_w, i32_w]
          rfl
         refine one_ (i := 4) (N := some 25) (tfA 7 7) rfl rfl (one_of HT_.out (by kernel_rfl)) (by decide) (fun K hK => ?_)
         refine goes_ Tryz.func48 (by kernel_rfl) rfl #[.int .u64 t103] (by rfl) rfl rfl (by (try simp only [List.map_toArray, List.map_cons, List.map_nil]); first | done | rfl | (simp only [List.length_drop, List.length_take]; rfl)) ?_
         with_reducible refine (spec_Text.calls k1 t103 t105 _ A7.out).mono ?_
         rintro e w29 ⟨rfl, hb⟩
         refine ⟨_, rfl, ?_⟩
         have n0_ := Aside0.mk (blk_below (g := gb102) (o := .cells #[.string ((rd_T48 l0 x11_1).f0), .slice A101_1 ((rd_T48 l0 x11_1).f1).length c101_1, .slice A101_2 ((rd_T48 l0 x11_1).f2).length c101_2] 48 (0, 0)) (by refine bY ?_; exact BK102.out) hb)
         have n1_ := Aside0.mk (below_step belS hb)
         clear BK102
         clear HB
         have BK102 := n0_
         have HB := n1_
         clear n0_ n1_
         (try clear hb)
         (try clear hb2)
         (try clear hk)
         (try clear hi)
         refine hK.out _ _ ⟨(blk_cell BK102.out 0).trans rfl, (blk_cell BK102.out 1).trans rfl, (blk_cell BK102.out 2).trans rfl⟩ (fun hHeld => ?_)
         clear hK K
         refine norm_ (a' := ?_) ?_ ?_
         rotate_left
         ·show Act.put _ (some 25) _ = _
          simp only [Act.put, sA, s0, s1, i64_w, i32_w]
          rfl
         refine pure_ (i := 7) (N := some 28) (v := ?_) (a' := ?_) (tfA 8 6) rfl rfl (any_of HT_.out (by kernel_rfl)) (fun _ _ _ h => h) (Or.inl ⟨by rfl, ?_⟩) ?_ ?_
         rotate_left
         ·intro w'
          go_simp
          first | with_reducible rfl | (rw [if_neg (by omega)])
         rotate_left
         ·simp only [Act.put, sA, s0, s1, i64_w, i32_w]
          rfl
         refine pure_ (i := 8) (N := some 29) (v := ?_) (a' := ?_) (tfA 9 5) rfl rfl (any_of HT_.out (by kernel_rfl)) (fun _ _ _ h => h) (Or.inl ⟨by rfl, ?_⟩) ?_ ?_
         rotate_left
         ·intro w'
          go_simp
          first | with_reducible rfl | (rw [if_neg (by omega)])
         rotate_left
         ·simp only [Act.put, sA, s0, s1, i64_w, i32_w]
          rfl
         refine pure_ (i := 9) (N := some 30) (v := ?_) (a' := ?_) (tfA 10 4) rfl rfl (any_of HT_.out (by kernel_rfl)) (fun _ _ _ h => h) (Or.inl ⟨by rfl, ?_⟩) ?_ ?_
         rotate_left
         ·intro w'
          go_simp
          first | with_reducible rfl | (rw [if_neg (by omega)])
         rotate_left
         ·simp only [Act.put, sA, s0, s1, i64_w, i32_w]
          rfl
         refine take_ (i := 10) (N := some 31) (v := ?_) (a' := ?_) (tfA 11 3) rfl rfl (take_ofW HT_.out HW_.out (by kernel_rfl)) (fun _ _ _ h => h) (Or.inl ⟨by rfl, ?_⟩) hHeld ?_ ?_
         rotate_left
         ·rintro w' ⟨s0, s1, s2⟩
          go_simp
          first | with_reducible rfl | (rw [if_neg (by omega)])
         rotate_left
         ·simp only [Act.put, sA, s0, s1, i64_w, i32_w]
          rfl
         refine one_ (i := 11) (N := some 32) (tfA 12 2) rfl rfl (one_of HT_.out (by kernel_rfl)) (by decide) (fun K hK => ?_)
         refine goes_ Tryz.func45 (by kernel_rfl) rfl #[.agg #[.string ((rd_T48 l0 x11_1).f0), .slice A101_1 ((rd_T48 l0 x11_1).f1).length c101_1, .slice A101_2 ((rd_T48 l0 x11_1).f2).length c101_2], .int .i64 9, .int .i64 0] (by rfl) rfl rfl (by (try simp only [List.map_toArray, List.map_cons, List.map_nil]); first | done | rfl | (simp only [List.length_drop, List.length_take]; rfl)) ?_
         with_reducible refine (spec_sized.calls ((rd_T48 l0 x11_1).f0) _ _ ((rd_T48 l0 x11_1).f1) _ _ ((rd_T48 l0 x11_1).f2) 9 0 false _ ?side1 ?side2 ?side3 ?side4 A9.out).mono ?_
         (case side1 => repeat (first | exact (Kd.C_below HR101_1.out HB.out) | (with_reducible refine Kd.C_alloc ?_ _) | (with_reducible refine Kd.C_drewN ?_ _) | (with_reducible refine Kd.C_drew ?_)))
         (case side2 => exact HC101_1.out)
         (case side3 => repeat (first | exact (Kd.C_below HR101_2.out HB.out) | (with_reducible refine Kd.C_alloc ?_ _) | (with_reducible refine Kd.C_drewN ?_ _) | (with_reducible refine Kd.C_drew ?_)))
         (case side4 => exact HC101_2.out)
         rintro e w30 ⟨rfl, hb⟩
         refine ⟨_, rfl, ?_⟩
         have n0_ := Aside0.mk (blk_below (g := gb102) (o := .cells #[.string ((rd_T48 l0 x11_1).f0), .slice A101_1 ((rd_T48 l0 x11_1).f1).length c101_1, .slice A101_2 ((rd_T48 l0 x11_1).f2).length c101_2] 48 (0, 0)) (by refine bY ?_; exact BK102.out) hb)
         have n1_ := Aside0.mk (below_step belS hb)
         clear BK102
         clear HB
         have BK102 := n0_
         have HB := n1_
         clear n0_ n1_
         (try clear hb)
         (try clear hb2)
         (try clear hk)
         (try clear hi)
         refine hK.out _ _ ⟨(blk_cell BK102.out 0).trans rfl, (blk_cell BK102.out 1).trans rfl, (blk_cell BK102.out 2).trans rfl⟩ (fun hHeld => ?_)
         clear hK K
         refine norm_ (a' := ?_) ?_ ?_
         rotate_left
         ·show Act.put _ (some 32) _ = _
          simp only [Act.put, sA, s0, s1, i64_w, i32_w]
          rfl
         refine pure_ (i := 12) (N := some 33) (v := ?_) (a' := ?_) (tfA 13 1) rfl rfl (any_of HT_.out (by kernel_rfl)) (fun _ _ _ h => h) (Or.inl ⟨by rfl, ?_⟩) ?_ ?_
         rotate_left
         ·intro w'
          go_simp
          first | with_reducible rfl | (rw [if_neg (by omega)])
         rotate_left
         ·simp only [Act.put, sA, s0, s1, i64_w, i32_w]
          rfl
         refine pure_ (i := 13) (N := some 34) (v := ?_) (a' := ?_) (tfA 14 0) rfl rfl (any_of HT_.out (by kernel_rfl)) (fun _ _ _ h => h) (Or.inl ⟨by rfl, ?_⟩) ?_ ?_
         rotate_left
         ·intro w'
          go_simp
          first | with_reducible rfl | (rw [if_neg (by omega)])
         rotate_left
         ·simp only [Act.put, sA, s0, s1, i64_w, i32_w]
          rfl
         refine done_ (done_of HT_.out (by kernel_rfl)) ?_
         try go_wp2
         go_ret2
         exact ⟨by first | rfl | (simp [errW_none, errW_some] <;> rfl) | (simp [*, errW_none, errW_some] <;> rfl), by repeat (first | (with_reducible first | exact HB.out | apply below_alloc | apply pw_below_drewN | apply below_drew1 | refine below_set ?_ GE102.out) | exact HB.out)⟩
       ·rw [if_neg c8] at H
        have c8b0 : (t105.toList == ((rd_T48 l0 x11_1).f0).toList) = false := beq_eq_false_iff_ne.mpr c8
        have c8b1 : (t105.toList != ((rd_T48 l0 x11_1).f0).toList) = true := bne_iff_ne.mpr c8
        simp only [Option.some.injEq, Prod.mk.injEq] at H
        obtain ⟨rfl, rfl⟩ := H
        have p101 : 0 ≤ (x11_1 : Int) := of_decide_eq_true (by first | (with_reducible assumption) | assumption)
        have q101 : x11_1 < (l0.length : Int) := of_decide_eq_true (by first | (with_reducible assumption) | assumption)
        obtain ⟨ad101, A101_1, c101_1, A101_2, c101_2, e101, hx101_0, hx101_1, hx101_2, hl101_1, hi101_1, hl101_2, hi101_2⟩ := at_T48 HR0.out x11_1 p101 q101
        cases e101
        replace hx101_0 := (HB.out.cell (World.block_lt_of_cell? w _ hx101_0)).trans hx101_0
        replace hx101_1 := (HB.out.cell (World.block_lt_of_cell? w _ hx101_1)).trans hx101_1
        replace hx101_2 := (HB.out.cell (World.block_lt_of_cell? w _ hx101_2)).trans hx101_2
        have HR101_1 := Aside0.mk hi101_1
        have HC101_1 := Aside0.mk hl101_1
        clear hi101_1 hl101_1
        have HR101_2 := Aside0.mk hi101_2
        have HC101_2 := Aside0.mk hl101_2
        clear hi101_2 hl101_2
        replace p101 := eq_true p101
        replace q101 := eq_true q101
        try go_wp2_with (first | ((with_reducible refine gate_dst (N := 6) rfl ?_); refine box_event ?hg (N := 6) ?hd (cs := #[.string (⟨#[]⟩ : ByteArray), .slice none 0 0, .slice none 0 0]) (t := 48) ?hr ?_; (case hd => rfl); (case hg => rfl); (case hr => first | (go_simp; done) | (go_simp; rfl)); intro gb102 hg w31 hbox hb; have n0_ := Aside0.mk (below_step belH hb); have n1_ := Aside0.mk (hbox); have n2_ := Aside0.mk ((by rw [hg]; exact (below_size belH) : w.heap.size ≤ gb102)); have n3_ := Aside0.mk ((by rw [hg]; exact (below_size belH) : w.heap.size ≤ gb102)); clear HB; have HB := n0_; have BK102 := n1_; have GW102 := n2_; have GE102 := n3_; clear n0_ n1_ n2_ n3_; clear hb hbox hg; obtain ⟨hcz32_0, hcz32_1, hcz32_2, hfz32_0, hfz32_1, hfz32_2⟩ := rows3 (w := w31) BK102) | ((with_reducible refine gate_callee (f := 74) rfl ?_); refine goesL_ (some 18) rfl rfl Tryz.func74 (by kernel_rfl) rfl #[.string ((rd_T48 l0 x11_1).f0)] rfl (by (try simp only [List.map_toArray, List.map_cons, List.map_nil]); first | done | rfl | (simp only [List.length_drop, List.length_take]; rfl)) ?_; (with_reducible refine (spec_Dec.calls k1 ((rd_T48 l0 x11_1).f0) t103 true _ A5.out).mono ?_); rintro e w' ⟨rfl, ⟨nd, rfl⟩⟩; refine ⟨_, rfl, ?_⟩))
        have n0_ : Aside0 ((((w31.setCell ⟨gb102, 0, none⟩ (.string ((rd_T48 l0 x11_1).f0))).setCell ⟨gb102, 1, none⟩ (.slice A101_1 ((rd_T48 l0 x11_1).f1).length c101_1)).setCell ⟨gb102, 2, none⟩ (.slice A101_2 ((rd_T48 l0 x11_1).f2).length c101_2)).heap[gb102]? = some (.cells #[.string ((rd_T48 l0 x11_1).f0), .slice A101_1 ((rd_T48 l0 x11_1).f1).length c101_1, .slice A101_2 ((rd_T48 l0 x11_1).f2).length c101_2] 48 (0, 0))) := ⟨by refine bY ?_; refine blk_put (cs := #[.string ((rd_T48 l0 x11_1).f0), .slice A101_1 ((rd_T48 l0 x11_1).f1).length c101_1, .slice none 0 0]) ?_ 2 _ rfl; refine bY ?_; refine blk_put (cs := #[.string ((rd_T48 l0 x11_1).f0), .slice none 0 0, .slice none 0 0]) ?_ 1 _ rfl; refine bY ?_; refine blk_put (cs := #[.string (⟨#[]⟩ : ByteArray), .slice none 0 0, .slice none 0 0]) ?_ 0 _ rfl; refine bY ?_; exact BK102.out⟩
        have n1_ : Aside0 (Below w.heap.size w (((w31.setCell ⟨gb102, 0, none⟩ (.string ((rd_T48 l0 x11_1).f0))).setCell ⟨gb102, 1, none⟩ (.slice A101_1 ((rd_T48 l0 x11_1).f1).length c101_1)).setCell ⟨gb102, 2, none⟩ (.slice A101_2 ((rd_T48 l0 x11_1).f2).length c101_2))) := ⟨by repeat (first | (with_reducible first | exact HB.out | apply below_alloc | apply pw_below_drewN | apply below_drew1 | refine below_set ?_ GE102.out) | exact HB.out)⟩
        (try clear BK102)
        (try clear HB)
        generalize (((w31.setCell ⟨gb102, 0, none⟩ (.string ((rd_T48 l0 x11_1).f0))).setCell ⟨gb102, 1, none⟩ (.slice A101_1 ((rd_T48 l0 x11_1).f1).length c101_1)).setCell ⟨gb102, 2, none⟩ (.slice A101_2 ((rd_T48 l0 x11_1).f2).length c101_2)) = w33 at n0_ n1_ ⊢
        have BK102 := n0_
        have HB := n1_
        clear n0_ n1_
        (try (rw [drewN_self w33]; generalize hq_ : World.drewN w33 _ = w33; have n0_ : Aside0 (w33.heap[gb102]? = some (.cells #[.string ((rd_T48 l0 x11_1).f0), .slice A101_1 ((rd_T48 l0 x11_1).f1).length c101_1, .slice A101_2 ((rd_T48 l0 x11_1).f2).length c101_2] 48 (0, 0))) := ⟨by rw [← hq_]; exact (by refine bY ?_; exact BK102.out)⟩; have n1_ : Aside0 (Below w.heap.size w w33) := ⟨by rw [← hq_]; exact belS⟩; clear BK102 HB hq_; have BK102 := n0_; have HB := n1_; clear n0_ n1_))
        have n0_ := Aside0.mk (blk_drew BK102.out)
        have n1_ := Aside0.mk (below_drew1 HB.out)
        clear BK102
        clear HB
        have BK102 := n0_
        have HB := n1_
        clear n0_ n1_
        refine start_ (n := 14) (S := fun w' => w'.cell? ⟨gb102, 0, none⟩ = some (.string ((rd_T48 l0 x11_1).f0)) ∧ w'.cell? ⟨gb102, 1, none⟩ = some (.slice A101_1 ((rd_T48 l0 x11_1).f1).length c101_1) ∧ w'.cell? ⟨gb102, 2, none⟩ = some (.slice A101_2 ((rd_T48 l0 x11_1).f2).length c101_2)) (ds := []) (tfA 0 14) (by kernel_rfl) rfl rfl ⟨(blk_cell BK102.out 0).trans rfl, (blk_cell BK102.out 1).trans rfl, (blk_cell BK102.out 2).trans rfl⟩ (fun hHeld => ?_); refine with_tabW spec_SchedstatPrint.tab6 spec_SchedstatPrint.bits6 (fun HT_ HW_ => ?_)
        generalize w33.drew = w34 at BK102 HB hHeld ⊢
        refine pure_ (i := 0) (N := some 21) (v := ?_) (a' := ?_) (tfA 1 13) rfl rfl (any_of HT_.out (by kernel_rfl)) (fun _ _ _ h => h) (Or.inl ⟨by rfl, ?_⟩) ?_ ?_
        rotate_left
        ·intro w'
         go_simp
         first | with_reducible rfl | (rw [if_neg (by omega)])
        rotate_left
        ·simp only [Act.put, sA, s0, s1, i64_w, i32_w]
         rfl
        refine pure_ (i := 1) (N := some 22) (v := ?_) (a' := ?_) (tfA 2 12) rfl rfl (any_of HT_.out (by kernel_rfl)) (fun _ _ _ h => h) (Or.inl ⟨by rfl, ?_⟩) ?_ ?_
        rotate_left
        ·intro w'
         go_simp
         first | with_reducible rfl | (rw [if_neg (by omega)])
        rotate_left
        ·simp only [Act.put, sA, s0, s1, i64_w, i32_w]
         rfl
        refine pure_ (i := 2) (N := some 23) (v := ?_) (a' := ?_) (tfA 3 11) rfl rfl (any_of HT_.out (by kernel_rfl)) (fun _ _ _ h => h) (Or.inl ⟨by rfl, ?_⟩) ?_ ?_
        rotate_left
        ·intro w'
         go_simp
         first | with_reducible rfl | (rw [if_neg (by omega)])
        rotate_left
        ·simp only [Act.put, sA, s0, s1, i64_w, i32_w]
         rfl
        refine pure_ (i := 3) (N := some 24) (v := ?_) (a' := ?_) (tfA 4 10) rfl rfl (any_of HT_.out (by kernel_rfl)) (fun _ _ _ h => h) (Or.inl ⟨by rfl, ?_⟩) ?_ ?_
        rotate_left
        ·intro w'
         go_simp
         first | with_reducible rfl | (rw [if_neg (by omega)])
        rotate_left
        ·simp only [Act.put, sA, s0, s1, i64_w, i32_w]
         rfl
        refine pure_ (i := 5) (N := some 26) (v := ?_) (a' := ?_) (bnA 14 47) rfl rfl (any_of HT_.out (by kernel_rfl)) (fun _ _ _ h => h) (Or.inl ⟨by rfl, ?_⟩) ?_ ?_
        rotate_left
        ·intro w'
         go_simp
         first | with_reducible rfl | (rw [if_neg (by omega)])
        rotate_left
        ·simp only [Act.put, sA, s0, s1, i64_w, i32_w]
         rfl
        refine take_ (i := 6) (N := some 27) (v := ?_) (a' := ?_) (bnA 14 111) rfl rfl (take_ofW HT_.out HW_.out (by kernel_rfl)) (fun _ _ _ h => h) (Or.inl ⟨by rfl, ?_⟩) hHeld ?_ ?_
        rotate_left
        ·rintro w' ⟨s0, s1, s2⟩
         go_simp
         first | with_reducible rfl | (rw [if_neg (by omega)])
        rotate_left
        ·simp only [Act.put, sA, s0, s1, i64_w, i32_w]
         rfl
        refine one_ (i := 4) (N := some 25) (tfA 7 7) rfl rfl (one_of HT_.out (by kernel_rfl)) (by decide) (fun K hK => ?_)
        refine goes_ Tryz.func48 (by kernel_rfl) rfl #[.int .u64 t103] (by rfl) rfl rfl (by (try simp only [List.map_toArray, List.map_cons, List.map_nil]); first | done | rfl | (simp only [List.length_drop, List.length_take]; rfl)) ?_
        with_reducible refine (spec_Text.calls k1 t103 t105 _ A7.out).mono ?_
        rintro e w35 ⟨rfl, hb⟩
        refine ⟨_, rfl, ?_⟩
        have n0_ := Aside0.mk (blk_below (g := gb102) (o := .cells #[.string ((rd_T48 l0 x11_1).f0), .slice A101_1 ((rd_T48 l0 x11_1).f1).length c101_1, .slice A101_2 ((rd_T48 l0 x11_1).f2).length c101_2] 48 (0, 0)) (by refine bY ?_; exact BK102.out) hb)
        have n1_ := Aside0.mk (below_step belS hb)
        clear BK102
        clear HB
        have BK102 := n0_
        have HB := n1_
        clear n0_ n1_
        (try clear hb)
        (try clear hb2)
        (try clear hk)
        (try clear hi)
        refine hK.out _ _ ⟨(blk_cell BK102.out 0).trans rfl, (blk_cell BK102.out 1).trans rfl, (blk_cell BK102.out 2).trans rfl⟩ (fun hHeld => ?_)
        clear hK K
        refine norm_ (a' := ?_) ?_ ?_
        rotate_left
        ·show Act.put _ (some 25) _ = _
         simp only [Act.put, sA, s0, s1, i64_w, i32_w]
         rfl
        refine pure_ (i := 7) (N := some 28) (v := ?_) (a' := ?_) (tfA 8 6) rfl rfl (any_of HT_.out (by kernel_rfl)) (fun _ _ _ h => h) (Or.inl ⟨by rfl, ?_⟩) ?_ ?_
        rotate_left
        ·intro w'
         go_simp
         first | with_reducible rfl | (rw [if_neg (by omega)])
        rotate_left
        ·simp only [Act.put, sA, s0, s1, i64_w, i32_w]
         rfl
        refine pure_ (i := 8) (N := some 29) (v := ?_) (a' := ?_) (tfA 9 5) rfl rfl (any_of HT_.out (by kernel_rfl)) (fun _ _ _ h => h) (Or.inl ⟨by rfl, ?_⟩) ?_ ?_
        rotate_left
        ·intro w'
         go_simp
         first | with_reducible rfl | (rw [if_neg (by omega)])
        rotate_left
        ·simp only [Act.put, sA, s0, s1, i64_w, i32_w]
         rfl
        refine pure_ (i := 9) (N := some 30) (v := ?_) (a' := ?_) (tfA 10 4) rfl rfl (any_of HT_.out (by kernel_rfl)) (fun _ _ _ h => h) (Or.inl ⟨by rfl, ?_⟩) ?_ ?_
        rotate_left
        ·intro w'
         go_simp
         first | with_reducible rfl | (rw [if_neg (by omega)])
        rotate_left
        ·simp only [Act.put, sA, s0, s1, i64_w, i32_w]
         rfl
        refine pure_ (i := 10) (N := some 31) (v := undef) (a' := ?_) (tfA 11 3) rfl rfl (any_of HT_.out (by kernel_rfl)) (fun _ _ _ h => h) (Or.inr ⟨by rfl, rfl⟩) ?_ ?_
        rotate_left
        ·simp only [Act.put, sA, s0, s1, i64_w, i32_w]
         rfl
        refine pure_ (i := 11) (N := some 32) (v := undef) (a' := ?_) (tfA 12 2) rfl rfl (any_of HT_.out (by kernel_rfl)) (fun _ _ _ h => h) (Or.inr ⟨by rfl, rfl⟩) ?_ ?_
        rotate_left
        ·simp only [Act.put, sA, s0, s1, i64_w, i32_w]
         rfl
        refine pure_ (i := 12) (N := some 33) (v := undef) (a' := ?_) (tfA 13 1) rfl rfl (any_of HT_.out (by kernel_rfl)) (fun _ _ _ h => h) (Or.inr ⟨by rfl, rfl⟩) ?_ ?_
        rotate_left
        ·simp only [Act.put, sA, s0, s1, i64_w, i32_w]
         rfl
        refine pure_ (i := 13) (N := some 34) (v := ?_) (a' := ?_) (tfA 14 0) rfl rfl (any_of HT_.out (by kernel_rfl)) (fun _ _ _ h => h) (Or.inl ⟨by rfl, ?_⟩) ?_ ?_
        rotate_left
        ·intro w'
         go_simp
         first | with_reducible rfl | (rw [if_neg (by omega)])
        rotate_left
        ·simp only [Act.put, sA, s0, s1, i64_w, i32_w]
         rfl
        refine done_ (done_of HT_.out (by kernel_rfl)) ?_
        try go_wp2
        go_ret2
        exact ⟨by first | rfl | (simp [errW_none, errW_some] <;> rfl) | (simp [*, errW_none, errW_some] <;> rfl), by repeat (first | (with_reducible first | exact HB.out | apply below_alloc | apply pw_below_drewN | apply below_drew1 | refine below_set ?_ GE102.out) | exact HB.out)⟩
      ·replace c6 := Bool.eq_false_iff.mpr c6
       subst c6
       have H1 : (some ((⟨#[]⟩ : ByteArray), 2)) = some (r1, r2) := by rw [if_neg (show ¬ (false = true) by decide)] at H; exact H
       clear H
       have H := H1
       clear H1
       simp only [Option.some.injEq, Prod.mk.injEq] at H
       obtain ⟨rfl, rfl⟩ := H
       have p101 : 0 ≤ (x11_1 : Int) := of_decide_eq_true (by first | (with_reducible assumption) | assumption)
       have q101 : x11_1 < (l0.length : Int) := of_decide_eq_true (by first | (with_reducible assumption) | assumption)
       obtain ⟨ad101, A101_1, c101_1, A101_2, c101_2, e101, hx101_0, hx101_1, hx101_2, hl101_1, hi101_1, hl101_2, hi101_2⟩ := at_T48 HR0.out x11_1 p101 q101
       cases e101
       replace hx101_0 := (HB.out.cell (World.block_lt_of_cell? w _ hx101_0)).trans hx101_0
       replace hx101_1 := (HB.out.cell (World.block_lt_of_cell? w _ hx101_1)).trans hx101_1
       replace hx101_2 := (HB.out.cell (World.block_lt_of_cell? w _ hx101_2)).trans hx101_2
       have HR101_1 := Aside0.mk hi101_1
       have HC101_1 := Aside0.mk hl101_1
       clear hi101_1 hl101_1
       have HR101_2 := Aside0.mk hi101_2
       have HC101_2 := Aside0.mk hl101_2
       clear hi101_2 hl101_2
       replace p101 := eq_true p101
       replace q101 := eq_true q101
       try go_wp2_with (first | ((with_reducible refine gate_dst (N := 6) rfl ?_); refine box_event ?hg (N := 6) ?hd (cs := #[.string (⟨#[]⟩ : ByteArray), .slice none 0 0, .slice none 0 0]) (t := 48) ?hr ?_; (case hd => rfl); (case hg => rfl); (case hr => first | (go_simp; done) | (go_simp; rfl)); intro gb102 hg w36 hbox hb; have n0_ := Aside0.mk (below_step belH hb); have n1_ := Aside0.mk (hbox); have n2_ := Aside0.mk ((by rw [hg]; exact (below_size belH) : w.heap.size ≤ gb102)); have n3_ := Aside0.mk ((by rw [hg]; exact (below_size belH) : w.heap.size ≤ gb102)); clear HB; have HB := n0_; have BK102 := n1_; have GW102 := n2_; have GE102 := n3_; clear n0_ n1_ n2_ n3_; clear hb hbox hg; obtain ⟨hcz37_0, hcz37_1, hcz37_2, hfz37_0, hfz37_1, hfz37_2⟩ := rows3 (w := w36) BK102) | ((with_reducible refine gate_callee (f := 74) rfl ?_); refine goesL_ (some 18) rfl rfl Tryz.func74 (by kernel_rfl) rfl #[.string ((rd_T48 l0 x11_1).f0)] rfl (by (try simp only [List.map_toArray, List.map_cons, List.map_nil]); first | done | rfl | (simp only [List.length_drop, List.length_take]; rfl)) ?_; (with_reducible refine (spec_Dec.calls k1 ((rd_T48 l0 x11_1).f0) t103 false _ A5.out).mono ?_); rintro e w' ⟨rfl, ⟨nd, rfl⟩⟩; refine ⟨_, rfl, ?_⟩))
       have n0_ : Aside0 ((((w36.setCell ⟨gb102, 0, none⟩ (.string ((rd_T48 l0 x11_1).f0))).setCell ⟨gb102, 1, none⟩ (.slice A101_1 ((rd_T48 l0 x11_1).f1).length c101_1)).setCell ⟨gb102, 2, none⟩ (.slice A101_2 ((rd_T48 l0 x11_1).f2).length c101_2)).heap[gb102]? = some (.cells #[.string ((rd_T48 l0 x11_1).f0), .slice A101_1 ((rd_T48 l0 x11_1).f1).length c101_1, .slice A101_2 ((rd_T48 l0 x11_1).f2).length c101_2] 48 (0, 0))) := ⟨by refine bY ?_; refine blk_put (cs := #[.string ((rd_T48 l0 x11_1).f0), .slice A101_1 ((rd_T48 l0 x11_1).f1).length c101_1, .slice none 0 0]) ?_ 2 _ rfl; refine bY ?_; refine blk_put (cs := #[.string ((rd_T48 l0 x11_1).f0), .slice none 0 0, .slice none 0 0]) ?_ 1 _ rfl; refine bY ?_; refine blk_put (cs := #[.string (⟨#[]⟩ : ByteArray), .slice none 0 0, .slice none 0 0]) ?_ 0 _ rfl; refine bY ?_; exact BK102.out⟩
       have n1_ : Aside0 (Below w.heap.size w (((w36.setCell ⟨gb102, 0, none⟩ (.string ((rd_T48 l0 x11_1).f0))).setCell ⟨gb102, 1, none⟩ (.slice A101_1 ((rd_T48 l0 x11_1).f1).length c101_1)).setCell ⟨gb102, 2, none⟩ (.slice A101_2 ((rd_T48 l0 x11_1).f2).length c101_2))) := ⟨by repeat (first | (with_reducible first | exact HB.out | apply below_alloc | apply pw_below_drewN | apply below_drew1 | refine below_set ?_ GE102.out) | exact HB.out)⟩
       (try clear BK102)
       (try clear HB)
       generalize (((w36.setCell ⟨gb102, 0, none⟩ (.string ((rd_T48 l0 x11_1).f0))).setCell ⟨gb102, 1, none⟩ (.slice A101_1 ((rd_T48 l0 x11_1).f1).length c101_1)).setCell ⟨gb102, 2, none⟩ (.slice A101_2 ((rd_T48 l0 x11_1).f2).length c101_2)) = w38 at n0_ n1_ ⊢
       have BK102 := n0_
       have HB := n1_
       clear n0_ n1_
       (try (rw [drewN_self w38]; generalize hq_ : World.drewN w38 _ = w38; have n0_ : Aside0 (w38.heap[gb102]? = some (.cells #[.string ((rd_T48 l0 x11_1).f0), .slice A101_1 ((rd_T48 l0 x11_1).f1).length c101_1, .slice A101_2 ((rd_T48 l0 x11_1).f2).length c101_2] 48 (0, 0))) := ⟨by rw [← hq_]; exact (by refine bY ?_; exact BK102.out)⟩; have n1_ : Aside0 (Below w.heap.size w w38) := ⟨by rw [← hq_]; exact belS⟩; clear BK102 HB hq_; have BK102 := n0_; have HB := n1_; clear n0_ n1_))
       have n0_ := Aside0.mk (blk_drew BK102.out)
       have n1_ := Aside0.mk (below_drew1 HB.out)
       clear BK102
       clear HB
       have BK102 := n0_
       have HB := n1_
       clear n0_ n1_
       refine start_ (n := 14) (S := fun w' => True) (ds := []) (tfA 0 14) (by kernel_rfl) rfl rfl trivial (fun hHeld => ?_); refine with_tabW spec_SchedstatPrint.tab6 spec_SchedstatPrint.bits6 (fun HT_ HW_ => ?_)
       generalize w38.drew = w39 at BK102 HB hHeld ⊢
       refine pure_ (i := 0) (N := some 21) (v := ?_) (a' := ?_) (tfA 1 13) rfl rfl (any_of HT_.out (by kernel_rfl)) (fun _ _ _ h => h) (Or.inl ⟨by rfl, ?_⟩) ?_ ?_
       rotate_left
       ·intro w'
        go_simp
        first | with_reducible rfl | (rw [if_neg (by omega)])
       rotate_left
       ·simp only [Act.put, sA, s0, s1, i64_w, i32_w]
        rfl
       refine pure_ (i := 1) (N := some 22) (v := ?_) (a' := ?_) (tfA 2 12) rfl rfl (any_of HT_.out (by kernel_rfl)) (fun _ _ _ h => h) (Or.inl ⟨by rfl, ?_⟩) ?_ ?_
       rotate_left
       ·intro w'
        go_simp
        first | with_reducible rfl | (rw [if_neg (by omega)])
       rotate_left
       ·simp only [Act.put, sA, s0, s1, i64_w, i32_w]
        rfl
       refine pure_ (i := 2) (N := some 23) (v := ?_) (a' := ?_) (tfA 3 11) rfl rfl (any_of HT_.out (by kernel_rfl)) (fun _ _ _ h => h) (Or.inl ⟨by rfl, ?_⟩) ?_ ?_
       rotate_left
       ·intro w'
        go_simp
        first | with_reducible rfl | (rw [if_neg (by omega)])
       rotate_left
       ·simp only [Act.put, sA, s0, s1, i64_w, i32_w]
        rfl
       refine pure_ (i := 3) (N := some 24) (v := undef) (a' := ?_) (tfA 4 10) rfl rfl (any_of HT_.out (by kernel_rfl)) (fun _ _ _ h => h) (Or.inr ⟨by rfl, rfl⟩) ?_ ?_
       rotate_left
       ·simp only [Act.put, sA, s0, s1, i64_w, i32_w]
        rfl
       refine pure_ (i := 4) (N := some 25) (v := undef) (a' := ?_) (tfA 5 9) rfl rfl (any_of HT_.out (by kernel_rfl)) (fun _ _ _ h => h) (Or.inr ⟨by rfl, rfl⟩) ?_ ?_
       rotate_left
       ·simp only [Act.put, sA, s0, s1, i64_w, i32_w]
        rfl
       refine pure_ (i := 5) (N := some 26) (v := undef) (a' := ?_) (tfA 6 8) rfl rfl (any_of HT_.out (by kernel_rfl)) (fun _ _ _ h => h) (Or.inr ⟨by rfl, rfl⟩) ?_ ?_
       rotate_left
       ·simp only [Act.put, sA, s0, s1, i64_w, i32_w]
        rfl
       refine pure_ (i := 6) (N := some 27) (v := undef) (a' := ?_) (tfA 7 7) rfl rfl (any_of HT_.out (by kernel_rfl)) (fun _ _ _ h => h) (Or.inr ⟨by rfl, rfl⟩) ?_ ?_
       rotate_left
       ·simp only [Act.put, sA, s0, s1, i64_w, i32_w]
        rfl
       refine pure_ (i := 7) (N := some 28) (v := undef) (a' := ?_) (tfA 8 6) rfl rfl (any_of HT_.out (by kernel_rfl)) (fun _ _ _ h => h) (Or.inr ⟨by rfl, rfl⟩) ?_ ?_
       rotate_left
       ·simp only [Act.put, sA, s0, s1, i64_w, i32_w]
        rfl
       refine pure_ (i := 8) (N := some 29) (v := ?_) (a' := ?_) (tfA 9 5) rfl rfl (any_of HT_.out (by kernel_rfl)) (fun _ _ _ h => h) (Or.inl ⟨by rfl, ?_⟩) ?_ ?_
       rotate_left
       ·intro w'
        go_simp
        first | with_reducible rfl | (rw [if_neg (by omega)])
       rotate_left
       ·simp only [Act.put, sA, s0, s1, i64_w, i32_w]
        rfl
       refine pure_ (i := 9) (N := some 30) (v := ?_) (a' := ?_) (tfA 10 4) rfl rfl (any_of HT_.out (by kernel_rfl)) (fun _ _ _ h => h) (Or.inl ⟨by rfl, ?_⟩) ?_ ?_
       rotate_left
       ·intro w'
        go_simp
        first | with_reducible rfl | (rw [if_neg (by omega)])
       rotate_left
       ·simp only [Act.put, sA, s0, s1, i64_w, i32_w]
        rfl
       refine pure_ (i := 10) (N := some 31) (v := undef) (a' := ?_) (tfA 11 3) rfl rfl (any_of HT_.out (by kernel_rfl)) (fun _ _ _ h => h) (Or.inr ⟨by rfl, rfl⟩) ?_ ?_
       rotate_left
       ·simp only [Act.put, sA, s0, s1, i64_w, i32_w]
        rfl
       refine pure_ (i := 11) (N := some 32) (v := undef) (a' := ?_) (tfA 12 2) rfl rfl (any_of HT_.out (by kernel_rfl)) (fun _ _ _ h => h) (Or.inr ⟨by rfl, rfl⟩) ?_ ?_
       rotate_left
       ·simp only [Act.put, sA, s0, s1, i64_w, i32_w]
        rfl
       refine pure_ (i := 12) (N := some 33) (v := undef) (a' := ?_) (tfA 13 1) rfl rfl (any_of HT_.out (by kernel_rfl)) (fun _ _ _ h => h) (Or.inr ⟨by rfl, rfl⟩) ?_ ?_
       rotate_left
       ·simp only [Act.put, sA, s0, s1, i64_w, i32_w]
        rfl
       refine pure_ (i := 13) (N := some 34) (v := ?_) (a' := ?_) (tfA 14 0) rfl rfl (any_of HT_.out (by kernel_rfl)) (fun _ _ _ h => h) (Or.inl ⟨by rfl, ?_⟩) ?_ ?_
       rotate_left
       ·intro w'
        go_simp
        first | with_reducible rfl | (rw [if_neg (by omega)])
       rotate_left
       ·simp only [Act.put, sA, s0, s1, i64_w, i32_w]
        rfl
       refine done_ (done_of HT_.out (by kernel_rfl)) ?_
       try go_wp2
       go_ret2
       exact ⟨by first | rfl | (simp [errW_none, errW_some] <;> rfl) | (simp [*, errW_none, errW_some] <;> rfl), by repeat (first | (with_reducible first | exact HB.out | apply below_alloc | apply pw_below_drewN | apply below_drew1 | refine below_set ?_ GE102.out) | exact HB.out)⟩
     ·rw [if_neg c4] at H
      exact absurd H (by simp)
    ·rw [if_neg c3] at H
     exact absurd H (by simp)
   ·rw [if_neg c2] at H
    have c2b0 : decide (x11_1 < (l0.length : Int)) = false := decide_eq_false c2
    clear c2
    simp only [Option.some.injEq, Prod.mk.injEq] at H
    obtain ⟨rfl, rfl⟩ := H
    go_wp2
    go_ret2
    exact ⟨by first | rfl | (simp [errW_none, errW_some] <;> rfl) | (simp [*, errW_none, errW_some] <;> rfl), by repeat (first | (with_reducible first | exact HB.out | apply below_alloc | apply pw_below_drewN | apply below_drew1) | exact HB.out)⟩

end Go.Proofs.YtdmpbaanonafbaaGreatDoor.D
