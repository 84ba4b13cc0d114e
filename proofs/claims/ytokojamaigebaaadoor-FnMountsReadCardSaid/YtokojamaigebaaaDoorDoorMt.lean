/- impl.Mounts by hand, in the print's form: the filters, the loop over the mounts that are read, the door's defer and recover. -/
import Derived.Test.YtokojamaigebaaaDoorMtFilt
import Derived.Deep.RegionHeld3
import Derived.Deep.DeepCutAuto
import Derived.Deep.CutBlock
import Derived.Deep.LoopGhost
import Derived.Defers
import Derived.Recover
import Derived.Tactics
import Derived.Tactics2
import Derived.Lib.Hide
namespace Go.Proofs.YtokojamaigebaaaDoor.DoorMt
open Go.RowKit Go.Proofs.YtokojamaigebaaaDoorW.PrintWords Go.Proofs.YtokojamaigebaaaDoorW.PrintLast Go.Proofs.YtokojamaigebaaaDoorW.PrintMore Go.Proofs.YtokojamaigebaaaDoor.Scan Go.Proofs.YtokojamaigebaaaDoor.ScanL Go.Proofs.YtokojamaigebaaaDoor.GivM Go.Proofs.YtokojamaigebaaaDoor.M Go.Proofs.YtokojamaigebaaaDoor.U Go.Proofs.YtokojamaigebaaaDoor.MtLoop Go.Proofs.YtokojamaigebaaaDoor.MtFilt
attribute [local go_sem] max2_int min2_int max_two min_two max_three min_three max_four min_four
set_option linter.unusedVariables false
set_option linter.unusedSimpArgs false
def mo_T20 : Bool × List (List Nat × List Nat) := (true, [([], []), ([], []), ([1], [1]), ([2], [2]), ([3], [3]), ([], []), ([5], [5]), ([6], [6]), ([7], [7]), ([], []), ([9], [9]), ([10], [10]), ([11], [11]), ([], []), ([13], [13]), ([14], [14]), ([15], [15]), ([], []), ([17], [17]), ([18], [18]), ([19], [19]), ([], []), ([21], [21]), ([22], [22]), ([23], [23]), ([], []), ([25], [25]), ([26], [26]), ([27], [27]), ([], []), ([29], [29]), ([30], [30]), ([31], [31]), ([], []), ([33], [33]), ([34], [34]), ([35], [35]), ([], []), ([37], [37]), ([38], [38]), ([39], [39]), ([], []), ([41], [41]), ([42], [42]), ([43], [43]), ([4, 8, 12, 16, 20, 24, 28, 32, 36, 40, 44], [4, 8, 12, 16, 20, 24, 28, 32, 36, 40, 44]), ([45], [45]), ([0, 46], [0, 46]), ([47, 47, 0, 1, 2, 3, 4, 5, 6, 7, 8, 9, 10, 11, 12, 13, 14, 15, 16, 17, 18, 19, 20, 21, 22, 23, 24, 25, 26, 27, 28, 29, 30, 31, 32, 33, 34, 35, 36, 37, 38, 39, 40, 41, 42, 43, 44, 45, 46, 47], [47])])
def mo_B20 : List Nat := [0, 0, 2, 6, 14, 0, 32, 96, 224, 0, 512, 1536, 3584, 0, 8192, 24576, 57344, 0, 131072, 393216, 917504, 0, 2097152, 6291456, 14680064, 0, 33554432, 100663296, 234881024, 0, 536870912, 1610612736, 3758096384, 0, 8589934592, 25769803776, 60129542144, 0, 137438953472, 412316860416, 962072674304, 0, 2199023255552, 6597069766656, 15393162788864, 35184372088830, 70368744177662, 140737488355327, 281474976710655]
theorem mo_tab20 : rtab .any (opsOf Tryd.f9 20) = mo_T20 := by kernel_rfl
theorem mo_bits20 : waitsOk mo_T20.2 mo_B20 = true := by kernel_rfl
set_option maxRecDepth 100000 in
theorem catch_idle (p q : Addr) (w : World) :
    CallsD Tryd.prog 20 #[.pointer (some p), .pointer (some q)] .returning w fun e u' w' => e = .returned (.tuple #[]) ∧ u' = .returning ∧ w' = w := by
  refine callsD_of_wpS Tryd.func20 rfl fun c₀ cs hu => ?_
  apply wpS_seq
  apply wpS_region
  simp [wpOpsS, go_sem, recoverD, hu, Tryd.ntmps20, Exit.thenS]
  refine wpS_cond (t := false) (by simp [Act.eval, Array.replicate]) ?_
  simp only [Bool.false_eq_true, if_false]
  refine wpS_of_wp (wp_skip ?_)
  cases c₀
  simp_all [bodyPostS, results, Tryd.results20]
theorem pmnt_at {w : World} {A : Option Addr} {n : Nat} {xs : List S23} (h : Kd.C pmnt w A n xs) (i : Int) (h0 : 0 ≤ i) (h1 : i < n) : ∃ ad gm, A = some ad ∧ w.cell? (ad.add i.toNat) = some (.pointer (some ⟨gm, 0, none⟩)) ∧ w.heap[gm]? = some (.cells (mtCells (rd_T23 xs i)) 59 (0, 0)) := by
  obtain ⟨ad, c, e, _, hK, hc0⟩ := Kd.C_get h z23 i h0 h1
  obtain ⟨gm, rfl, hg⟩ := hK
  refine ⟨ad, gm, e, ?_, hg⟩
  have := hc0 0 _ rfl
  simpa [pmnt] using this
end Go.Proofs.YtokojamaigebaaaDoor.DoorMt
