import Derived.Test.YtdmpbaanonafbaaGreatDoorProg
import Derived.Below
import Derived.Deep.Draws
import Derived.Deep.AppendLies
import Derived.Maps.AppendAt
import Derived.OwnWalk
import Derived.Laws.BytesArg
import Derived.Laws.MakeOwn
import Derived.Laws.OwnMore
import Derived.Deep.OwnRows
import Derived.Tactics
import Derived.Lib.ConvBytes
import Derived.Laws.Slices
import Derived.WalkKit
import Derived.KernelRfl
import Derived.RowKit3
import Derived.Deep.LoopGhost
import Derived.Deep.QuietTactic
import Derived.BigQuiet
import Derived.WideLaws
import Derived.Deep.DeepCutAuto
import Derived.Deep.CutBlock
import Derived.Deep.RegionHeld3
import Derived.Laws.Rows
import Derived.Lib.AppendStr
import Derived.ArgAppend
import Derived.Laws.IdiomCopy
import Derived.OrdersHeld
import Derived.Laws.BitsLemmas
import Derived.RowKit
import Derived.Test.YtdmpbaanonafbaaGreatDoorSq
import Derived.Test.YtdmpbaanonafbaaGreatDoorFlt
import Derived.Test.YtdmpbaanonafbaaGreatDoorGivZ
import Derived.Test.YtdmpbaanonafbaaGreatDoorE0
import Derived.Test.YtdmpbaanonafbaaGreatDoorGoesV
import Derived.Test.YtdmpbaanonafbaaGreatDoorGivPW
import Derived.Test.YtdmpbaanonafbaaGreatDoorSsCpu
import Derived.Test.YtdmpbaanonafbaaGreatDoorWWords
import Derived.Test.YtdmpbaanonafbaaGreatDoorWLast
import Derived.Test.YtdmpbaanonafbaaGreatDoorWTab
import Derived.Test.YtdmpbaanonafbaaGreatDoorWApart
import Derived.Test.YtdmpbaanonafbaaGreatDoorWArr
import Derived.Test.YtdmpbaanonafbaaGreatDoorWZeros
import Derived.Test.YtdmpbaanonafbaaGreatDoorWFoot
import Derived.Test.YtdmpbaanonafbaaGreatDoorWKept
import Derived.Test.YtdmpbaanonafbaaGreatDoorWShare
import Derived.Test.YtdmpbaanonafbaaGreatDoorWN
import Derived.Test.YtdmpbaanonafbaaGreatDoorWRepsOne
import Derived.Test.YtdmpbaanonafbaaGreatDoorWGuard
import Derived.Test.YtdmpbaanonafbaaGreatDoorWNEv
import Derived.Test.YtdmpbaanonafbaaGreatDoorWMore
-- written by a program of this session (wip/tools/pp.py)
namespace Go.Proofs.YtdmpbaanonafbaaGreatDoor.X
open Go.RowKit Go.Proofs.YtdmpbaanonafbaaGreatDoorW.PrintWords Go.Proofs.YtdmpbaanonafbaaGreatDoorW.PrintLast Go.Proofs.YtdmpbaanonafbaaGreatDoor.Flt Go.Proofs.YtdmpbaanonafbaaGreatDoor.GivZ Go.Proofs.YtdmpbaanonafbaaGreatDoor.E Go.Proofs.YtdmpbaanonafbaaGreatDoor.GivPW Go.Proofs.YtdmpbaanonafbaaGreatDoor.SsCpu Go.Proofs.YtdmpbaanonafbaaGreatDoorW.PrintMore
attribute [local go_sem] max2_int min2_int max_two min_two max_three min_three max_four min_four   -- for this text's walks alone
set_option linter.unusedVariables false
set_option linter.unusedSimpArgs false




theorem info35 : (Tryz.prog.info? 35).map (fun i => (i.zero, i.size, i.bytes)) = some (some (.agg #[(.string ⟨#[]⟩), (.int .i64 0), (.bool false), (.int .i64 0), (.int .u64 0), (.float .f64 0), (.string ⟨#[]⟩), (.slice none 0 0)]), 8, 96) := by kernel_rfl
-- the values' own types
/-! #### struct type 35, nested in itself -/
end Go.Proofs.YtdmpbaanonafbaaGreatDoor.X

-- written by a program of this session (wip/tools/pp.py)
namespace Go.Proofs.YtdmpbaanonafbaaGreatDoor.X
open Go.RowKit Go.Proofs.YtdmpbaanonafbaaGreatDoorW.PrintWords Go.Proofs.YtdmpbaanonafbaaGreatDoorW.PrintLast Go.Proofs.YtdmpbaanonafbaaGreatDoor.Flt Go.Proofs.YtdmpbaanonafbaaGreatDoor.GivZ Go.Proofs.YtdmpbaanonafbaaGreatDoor.E Go.Proofs.YtdmpbaanonafbaaGreatDoor.GivPW Go.Proofs.YtdmpbaanonafbaaGreatDoor.SsCpu Go.Proofs.YtdmpbaanonafbaaGreatDoorW.PrintMore Go.Proofs.YtdmpbaanonafbaaGreatDoor.Z
attribute [local go_sem] max2_int min2_int max_two min_two max_three min_three max_four min_four   -- for this text's walks alone
set_option linter.unusedVariables false
set_option linter.unusedSimpArgs false
def zC : Cpu := ⟨ByteArray.empty, 0, 0, 0⟩
def impl_procfsSchedstat_1.f (x : Cpu) : Option (ByteArray × Int × Bool × Int × Int × Nat × ByteArray × List S35) := impl_procfsSchedstat_1_1.f ByteArray.empty x.f0 x.f1 x.f2 x.f3

/-! ### procfs_SchedstatCPU___SchedstatCPU: function 138 -/
def procfs_SchedstatCPU___SchedstatCPU.l0 : Nat → List Cpu → Int → Int → ByteArray → Int → Bool → Int → Int → Nat → ByteArray → List (S35) → Option (ByteArray × Int × Bool × Int × Int × Nat × ByteArray × (List (S35)))
 | 0, _, _, _, _, _, _, _, _, _, _, _ => none
 | k + 1, x12, x13, x14, x103000, x103001, x103002, x103003, x103004, x103005, x103006, x103007 => if x14 < x13 then (if 0 ≤ x14 then (if x14 < (x12.length : Int) then ((impl_procfsSchedstat_1.f (rdOf zC x12 x14)).bind fun bt104 => (if x103007.length < 1466015503701 then (procfs_SchedstatCPU___SchedstatCPU.l0 k x12 x13 (wrap64 (x14 + 1)) x103000 x103001 x103002 x103003 x103004 x103005 x103006 (x103007 ++ [(⟨bt104.1, bt104.2.1, bt104.2.2.1, bt104.2.2.2.1, bt104.2.2.2.2.1, bt104.2.2.2.2.2.1, bt104.2.2.2.2.2.2.1, bt104.2.2.2.2.2.2.2⟩ : S35)])) else (none))) else (none)) else (none)) else (some (x103000, x103001, x103002, x103003, x103004, x103005, x103006, x103007))
def procfs_SchedstatCPU___SchedstatCPU.f (k : Nat) (a0 : ByteArray) (l1 : List Cpu)  : Option (ByteArray × Int × Bool × Int × Int × Nat × ByteArray × (List (S35))) := procfs_SchedstatCPU___SchedstatCPU.l0 k l1 (l1.length : Int) 0 a0 6 false 0 0 0 (⟨#[]⟩ : ByteArray) ([] : List (S35))
theorem procfs_SchedstatCPU___SchedstatCPU.mono_l : ∀ k, (∀ y0 y1 y2 y3 y4 y5 y6 y7 y8 y9 y10, LeO (procfs_SchedstatCPU___SchedstatCPU.l0 k y0 y1 y2 y3 y4 y5 y6 y7 y8 y9 y10) (procfs_SchedstatCPU___SchedstatCPU.l0 (k + 1) y0 y1 y2 y3 y4 y5 y6 y7 y8 y9 y10))
 | 0 => fun _ _ _ _ _ _ _ _ _ _ _ r h => by simp [procfs_SchedstatCPU___SchedstatCPU.l0] at h
 | k + 1 => by
  have ih0 := procfs_SchedstatCPU___SchedstatCPU.mono_l k
  ·intro y0 y1 y2 y3 y4 y5 y6 y7 y8 y9 y10
   unfold procfs_SchedstatCPU___SchedstatCPU.l0
   repeat' first
   | (with_reducible exact ih0 _ _ _ _ _ _ _ _ _ _ _)
   | (with_reducible exact LeO.refl _)
   | (with_reducible exact LeO.none _)
   | (with_reducible refine LeO.ite ?_ ?_)
   | (with_reducible refine LeO.bind ?_ (fun _ => ?_))
   | exact ih0 _ _ _ _ _ _ _ _ _ _ _
   | exact LeO.none _
   | refine LeO.ite ?_ ?_
   | refine LeO.bind ?_ (fun _ => ?_)
theorem procfs_SchedstatCPU___SchedstatCPU.mono : ∀ a0 a1 k, LeO (procfs_SchedstatCPU___SchedstatCPU.f k a0 a1) (procfs_SchedstatCPU___SchedstatCPU.f (k + 1) a0 a1) := by
 intro a0 a1 k
 have ih0 := procfs_SchedstatCPU___SchedstatCPU.mono_l k
 unfold procfs_SchedstatCPU___SchedstatCPU.f
 repeat' first
   | (with_reducible exact ih0 _ _ _ _ _ _ _ _ _ _ _)
   | (with_reducible exact LeO.refl _)
   | (with_reducible exact LeO.none _)
   | (with_reducible refine LeO.ite ?_ ?_)
   | (with_reducible refine LeO.bind ?_ (fun _ => ?_))
   | exact ih0 _ _ _ _ _ _ _ _ _ _ _
   | exact LeO.none _
   | refine LeO.ite ?_ ?_
   | refine LeO.bind ?_ (fun _ => ?_)
def procfs_SchedstatCPU___SchedstatCPU.T5 : Bool × List (List Nat × List Nat) := (true, [([], []), ([0], [0]), ([], []), ([], []), ([2, 3], [2, 3]), ([4], [4]), ([1, 5, 4], [1, 5]), ([0, 1, 2, 3, 4, 5, 6], []), ([7, 6, 6, 0, 1, 2, 3, 4, 5, 6], [6, 7])])
def procfs_SchedstatCPU___SchedstatCPU.B5 : List Nat := [0, 1, 0, 0, 12, 28, 63, 127, 255]
theorem procfs_SchedstatCPU___SchedstatCPU.tab5 : rtab .any (opsOf Tryz.f138 5) = procfs_SchedstatCPU___SchedstatCPU.T5 := by kernel_rfl
theorem procfs_SchedstatCPU___SchedstatCPU.bits5 : waitsOk procfs_SchedstatCPU___SchedstatCPU.T5.2 procfs_SchedstatCPU___SchedstatCPU.B5 = true := by kernel_rfl
set_option maxHeartbeats 8000000 in
set_option maxRecDepth 100000 in
theorem procfs_SchedstatCPU___SchedstatCPU.calls (k : Nat) (a0 : ByteArray) (A1 : Option Addr) (c1 : Nat) (l1 : List Cpu)  (r1 : ByteArray) (r2 : Int) (r3 : Bool) (r4 : Int) (r5 : Int) (r6 : Nat) (r7 : ByteArray) (r8 : List (S35)) (w : World) (hr1 : Kd.C pcpu w A1 l1.length l1) (hc1 : l1.length ≤ c1) (h : procfs_SchedstatCPU___SchedstatCPU.f k a0 l1 = some (r1, r2, r3, r4, r5, r6, r7, r8)) :
  Calls Tryz.prog 138 #[.string a0, .slice A1 l1.length c1, .func (.func 139) #[] #[]] w fun e w' => ∃ v7_ : Value, e = .returned (.agg #[.string r1, .int .i64 r2, .bool r3, .int .i64 r4, .int .u64 r5, .float .f64 r6, .string r7, v7_]) ∧ Kd.R k35 35 w' w.heap.size (fun _ => True) v7_ r8 ∧ Below w.heap.size w w' := by
 have hu35 := Tryz.underlying35
 have HR1 := Aside0.mk hr1
 have HC1 := Aside0.mk hc1
 clear hr1 hc1
 have HB := Aside0.mk (Below.refl w.heap.size w)
 have H : (procfs_SchedstatCPU___SchedstatCPU.l0 k l1 (l1.length : Int) 0 a0 6 false 0 0 0 (⟨#[]⟩ : ByteArray) ([] : List (S35))) = some (r1, r2, r3, r4, r5, r6, r7, r8) := h
 clear h
 have H' := Aside0.mk H
 clear H
 go_enter Tryz.func138, Tryz.ntmps138
 go_wp2_with (first | ((with_reducible refine gate_dst (N := 6) rfl ?_); refine box_event ?hg (N := 6) ?hd (cs := #[.string (⟨#[]⟩ : ByteArray), .int .i64 0, .bool false, .int .i64 0, .int .u64 0, .float .f64 0, .string (⟨#[]⟩ : ByteArray), .slice none 0 0]) (t := 35) ?hr ?_; (case hd => rfl); (case hg => rfl); (case hr => first | (go_simp; done) | (go_simp; rfl)); intro gb101 hg w4 hbox hb; have n0_ := Aside0.mk (below_step belH hb); have n1_ := Aside0.mk (hbox); have n2_ := Aside0.mk ((by rw [hg]; exact (below_size belH) : w.heap.size ≤ gb101)); have n3_ := Aside0.mk ((by rw [hg]; exact (below_size belH) : w.heap.size ≤ gb101)); clear HB; have HB := n0_; have BK101 := n1_; have GW101 := n2_; have GE101 := n3_; clear n0_ n1_ n2_ n3_; clear hb hbox hg) | ((with_reducible refine gate_dst (N := 7) rfl ?_); refine box_event ?hg (N := 7) ?hd (cs := #[.string (⟨#[]⟩ : ByteArray), .int .i64 0, .bool false, .int .i64 0, .int .u64 0, .float .f64 0, .string (⟨#[]⟩ : ByteArray), .slice none 0 0]) (t := 35) ?hr ?_; (case hd => rfl); (case hg => rfl); (case hr => first | (go_simp; done) | (go_simp; rfl)); intro gb102 hg w5 hbox hb; have n0_ := Aside0.mk (blk_below (g := gb101) (o := .cells #[.string (⟨#[]⟩ : ByteArray), .int .i64 0, .bool false, .int .i64 0, .int .u64 0, .float .f64 0, .string (⟨#[]⟩ : ByteArray), .slice none 0 0] 35 (0, 0)) (by refine bY ?_; exact BK101.out) hb); have n1_ := Aside0.mk (below_step belS hb); have n2_ := Aside0.mk (hbox); have n3_ := Aside0.mk ((by rw [hg]; exact (below_size belS) : w.heap.size ≤ gb102)); have n4_ := Aside0.mk ((by rw [hg]; exact (below_size belS) : w.heap.size ≤ gb102)); have n5_ := Aside0.mk ((by rw [hg]; exact Nat.ne_of_lt (blk_lt (g := gb101) (o := .cells #[.string (⟨#[]⟩ : ByteArray), .int .i64 0, .bool false, .int .i64 0, .int .u64 0, .float .f64 0, .string (⟨#[]⟩ : ByteArray), .slice none 0 0] 35 (0, 0)) (by refine bY ?_; exact BK101.out)) : gb101 ≠ gb102)); have n6_ := Aside0.mk ((by rw [hg]; exact Nat.ne_of_gt (blk_lt (g := gb101) (o := .cells #[.string (⟨#[]⟩ : ByteArray), .int .i64 0, .bool false, .int .i64 0, .int .u64 0, .float .f64 0, .string (⟨#[]⟩ : ByteArray), .slice none 0 0] 35 (0, 0)) (by refine bY ?_; exact BK101.out)) : gb102 ≠ gb101)); clear BK101; clear HB; have BK101 := n0_; have HB := n1_; have BK102 := n2_; have GW102 := n3_; have GE102 := n4_; have NB101_102 := n5_; have NB102_101 := n6_; clear n0_ n1_ n2_ n3_ n4_ n5_ n6_; clear hb hbox hg; have hnb6 := NB102_101.out; have hnc6 := NB101_102.out; obtain ⟨hcz7_0, hcz7_1, hcz7_2, hcz7_3, hcz7_4, hcz7_5, hcz7_6, hcz7_7, hfz7_0, hfz7_1, hfz7_2, hfz7_3, hfz7_4, hfz7_5, hfz7_6, hfz7_7⟩ := rows8 (w := w5) BK102))
 go_loopg [14] k (fun kq v14 w' => ∃ (x14_1 : Int) (x103007_1 : List (S35)) (u103007 : Value), v14 = .int .i64 x14_1 ∧ Aside0 (procfs_SchedstatCPU___SchedstatCPU.l0 kq l1 (l1.length : Int) x14_1 a0 6 false 0 0 0 (⟨#[]⟩ : ByteArray) x103007_1 = some (r1, r2, r3, r4, r5, r6, r7, r8)) ∧ Aside0 (kq ≤ k) ∧ Aside0 (Kd.R k35 35 w' w.heap.size (fun k_ => k_ ≠ gb101 ∧ k_ ≠ gb102) u103007 x103007_1) ∧ Aside0 (w'.heap[gb101]? = some (.cells #[.string (⟨#[]⟩ : ByteArray), .int .i64 0, .bool false, .int .i64 0, .int .u64 0, .float .f64 0, .string (⟨#[]⟩ : ByteArray), (.slice none 0 0)] 35 (0, 0))) ∧ Aside0 (w'.heap[gb102]? = some (.cells #[.string a0, .int .i64 6, .bool false, .int .i64 0, .int .u64 0, .float .f64 0, .string (⟨#[]⟩ : ByteArray), u103007] 35 (0, 0))) ∧ Aside0 (Below w.heap.size w w'))
 case atStart => exact ⟨(0), (([] : List (S35))), (.slice none 0 0), (by first | rfl | (simp; done) | (simp [*]; done) | (simp [bne_nil]; done) | (simp [bne_nil, *]; done)), H', ⟨Nat.le_refl _⟩, ⟨by first | exact Kd.R_nil _ _ _ _ _ | exact Kd.N_nil _ _ _ _ _ | exact Kd.V_nil _ _ _ _ _ | exact Kd.Q_nil _ _ _ _ _ | exact Kd.S_nil _ _ _ _ _⟩, ⟨by refine bY ?_; refine blk_far ?_ NB101_102.out _; refine bY ?_; refine blk_far ?_ NB101_102.out _; refine bY ?_; refine blk_far ?_ NB101_102.out _; refine bY ?_; refine blk_far ?_ NB101_102.out _; refine bY ?_; refine blk_far ?_ NB101_102.out _; refine bY ?_; refine blk_far ?_ NB101_102.out _; refine bY ?_; refine blk_far ?_ NB101_102.out _; refine bY ?_; refine blk_far ?_ NB101_102.out _; refine bY ?_; exact BK101.out⟩, ⟨by refine bY ?_; exact blk_put8 BK102.out⟩, ⟨by repeat (first | (with_reducible first | exact HB.out | apply below_alloc | apply pw_below_drewN | apply below_drew1 | refine below_set ?_ GE101.out | refine below_set ?_ GE102.out) | exact HB.out)⟩⟩
 case round =>
  clear H'
  try clear c1
  try clear p2
  try clear c6
  try clear hcz7_0
  try clear hcz7_1
  try clear hcz7_2
  try clear hcz7_3
  try clear hcz7_4
  try clear hcz7_5
  try clear hcz7_6
  try clear hcz7_7
  try clear hfz7_0
  try clear hfz7_1
  try clear hfz7_2
  try clear hfz7_3
  try clear hfz7_4
  try clear hfz7_5
  try clear hfz7_6
  try clear hfz7_7
  obtain ⟨x14_1, x103007_1, u103007, rfl, HA, HK1, HO_103007, BK101, BK102, HB⟩ := hrel
  cases gk with
  | zero => exact absurd HA.out (by simp [procfs_SchedstatCPU___SchedstatCPU.l0])
  | succ k1 =>
   have H := HA.out
   clear HA
   simp only [procfs_SchedstatCPU___SchedstatCPU.l0] at H
   by_cases c8 : x14_1 < (l1.length : Int)
   ·rw [if_pos c8] at H
    have c8b0 : decide (x14_1 < (l1.length : Int)) = true := decide_eq_true c8
    clear c8
    by_cases c9 : 0 ≤ x14_1
    ·rw [if_pos c9] at H
     have c9b0 : decide (0 ≤ x14_1) = true := decide_eq_true c9
     clear c9
     by_cases c10 : x14_1 < (l1.length : Int)
     ·rw [if_pos c10] at H
      have c10b0 : decide (x14_1 < (l1.length : Int)) = true := decide_eq_true c10
      clear c10
      replace H := Option.bind_eq_some_iff.mp H
      obtain ⟨⟨t104, t105, t106, t107, t108, t109, t110, t111⟩, A110, H⟩ := H
      have A11 := Aside0.mk A110
      clear A110
      by_cases c12 : x103007_1.length < 1466015503701
      ·rw [if_pos c12] at H
       have LMc12 := Aside0.mk c12
       clear c12
       obtain ⟨y114, hy114⟩ : ∃ y_ : List (S35), y_ = (x103007_1 ++ [(⟨t104, t105, t106, t107, t108, t109, t110, t111⟩ : S35)]) := ⟨_, rfl⟩
       replace H : (procfs_SchedstatCPU___SchedstatCPU.l0 k1 l1 (l1.length : Int) (wrap64 (x14_1 + 1)) a0 6 false 0 0 0 (⟨#[]⟩ : ByteArray) y114) = some (r1, r2, r3, r4, r5, r6, r7, r8) := by first | (rw [hy114]; with_reducible exact H) | (have H2_ := (Option.bind_some _ _).symm.trans H; rw [hy114]; with_reducible exact H2_) | (have H2_ := (Option.bind_some _ _).symm.trans H; with_reducible exact H2_) | with_reducible exact H | (rw [hy114]; exact H) | exact H
       have Ny114 := Aside0.mk hy114
       clear hy114
       have H' := Aside0.mk H
       clear H
       have p103 : 0 ≤ (x14_1 : Int) := of_decide_eq_true (by first | (with_reducible assumption) | assumption)
       have q103 : x14_1 < (l1.length : Int) := of_decide_eq_true (by first | (with_reducible assumption) | assumption)
       obtain ⟨ad103, gq, e103, hx103_0, hq0⟩ := at_pcpu HR1.out zC x14_1 p103 q103
       have HQ := Aside0.mk hq0
       clear hq0
       cases e103
       replace hx103_0 := (HB.out.cell (World.block_lt_of_cell? w _ hx103_0)).trans hx103_0
       replace p103 := eq_true p103
       replace q103 := eq_true q103
       try go_wp2
       have n0_ := Aside0.mk (Kd.R_drew HO_103007.out)
       have n1_ := Aside0.mk (blk_drew BK101.out)
       have n2_ := Aside0.mk (blk_drew BK102.out)
       have n3_ := Aside0.mk (below_drew1 HB.out)
       clear HO_103007
       clear BK101
       clear BK102
       clear HB
       have HO_103007 := n0_
       have BK101 := n1_
       have BK102 := n2_
       have HB := n3_
       clear n0_ n1_ n2_ n3_
       refine start_ (n := 9) (S := fun w' => w'.cell? ⟨gb102, 0, none⟩ = some (.string a0) ∧ w'.cell? ⟨gb102, 1, none⟩ = some (.int .i64 6) ∧ w'.cell? ⟨gb102, 2, none⟩ = some (.bool false) ∧ w'.cell? ⟨gb102, 3, none⟩ = some (.int .i64 0) ∧ w'.cell? ⟨gb102, 4, none⟩ = some (.int .u64 0) ∧ w'.cell? ⟨gb102, 5, none⟩ = some (.float .f64 0) ∧ w'.cell? ⟨gb102, 6, none⟩ = some (.string (⟨#[]⟩ : ByteArray)) ∧ w'.cell? ⟨gb102, 7, none⟩ = some (u103007)) (ds := [8]) (tfA 0 9) (by kernel_rfl) rfl rfl ⟨(blk_cell BK102.out 0).trans rfl, (blk_cell BK102.out 1).trans rfl, (blk_cell BK102.out 2).trans rfl, (blk_cell BK102.out 3).trans rfl, (blk_cell BK102.out 4).trans rfl, (blk_cell BK102.out 5).trans rfl, (blk_cell BK102.out 6).trans rfl, (blk_cell BK102.out 7).trans rfl⟩ (fun hHeld => ?_); refine with_tabW procfs_SchedstatCPU___SchedstatCPU.tab5 procfs_SchedstatCPU___SchedstatCPU.bits5 (fun HT_ HW_ => ?_)
       generalize wr.drew = w13 at HO_103007 BK101 BK102 HB hHeld ⊢
       refine pure_ (i := 0) (N := some 18) (v := ?_) (a' := ?_) (tfA 1 8) rfl rfl (any_of HT_.out (by kernel_rfl)) (fun _ _ _ h => h) (Or.inl ⟨by rfl, ?_⟩) ?_ ?_
       rotate_left
       ·intro w'
        go_simp
        with_reducible rfl
       rotate_left
       ·simp only [Act.put, sA, s0, s1, i64_w, i32_w]
        rfl
       refine pure_ (i := 2) (N := some 20) (v := ?_) (a' := ?_) (bnA 9 5) rfl rfl (any_of HT_.out (by kernel_rfl)) (fun _ _ _ h => h) (Or.inl ⟨by rfl, ?_⟩) ?_ ?_
       rotate_left
       ·intro w'
        go_simp
        with_reducible rfl
       rotate_left
       ·simp only [Act.put, sA, s0, s1, i64_w, i32_w]
        rfl
       refine pure_ (i := 3) (N := some 21) (v := ?_) (a' := ?_) (bnA 9 13) rfl rfl (any_of HT_.out (by kernel_rfl)) (fun _ _ _ h => h) (Or.inl ⟨by rfl, ?_⟩) ?_ ?_
       rotate_left
       ·intro w'
        go_simp
        with_reducible rfl
       rotate_left
       ·simp only [Act.put, sA, s0, s1, i64_w, i32_w]
        rfl
       refine take_ (i := 1) (N := some 19) (v := ?_) (a' := ?_) (tfA 4 5) rfl rfl (take_ofW HT_.out HW_.out (by kernel_rfl)) (fun _ _ _ h => h) (Or.inl ⟨by rfl, ?_⟩) hHeld ?_ ?_
       rotate_left
       ·rintro w' ⟨s0, s1, s2, s3, s4, s5, s6, s7⟩
        go_simp
        with_reducible rfl
       rotate_left
       ·simp only [Act.put, sA, s0, s1, i64_w, i32_w]
        rfl
       refine one_ (i := 4) (N := some 22) (tfA 5 4) rfl rfl (one_of HT_.out (by kernel_rfl)) (by decide) (fun K hK => ?_)
       refine goesV_ Tryz.func139 (by kernel_rfl) rfl #[.pointer (some ⟨gq, 0, none⟩)] (by rfl) rfl rfl (by (try simp only [List.map_toArray, List.map_cons, List.map_nil]); first | done | rfl | (simp only [List.length_drop, List.length_take]; rfl)) ?_
       refine (cpu1_is gq _ _ _ _ t104 t105 t106 t107 t108 t109 t110 t111 _ (blk_below HQ.out belS) A11.out).mono ?_
       rintro e w14 ⟨v112, rfl, ho0, hb⟩
       refine ⟨_, rfl, ?_⟩
       have n0_ := Aside0.mk (Kd.R_elder' (by (with_reducible repeat (first | apply Kd.R_alloc | apply Kd.R_drewN | apply Kd.R_drew)); exact HO_103007.out) (Kd.R_base ho0) hb)
       have n1_ := Aside0.mk (Kd.R_lower (Kd.R_newB (Kd.R_newB (Kd.R_new' ho0 (Kd.R_lt (by (with_reducible repeat (first | apply Kd.R_alloc | apply Kd.R_drewN | apply Kd.R_drew)); exact HO_103007.out))) (g := gb101) (o := .cells #[.string (⟨#[]⟩ : ByteArray), .int .i64 0, .bool false, .int .i64 0, .int .u64 0, .float .f64 0, .string (⟨#[]⟩ : ByteArray), .slice none 0 0] 35 (0, 0)) (by refine bY ?_; exact BK101.out)) (g := gb102) (o := .cells #[.string a0, .int .i64 6, .bool false, .int .i64 0, .int .u64 0, .float .f64 0, .string (⟨#[]⟩ : ByteArray), u103007] 35 (0, 0)) (by refine bY ?_; exact BK102.out)) (below_size belS))
       have n2_ := Aside0.mk (blk_below (g := gb101) (o := .cells #[.string (⟨#[]⟩ : ByteArray), .int .i64 0, .bool false, .int .i64 0, .int .u64 0, .float .f64 0, .string (⟨#[]⟩ : ByteArray), .slice none 0 0] 35 (0, 0)) (by refine bY ?_; exact BK101.out) hb)
       have n3_ := Aside0.mk (blk_below (g := gb102) (o := .cells #[.string a0, .int .i64 6, .bool false, .int .i64 0, .int .u64 0, .float .f64 0, .string (⟨#[]⟩ : ByteArray), u103007] 35 (0, 0)) (by refine bY ?_; exact BK102.out) hb)
       have n4_ := Aside0.mk (below_step belS hb)
       clear HO_103007
       clear BK101
       clear BK102
       clear HB
       have HO_103007 := n0_
       have HO113 := n1_
       have BK101 := n2_
       have BK102 := n3_
       have HB := n4_
       clear n0_ n1_ n2_ n3_ n4_
       (try clear hb)
       (try clear hb2)
       (try clear hk)
       (try clear hi)
       (try clear ho0)
       obtain ⟨Ao16, co16, eo16⟩ := Kd.R_slice HO113.out
       (first | subst eo16 | (injection eo16 with f1_ f2_ f3_; have f4_ := f1_.symm; have f5_ := f3_.symm; clear f1_ f2_ f3_; subst f4_; subst f5_))
       refine hK.out _ _ ⟨(blk_cell BK102.out 0).trans rfl, (blk_cell BK102.out 1).trans rfl, (blk_cell BK102.out 2).trans rfl, (blk_cell BK102.out 3).trans rfl, (blk_cell BK102.out 4).trans rfl, (blk_cell BK102.out 5).trans rfl, (blk_cell BK102.out 6).trans rfl, (blk_cell BK102.out 7).trans rfl⟩ (fun hHeld => ?_)
       clear hK K
       refine norm_ (a' := ?_) ?_ ?_
       rotate_left
       ·show Act.put _ (some 22) _ = _
        simp only [Act.put, sA, s0, s1, i64_w, i32_w]
        rfl
       refine one_ (i := 5) (N := some 23) (tfA 6 3) rfl rfl (one_of HT_.out (by kernel_rfl)) (by decide) (fun K hK => ?_)
       refine value_ (w1 := ?_) (v := ?_) (by rfl) rfl ?_ ?_
       rotate_left 2
       ·go_simp
        constructor
        ·rfl
        ·rfl
       refine hK.out _ _ ⟨(blk_cell (blk_alloc BK102.out _) 0).trans rfl, (blk_cell (blk_alloc BK102.out _) 1).trans rfl, (blk_cell (blk_alloc BK102.out _) 2).trans rfl, (blk_cell (blk_alloc BK102.out _) 3).trans rfl, (blk_cell (blk_alloc BK102.out _) 4).trans rfl, (blk_cell (blk_alloc BK102.out _) 5).trans rfl, (blk_cell (blk_alloc BK102.out _) 6).trans rfl, (blk_cell (blk_alloc BK102.out _) 7).trans rfl⟩ (fun hHeld => ?_)
       clear hK K
       refine norm_ (a' := ?_) ?_ ?_
       rotate_left
       ·show Act.put _ (some 23) _ = _
        simp only [Act.put, sA, s0, s1, i64_w, i32_w]
        rfl
       refine one_ (i := 6) (N := some 24) (tfA 7 2) rfl rfl (one_of HT_.out (by kernel_rfl)) (by decide) (fun K hK => ?_)
       refine Kd.R_append_step k35 (w0 := w) w.heap.size (by rfl) (.tmp 19) (.tmp 23) 33 35 (.agg #[(.string ⟨#[]⟩), (.int .i64 0), (.bool false), (.int .i64 0), (.int .u64 0), (.float .f64 0), (.string ⟨#[]⟩), (.slice none 0 0)]) 96 rfl Tryz.underlying33 info35 rfl (by decide) (by omega) u103007 x103007_1 (⟨t104, t105, t106, t107, t108, t109, t110, t111⟩ : S35) [.string t104, .int .i64 t105, .bool t106, .int .i64 t107, .int .u64 t108, .float .f64 t109, .string t110, .slice Ao16 t111.length co16] (fun k_ => k_ ≠ gb101 ∧ k_ ≠ gb102) (fun k_ => ((fun k_ => k_ ≠ gb101 ∧ k_ ≠ gb102)) k_ ∧ some k_ ≠ (u103007 : Value).ownBlock) rfl rfl ?aP (fun _ hk => hk) ?aF ?aO ?aB ?aS ?aL ?_
       (case aP => exact k35_mkM _ _ _ (⟨t104, t105, t106, t107, t108, t109, t110, t111⟩ : S35) (Kd.R_mono (HO113.out) (fun k_ hk => ⟨⟨hk.1.2, hk.2⟩, hk.1.1.2⟩)))
       (case aB => exact belS)
       (case aF => exact (fun k_ hk => ⟨Kd.freshB (g := gb101) (o := .cells #[.string (⟨#[]⟩ : ByteArray), .int .i64 0, .bool false, .int .i64 0, .int .u64 0, .float .f64 0, .string (⟨#[]⟩ : ByteArray), .slice none 0 0] 35 (0, 0)) (by refine bY ?_; exact BK101.out) k_ hk, Kd.freshB (g := gb102) (o := .cells #[.string a0, .int .i64 6, .bool false, .int .i64 0, .int .u64 0, .float .f64 0, .string (⟨#[]⟩ : ByteArray), u103007] 35 (0, 0)) (by refine bY ?_; exact BK102.out) k_ hk⟩))
       (case aO => exact (by (with_reducible repeat (first | apply Kd.R_alloc | apply Kd.R_drewN | apply Kd.R_drew)); exact Kd.R_mono HO_103007.out (fun _ hk => ⟨hk.1.1, hk.1.2⟩)))
       (case aS => exact (below_size belS))
       (case aL => have := LMc12.out; omega)
       intro v115 w15 ho hb hg hat
       rw [← Ny114.out] at ho
       have n0_ := Aside0.mk (blk_grown (g := gb101) (o := .cells #[.string (⟨#[]⟩ : ByteArray), .int .i64 0, .bool false, .int .i64 0, .int .u64 0, .float .f64 0, .string (⟨#[]⟩ : ByteArray), .slice none 0 0] 35 (0, 0)) (by refine bY ?_; exact BK101.out) hg (Kd.R_away HO_103007.out (fun _ hk => hk.1.1)))
       have n1_ := Aside0.mk (blk_grown (g := gb102) (o := .cells #[.string a0, .int .i64 6, .bool false, .int .i64 0, .int .u64 0, .float .f64 0, .string (⟨#[]⟩ : ByteArray), u103007] 35 (0, 0)) (by refine bY ?_; exact BK102.out) hg (Kd.R_away HO_103007.out (fun _ hk => hk.1.2)))
       have n2_ := Aside0.mk (hb)
       have n3_ := Aside0.mk (ho)
       clear BK101
       clear BK102
       clear HB
       clear HO_103007
       clear HO113
       have BK101 := n0_
       have BK102 := n1_
       have HB := n2_
       have HO116 := n3_
       clear n0_ n1_ n2_ n3_
       clear ho hb hg hat
       obtain ⟨Ao17, co17, eo17⟩ := Kd.R_slice HO116.out
       (first | subst eo17 | (injection eo17 with f1_ f2_ f3_; have f4_ := f1_.symm; have f5_ := f3_.symm; clear f1_ f2_ f3_; subst f4_; subst f5_))
       refine hK.out _ _ ⟨(blk_cell BK102.out 0).trans rfl, (blk_cell BK102.out 1).trans rfl, (blk_cell BK102.out 2).trans rfl, (blk_cell BK102.out 3).trans rfl, (blk_cell BK102.out 4).trans rfl, (blk_cell BK102.out 5).trans rfl, (blk_cell BK102.out 6).trans rfl, (blk_cell BK102.out 7).trans rfl⟩ (fun hHeld => ?_)
       clear hK K
       refine norm_ (a' := ?_) ?_ ?_
       rotate_left
       ·show Act.put _ (some 24) _ = _
        simp only [Act.put, sA, s0, s1, i64_w, i32_w]
        rfl
       refine pure_ (i := 7) (N := some 25) (v := ?_) (a' := ?_) (tfA 8 1) rfl rfl (any_of HT_.out (by kernel_rfl)) (fun _ _ _ h => h) (Or.inl ⟨by rfl, ?_⟩) ?_ ?_
       rotate_left
       ·intro w'
        go_simp
        with_reducible rfl
       rotate_left
       ·simp only [Act.put, sA, s0, s1, i64_w, i32_w]
        rfl
       refine last_ (i := 8) (N := none) (tfA 9 0) rfl rfl (one_of HT_.out (by kernel_rfl)) (by decide) (fun K hK => ?_)
       have hs18 : w15.cell? ⟨gb102, 7, none⟩ = some (u103007) := (blk_cell BK102.out 7).trans rfl
       have hfs18 := blk_frozen BK102.out 7
       have hns18_0 := NB101_102.out
       have hms18_0 := NB102_101.out
       refine skip_ (w1 := ?_) (by rfl) rfl ?_ ?_
       rotate_left
       ·go_simp
        rfl
       refine hK.out _ _ ?_
       clear hK K
       refine done_ (done_of HT_.out (by kernel_rfl)) ?_
       try go_wp2
       go_roundg k1
       case measure => have := HK1.out; omega
       case rel => exact ⟨(wrap64 (x14_1 + 1)), (y114), (.slice Ao17 y114.length co17), (by first | rfl | (simp; done) | (simp [*]; done) | (simp [bne_nil]; done) | (simp [bne_nil, *]; done)), H', ⟨by have := HK1.out; omega⟩, ⟨by (with_reducible repeat (first | apply Kd.R_alloc | apply Kd.R_drewN | apply Kd.R_drew)); exact Kd.R_mono (Kd.R_far (p := ⟨gb102, 7, none⟩) (Kd.R_mono HO116.out (fun k_ hk => (⟨hk, hk.2⟩ : _ ∧ k_ ≠ gb102))) (fun _ hk => hk.2) (.slice Ao17 y114.length co17)) (fun _ hk => ⟨hk.1.1, hk.1.2⟩)⟩, ⟨by refine bY ?_; refine blk_far ?_ NB101_102.out _; refine bY ?_; exact BK101.out⟩, ⟨by refine bY ?_; refine blk_put (cs := #[.string a0, .int .i64 6, .bool false, .int .i64 0, .int .u64 0, .float .f64 0, .string (⟨#[]⟩ : ByteArray), u103007]) ?_ 7 _ rfl; refine bY ?_; exact BK102.out⟩, ⟨by repeat (first | (with_reducible first | exact HB.out | apply below_alloc | apply pw_below_drewN | apply below_drew1 | refine below_set ?_ GE101.out | refine below_set ?_ GE102.out) | exact HB.out)⟩⟩
      ·rw [if_neg c12] at H
       exact absurd H (by simp)
     ·rw [if_neg c10] at H
      exact absurd H (by simp)
    ·rw [if_neg c9] at H
     exact absurd H (by simp)
   ·rw [if_neg c8] at H
    have c8b0 : decide (x14_1 < (l1.length : Int)) = false := decide_eq_false c8
    clear c8
    simp only [Option.some.injEq, Prod.mk.injEq] at H
    obtain ⟨rfl, rfl, rfl, rfl, rfl, rfl, rfl, rfl⟩ := H
    have hnb19 := NB102_101.out
    have hnc19 := NB101_102.out
    obtain ⟨hcz20_0, hcz20_1, hcz20_2, hcz20_3, hcz20_4, hcz20_5, hcz20_6, hcz20_7, hfz20_0, hfz20_1, hfz20_2, hfz20_3, hfz20_4, hfz20_5, hfz20_6, hfz20_7⟩ := rows8 (w := wr) BK102
    obtain ⟨hcz21_0, hcz21_1, hcz21_2, hcz21_3, hcz21_4, hcz21_5, hcz21_6, hcz21_7, hfz21_0, hfz21_1, hfz21_2, hfz21_3, hfz21_4, hfz21_5, hfz21_6, hfz21_7⟩ := rows8 (w := wr) BK101
    obtain ⟨Ao22, co22, eo22⟩ := Kd.R_slice HO_103007.out
    subst eo22
    go_wp2
    refine bodyPost_ret (results_cell_row rfl _ _ gb101 35 #[.string a0, .int .i64 6, .bool false, .int .i64 0, .int .u64 0, .float .f64 0, .string (⟨#[]⟩ : ByteArray), .slice Ao22 x103007_1.length co22] (0, 0) _ rfl (by refine bY ?_; exact blk_put8 BK101.out) Tryz.underlying35 rfl (by kernel_rfl)) rfl ?_
    exact ⟨_, by first | rfl | (simp [errW_none, errW_some] <;> rfl) | (simp [*, errW_none, errW_some] <;> rfl), by (with_reducible repeat (first | apply Kd.R_alloc | apply Kd.R_drewN | apply Kd.R_drew)); exact Kd.R_mono (Kd.R_far8 (g := gb101) (Kd.R_mono HO_103007.out (fun k_ hk => (⟨hk, hk.1⟩ : _ ∧ k_ ≠ gb101))) (fun _ hk => hk.2) (.string a0) (.int .i64 6) (.bool false) (.int .i64 0) (.int .u64 0) (.float .f64 0) (.string (⟨#[]⟩ : ByteArray)) (.slice Ao22 x103007_1.length co22)) (fun _ hk => trivial), by repeat (first | (with_reducible first | exact HB.out | apply below_alloc | apply pw_below_drewN | apply below_drew1 | refine below_set ?_ GE101.out | refine below_set ?_ GE102.out) | exact HB.out)⟩

/-! ### impl_procfsSchedstat: function 79 -/
def impl_procfsSchedstat.f (k : Nat) (a0 : ByteArray) (l1_0 : List Cpu) : Option (ByteArray × Int × Bool × Int × Int × Nat × ByteArray × (List (S35))) := (procfs_SchedstatCPU___SchedstatCPU.f k (⟨#[67, 80, 85, 115]⟩ : ByteArray) l1_0).bind fun bt120 => (if ([] : List (S35)).length < 1466015503701 then (some (a0, 8, false, 0, 0, 0, (⟨#[]⟩ : ByteArray), (([] : List (S35)) ++ [(⟨bt120.1, bt120.2.1, bt120.2.2.1, bt120.2.2.2.1, bt120.2.2.2.2.1, bt120.2.2.2.2.2.1, bt120.2.2.2.2.2.2.1, bt120.2.2.2.2.2.2.2⟩ : S35)]))) else (none))
theorem impl_procfsSchedstat.mono : ∀ a0 a1 k, LeO (impl_procfsSchedstat.f k a0 a1) (impl_procfsSchedstat.f (k + 1) a0 a1) := by
 intro a0 a1 k
 unfold impl_procfsSchedstat.f
 repeat' first
   | (with_reducible exact procfs_SchedstatCPU___SchedstatCPU.mono _ _ _)
   | (with_reducible exact LeO.refl _)
   | (with_reducible exact LeO.none _)
   | (with_reducible refine LeO.ite ?_ ?_)
   | (with_reducible refine LeO.bind ?_ (fun _ => ?_))
   | exact procfs_SchedstatCPU___SchedstatCPU.mono _ _ _
   | exact LeO.none _
   | refine LeO.ite ?_ ?_
   | refine LeO.bind ?_ (fun _ => ?_)
def impl_procfsSchedstat.T2 : Bool × List (List Nat × List Nat) := (true, [([], []), ([0], [0]), ([], []), ([2], [2]), ([3], [3]), ([4], [4]), ([1, 5, 4], [1, 5]), ([0, 1, 2, 3, 4, 5, 6], []), ([7, 6, 6, 0, 1, 2, 3, 4, 5, 6], [6, 7])])
def impl_procfsSchedstat.B2 : List Nat := [0, 1, 0, 4, 12, 28, 63, 127, 255]
theorem impl_procfsSchedstat.tab2 : rtab .any (opsOf Tryz.f79 2) = impl_procfsSchedstat.T2 := by kernel_rfl
theorem impl_procfsSchedstat.bits2 : waitsOk impl_procfsSchedstat.T2.2 impl_procfsSchedstat.B2 = true := by kernel_rfl
set_option maxHeartbeats 8000000 in
set_option maxRecDepth 100000 in
theorem impl_procfsSchedstat.calls (k : Nat) (a0 : ByteArray) (A1_0 : Option Addr) (c1_0 : Nat) (l1_0 : List Cpu) (r1 : ByteArray) (r2 : Int) (r3 : Bool) (r4 : Int) (r5 : Int) (r6 : Nat) (r7 : ByteArray) (r8 : List (S35)) (w : World) (hr1_0 : Kd.C pcpu w A1_0 l1_0.length l1_0) (hc1_0 : l1_0.length ≤ c1_0) (h : impl_procfsSchedstat.f k a0 l1_0 = some (r1, r2, r3, r4, r5, r6, r7, r8)) :
  Calls Tryz.prog 79 #[.string a0, .agg #[.slice A1_0 l1_0.length c1_0]] w fun e w' => ∃ v7_ : Value, e = .returned (.agg #[.string r1, .int .i64 r2, .bool r3, .int .i64 r4, .int .u64 r5, .float .f64 r6, .string r7, v7_]) ∧ Kd.R k35 35 w' w.heap.size (fun _ => True) v7_ r8 ∧ Below w.heap.size w w' := by
 have hu101 := Tryz.underlying101
 have hu35 := Tryz.underlying35
 have HR1_0 := Aside0.mk hr1_0
 have HC1_0 := Aside0.mk hc1_0
 clear hr1_0 hc1_0
 have HB := Aside0.mk (Below.refl w.heap.size w)
 have H : ((procfs_SchedstatCPU___SchedstatCPU.f k (⟨#[67, 80, 85, 115]⟩ : ByteArray) l1_0).bind fun bt120 => (if ([] : List (S35)).length < 1466015503701 then (some (a0, 8, false, 0, 0, 0, (⟨#[]⟩ : ByteArray), (([] : List (S35)) ++ [(⟨bt120.1, bt120.2.1, bt120.2.2.1, bt120.2.2.2.1, bt120.2.2.2.2.1, bt120.2.2.2.2.2.1, bt120.2.2.2.2.2.2.1, bt120.2.2.2.2.2.2.2⟩ : S35)]))) else (none))) = some (r1, r2, r3, r4, r5, r6, r7, r8) := h
 clear h
 replace H := Option.bind_eq_some_iff.mp H
 obtain ⟨⟨t120, t121, t122, t123, t124, t125, t126, t127⟩, A30, H⟩ := H
 have A3 := Aside0.mk A30
 clear A30
 by_cases c4 : ([] : List (S35)).length < 1466015503701
 ·rw [if_pos c4] at H
  have LMc4 := Aside0.mk c4
  clear c4
  obtain ⟨y130, hy130⟩ : ∃ y_ : List (S35), y_ = (([] : List (S35)) ++ [(⟨t120, t121, t122, t123, t124, t125, t126, t127⟩ : S35)]) := ⟨_, rfl⟩
  replace H : (some (a0, 8, false, 0, 0, 0, (⟨#[]⟩ : ByteArray), y130)) = some (r1, r2, r3, r4, r5, r6, r7, r8) := by first | (rw [hy130]; with_reducible exact H) | (have H2_ := (Option.bind_some _ _).symm.trans H; rw [hy130]; with_reducible exact H2_) | (have H2_ := (Option.bind_some _ _).symm.trans H; with_reducible exact H2_) | with_reducible exact H | (rw [hy130]; exact H) | exact H
  have Ny130 := Aside0.mk hy130
  clear hy130
  simp only [Option.some.injEq, Prod.mk.injEq] at H
  obtain ⟨rfl, rfl, rfl, rfl, rfl, rfl, rfl, rfl⟩ := H
  go_enter Tryz.func79, Tryz.ntmps79
  try go_wp2_with (first | ((with_reducible refine gate_dst (N := 3) rfl ?_); refine box_event ?hg (N := 3) ?hd (cs := #[.slice A1_0 l1_0.length c1_0]) (t := 101) ?hr ?_; (case hd => rfl); (case hg => rfl); (case hr => first | (go_simp; done) | (go_simp; rfl)); intro gb117 hg w5 hbox hb; have n0_ := Aside0.mk (below_step belH hb); have n1_ := Aside0.mk (hbox); have n2_ := Aside0.mk ((by rw [hg]; exact (below_size belH) : w.heap.size ≤ gb117)); have n3_ := Aside0.mk ((by rw [hg]; exact (below_size belH) : w.heap.size ≤ gb117)); clear HB; have HB := n0_; have BK117 := n1_; have GW117 := n2_; have GE117 := n3_; clear n0_ n1_ n2_ n3_; clear hb hbox hg) | ((with_reducible refine gate_dst (N := 4) rfl ?_); refine box_event ?hg (N := 4) ?hd (cs := #[.string (⟨#[]⟩ : ByteArray), .int .i64 0, .bool false, .int .i64 0, .int .u64 0, .float .f64 0, .string (⟨#[]⟩ : ByteArray), .slice none 0 0]) (t := 35) ?hr ?_; (case hd => rfl); (case hg => rfl); (case hr => first | (go_simp; done) | (go_simp; rfl)); intro gb118 hg w6 hbox hb; have n0_ := Aside0.mk (blk_below (g := gb117) (o := .cells #[.slice A1_0 l1_0.length c1_0] 101 (0, 0)) (by refine bY ?_; exact BK117.out) hb); have n1_ := Aside0.mk (below_step belS hb); have n2_ := Aside0.mk (hbox); have n3_ := Aside0.mk ((by rw [hg]; exact (below_size belS) : w.heap.size ≤ gb118)); have n4_ := Aside0.mk ((by rw [hg]; exact (below_size belS) : w.heap.size ≤ gb118)); have n5_ := Aside0.mk ((by rw [hg]; exact Nat.ne_of_lt (blk_lt (g := gb117) (o := .cells #[.slice A1_0 l1_0.length c1_0] 101 (0, 0)) (by refine bY ?_; exact BK117.out)) : gb117 ≠ gb118)); have n6_ := Aside0.mk ((by rw [hg]; exact Nat.ne_of_gt (blk_lt (g := gb117) (o := .cells #[.slice A1_0 l1_0.length c1_0] 101 (0, 0)) (by refine bY ?_; exact BK117.out)) : gb118 ≠ gb117)); clear BK117; clear HB; have BK117 := n0_; have HB := n1_; have BK118 := n2_; have GW118 := n3_; have GE118 := n4_; have NB117_118 := n5_; have NB118_117 := n6_; clear n0_ n1_ n2_ n3_ n4_ n5_ n6_; clear hb hbox hg) | ((with_reducible refine gate_dst (N := 5) rfl ?_); refine box_event ?hg (N := 5) ?hd (cs := #[.string (⟨#[]⟩ : ByteArray), .int .i64 0, .bool false, .int .i64 0, .int .u64 0, .float .f64 0, .string (⟨#[]⟩ : ByteArray), .slice none 0 0]) (t := 35) ?hr ?_; (case hd => rfl); (case hg => rfl); (case hr => first | (go_simp; done) | (go_simp; rfl)); intro gb119 hg w7 hbox hb; have n0_ := Aside0.mk (blk_below (g := gb117) (o := .cells #[.slice A1_0 l1_0.length c1_0] 101 (0, 0)) (by refine bY ?_; exact BK117.out) hb); have n1_ := Aside0.mk (blk_below (g := gb118) (o := .cells #[.string (⟨#[]⟩ : ByteArray), .int .i64 0, .bool false, .int .i64 0, .int .u64 0, .float .f64 0, .string (⟨#[]⟩ : ByteArray), .slice none 0 0] 35 (0, 0)) (by refine bY ?_; exact BK118.out) hb); have n2_ := Aside0.mk (below_step belS hb); have n3_ := Aside0.mk (hbox); have n4_ := Aside0.mk ((by rw [hg]; exact (below_size belS) : w.heap.size ≤ gb119)); have n5_ := Aside0.mk ((by rw [hg]; exact (below_size belS) : w.heap.size ≤ gb119)); have n6_ := Aside0.mk ((by rw [hg]; exact Nat.ne_of_lt (blk_lt (g := gb117) (o := .cells #[.slice A1_0 l1_0.length c1_0] 101 (0, 0)) (by refine bY ?_; exact BK117.out)) : gb117 ≠ gb119)); have n7_ := Aside0.mk ((by rw [hg]; exact Nat.ne_of_gt (blk_lt (g := gb117) (o := .cells #[.slice A1_0 l1_0.length c1_0] 101 (0, 0)) (by refine bY ?_; exact BK117.out)) : gb119 ≠ gb117)); have n8_ := Aside0.mk ((by rw [hg]; exact Nat.ne_of_lt (blk_lt (g := gb118) (o := .cells #[.string (⟨#[]⟩ : ByteArray), .int .i64 0, .bool false, .int .i64 0, .int .u64 0, .float .f64 0, .string (⟨#[]⟩ : ByteArray), .slice none 0 0] 35 (0, 0)) (by refine bY ?_; exact BK118.out)) : gb118 ≠ gb119)); have n9_ := Aside0.mk ((by rw [hg]; exact Nat.ne_of_gt (blk_lt (g := gb118) (o := .cells #[.string (⟨#[]⟩ : ByteArray), .int .i64 0, .bool false, .int .i64 0, .int .u64 0, .float .f64 0, .string (⟨#[]⟩ : ByteArray), .slice none 0 0] 35 (0, 0)) (by refine bY ?_; exact BK118.out)) : gb119 ≠ gb118)); clear BK117; clear BK118; clear HB; have BK117 := n0_; have BK118 := n1_; have HB := n2_; have BK119 := n3_; have GW119 := n4_; have GE119 := n5_; have NB117_119 := n6_; have NB119_117 := n7_; have NB118_119 := n8_; have NB119_118 := n9_; clear n0_ n1_ n2_ n3_ n4_ n5_ n6_ n7_ n8_ n9_; clear hb hbox hg; have hnb8 := NB119_117.out; have hnc8 := NB117_119.out; have hnb9 := NB119_118.out; have hnc9 := NB118_119.out; obtain ⟨hcz10_0, hcz10_1, hcz10_2, hcz10_3, hcz10_4, hcz10_5, hcz10_6, hcz10_7, hfz10_0, hfz10_1, hfz10_2, hfz10_3, hfz10_4, hfz10_5, hfz10_6, hfz10_7⟩ := rows8 (w := w7) BK119))
  have n0_ : Aside0 (((((((((w7.setCell ⟨gb119, 0, none⟩ (.string a0)).setCell ⟨gb119, 1, none⟩ (.int .i64 8)).setCell ⟨gb119, 2, none⟩ (.bool false)).setCell ⟨gb119, 3, none⟩ (.int .i64 0)).setCell ⟨gb119, 4, none⟩ (.int .u64 0)).setCell ⟨gb119, 5, none⟩ (.float .f64 0)).setCell ⟨gb119, 6, none⟩ (.string (⟨#[]⟩ : ByteArray))).setCell ⟨gb119, 7, none⟩ (.slice none 0 0)).heap[gb117]? = some (.cells #[.slice A1_0 l1_0.length c1_0] 101 (0, 0))) := ⟨by refine bY ?_; refine blk_far ?_ NB117_119.out _; refine bY ?_; refine blk_far ?_ NB117_119.out _; refine bY ?_; refine blk_far ?_ NB117_119.out _; refine bY ?_; refine blk_far ?_ NB117_119.out _; refine bY ?_; refine blk_far ?_ NB117_119.out _; refine bY ?_; refine blk_far ?_ NB117_119.out _; refine bY ?_; refine blk_far ?_ NB117_119.out _; refine bY ?_; refine blk_far ?_ NB117_119.out _; refine bY ?_; exact BK117.out⟩
  have n1_ : Aside0 (((((((((w7.setCell ⟨gb119, 0, none⟩ (.string a0)).setCell ⟨gb119, 1, none⟩ (.int .i64 8)).setCell ⟨gb119, 2, none⟩ (.bool false)).setCell ⟨gb119, 3, none⟩ (.int .i64 0)).setCell ⟨gb119, 4, none⟩ (.int .u64 0)).setCell ⟨gb119, 5, none⟩ (.float .f64 0)).setCell ⟨gb119, 6, none⟩ (.string (⟨#[]⟩ : ByteArray))).setCell ⟨gb119, 7, none⟩ (.slice none 0 0)).heap[gb118]? = some (.cells #[.string (⟨#[]⟩ : ByteArray), .int .i64 0, .bool false, .int .i64 0, .int .u64 0, .float .f64 0, .string (⟨#[]⟩ : ByteArray), .slice none 0 0] 35 (0, 0))) := ⟨by refine bY ?_; refine blk_far ?_ NB118_119.out _; refine bY ?_; refine blk_far ?_ NB118_119.out _; refine bY ?_; refine blk_far ?_ NB118_119.out _; refine bY ?_; refine blk_far ?_ NB118_119.out _; refine bY ?_; refine blk_far ?_ NB118_119.out _; refine bY ?_; refine blk_far ?_ NB118_119.out _; refine bY ?_; refine blk_far ?_ NB118_119.out _; refine bY ?_; refine blk_far ?_ NB118_119.out _; refine bY ?_; exact BK118.out⟩
  have n2_ : Aside0 (((((((((w7.setCell ⟨gb119, 0, none⟩ (.string a0)).setCell ⟨gb119, 1, none⟩ (.int .i64 8)).setCell ⟨gb119, 2, none⟩ (.bool false)).setCell ⟨gb119, 3, none⟩ (.int .i64 0)).setCell ⟨gb119, 4, none⟩ (.int .u64 0)).setCell ⟨gb119, 5, none⟩ (.float .f64 0)).setCell ⟨gb119, 6, none⟩ (.string (⟨#[]⟩ : ByteArray))).setCell ⟨gb119, 7, none⟩ (.slice none 0 0)).heap[gb119]? = some (.cells #[.string a0, .int .i64 8, .bool false, .int .i64 0, .int .u64 0, .float .f64 0, .string (⟨#[]⟩ : ByteArray), .slice none 0 0] 35 (0, 0))) := ⟨by refine bY ?_; exact blk_put8 BK119.out⟩
  have n3_ : Aside0 (Below w.heap.size w ((((((((w7.setCell ⟨gb119, 0, none⟩ (.string a0)).setCell ⟨gb119, 1, none⟩ (.int .i64 8)).setCell ⟨gb119, 2, none⟩ (.bool false)).setCell ⟨gb119, 3, none⟩ (.int .i64 0)).setCell ⟨gb119, 4, none⟩ (.int .u64 0)).setCell ⟨gb119, 5, none⟩ (.float .f64 0)).setCell ⟨gb119, 6, none⟩ (.string (⟨#[]⟩ : ByteArray))).setCell ⟨gb119, 7, none⟩ (.slice none 0 0))) := ⟨by repeat (first | (with_reducible first | exact HB.out | apply below_alloc | apply pw_below_drewN | apply below_drew1 | refine below_set ?_ GE117.out | refine below_set ?_ GE118.out | refine below_set ?_ GE119.out) | exact HB.out)⟩
  (try clear BK117)
  (try clear BK118)
  (try clear BK119)
  (try clear HB)
  generalize ((((((((w7.setCell ⟨gb119, 0, none⟩ (.string a0)).setCell ⟨gb119, 1, none⟩ (.int .i64 8)).setCell ⟨gb119, 2, none⟩ (.bool false)).setCell ⟨gb119, 3, none⟩ (.int .i64 0)).setCell ⟨gb119, 4, none⟩ (.int .u64 0)).setCell ⟨gb119, 5, none⟩ (.float .f64 0)).setCell ⟨gb119, 6, none⟩ (.string (⟨#[]⟩ : ByteArray))).setCell ⟨gb119, 7, none⟩ (.slice none 0 0)) = w11 at n0_ n1_ n2_ n3_ ⊢
  have BK117 := n0_
  have BK118 := n1_
  have BK119 := n2_
  have HB := n3_
  clear n0_ n1_ n2_ n3_
  have n0_ := Aside0.mk (blk_drew BK117.out)
  have n1_ := Aside0.mk (blk_drew BK118.out)
  have n2_ := Aside0.mk (blk_drew BK119.out)
  have n3_ := Aside0.mk (below_drew1 HB.out)
  clear BK117
  clear BK118
  clear BK119
  clear HB
  have BK117 := n0_
  have BK118 := n1_
  have BK119 := n2_
  have HB := n3_
  clear n0_ n1_ n2_ n3_
  refine start_ (n := 9) (S := fun w' => w'.cell? ⟨gb119, 0, none⟩ = some (.string a0) ∧ w'.cell? ⟨gb119, 1, none⟩ = some (.int .i64 8) ∧ w'.cell? ⟨gb119, 2, none⟩ = some (.bool false) ∧ w'.cell? ⟨gb119, 3, none⟩ = some (.int .i64 0) ∧ w'.cell? ⟨gb119, 4, none⟩ = some (.int .u64 0) ∧ w'.cell? ⟨gb119, 5, none⟩ = some (.float .f64 0) ∧ w'.cell? ⟨gb119, 6, none⟩ = some (.string (⟨#[]⟩ : ByteArray)) ∧ w'.cell? ⟨gb119, 7, none⟩ = some (.slice none 0 0) ∧ w'.cell? ⟨gb117, 0, none⟩ = some (.slice A1_0 l1_0.length c1_0)) (ds := [8]) (tfA 0 9) (by kernel_rfl) rfl rfl ⟨(blk_cell BK119.out 0).trans rfl, (blk_cell BK119.out 1).trans rfl, (blk_cell BK119.out 2).trans rfl, (blk_cell BK119.out 3).trans rfl, (blk_cell BK119.out 4).trans rfl, (blk_cell BK119.out 5).trans rfl, (blk_cell BK119.out 6).trans rfl, (blk_cell BK119.out 7).trans rfl, (blk_cell BK117.out 0).trans rfl⟩ (fun hHeld => ?_); refine with_tabW impl_procfsSchedstat.tab2 impl_procfsSchedstat.bits2 (fun HT_ HW_ => ?_)
  generalize w11.drew = w12 at BK117 BK118 BK119 HB hHeld ⊢
  refine pure_ (i := 0) (N := some 8) (v := ?_) (a' := ?_) (tfA 1 8) rfl rfl (any_of HT_.out (by kernel_rfl)) (fun _ _ _ h => h) (Or.inl ⟨by rfl, ?_⟩) ?_ ?_
  rotate_left
  ·intro w'
   go_simp
   with_reducible rfl
  rotate_left
  ·simp only [Act.put, sA, s0, s1, i64_w, i32_w]
   rfl
  refine pure_ (i := 2) (N := some 10) (v := ?_) (a' := ?_) (bnA 9 5) rfl rfl (any_of HT_.out (by kernel_rfl)) (fun _ _ _ h => h) (Or.inl ⟨by rfl, ?_⟩) ?_ ?_
  rotate_left
  ·intro w'
   go_simp
   with_reducible rfl
  rotate_left
  ·simp only [Act.put, sA, s0, s1, i64_w, i32_w]
   rfl
  refine take_ (i := 1) (N := some 9) (v := ?_) (a' := ?_) (tfA 3 6) rfl rfl (take_ofW HT_.out HW_.out (by kernel_rfl)) (fun _ _ _ h => h) (Or.inl ⟨by rfl, ?_⟩) hHeld ?_ ?_
  rotate_left
  ·rintro w' ⟨s0, s1, s2, s3, s4, s5, s6, s7, s8⟩
   go_simp
   with_reducible rfl
  rotate_left
  ·simp only [Act.put, sA, s0, s1, i64_w, i32_w]
   rfl
  refine take_ (i := 3) (N := some 11) (v := ?_) (a' := ?_) (tfA 4 5) rfl rfl (take_ofW HT_.out HW_.out (by kernel_rfl)) (fun _ _ _ h => h) (Or.inl ⟨by rfl, ?_⟩) hHeld ?_ ?_
  rotate_left
  ·rintro w' ⟨s0, s1, s2, s3, s4, s5, s6, s7, s8⟩
   go_simp
   with_reducible rfl
  rotate_left
  ·simp only [Act.put, sA, s0, s1, i64_w, i32_w]
   rfl
  refine one_ (i := 4) (N := some 12) (tfA 5 4) rfl rfl (one_of HT_.out (by kernel_rfl)) (by decide) (fun K hK => ?_)
  refine goes_ Tryz.func138 (by kernel_rfl) rfl #[.string (⟨#[67, 80, 85, 115]⟩ : ByteArray), .slice A1_0 l1_0.length c1_0, .func (.func 139) #[] #[]] (by rfl) rfl rfl (by (try simp only [List.map_toArray, List.map_cons, List.map_nil]); first | done | rfl | (simp only [List.length_drop, List.length_take]; rfl)) ?_
  with_reducible refine (procfs_SchedstatCPU___SchedstatCPU.calls k (⟨#[67, 80, 85, 115]⟩ : ByteArray) _ _ l1_0  t120 t121 t122 t123 t124 t125 t126 t127 _ ?side1 ?side2 A3.out).mono ?_
  (case side1 => repeat (first | exact (Kd.C_below HR1_0.out HB.out) | (with_reducible refine Kd.C_alloc ?_ _) | (with_reducible refine Kd.C_drewN ?_ _) | (with_reducible refine Kd.C_drew ?_)))
  (case side2 => exact HC1_0.out)
  rintro e w13 ⟨v128, rfl, ho0, hb⟩
  refine ⟨_, rfl, ?_⟩
  have n0_ := Aside0.mk (Kd.R_lower (Kd.R_newB (Kd.R_newB ho0 (g := gb118) (o := .cells #[.string (⟨#[]⟩ : ByteArray), .int .i64 0, .bool false, .int .i64 0, .int .u64 0, .float .f64 0, .string (⟨#[]⟩ : ByteArray), .slice none 0 0] 35 (0, 0)) (by refine bY ?_; exact BK118.out)) (g := gb119) (o := .cells #[.string a0, .int .i64 8, .bool false, .int .i64 0, .int .u64 0, .float .f64 0, .string (⟨#[]⟩ : ByteArray), .slice none 0 0] 35 (0, 0)) (by refine bY ?_; exact BK119.out)) (below_size belS))
  have n1_ := Aside0.mk (blk_below (g := gb117) (o := .cells #[.slice A1_0 l1_0.length c1_0] 101 (0, 0)) (by refine bY ?_; exact BK117.out) hb)
  have n2_ := Aside0.mk (blk_below (g := gb118) (o := .cells #[.string (⟨#[]⟩ : ByteArray), .int .i64 0, .bool false, .int .i64 0, .int .u64 0, .float .f64 0, .string (⟨#[]⟩ : ByteArray), .slice none 0 0] 35 (0, 0)) (by refine bY ?_; exact BK118.out) hb)
  have n3_ := Aside0.mk (blk_below (g := gb119) (o := .cells #[.string a0, .int .i64 8, .bool false, .int .i64 0, .int .u64 0, .float .f64 0, .string (⟨#[]⟩ : ByteArray), .slice none 0 0] 35 (0, 0)) (by refine bY ?_; exact BK119.out) hb)
  have n4_ := Aside0.mk (below_step belS hb)
  clear BK117
  clear BK118
  clear BK119
  clear HB
  have HO129 := n0_
  have BK117 := n1_
  have BK118 := n2_
  have BK119 := n3_
  have HB := n4_
  clear n0_ n1_ n2_ n3_ n4_
  (try clear hb)
  (try clear hb2)
  (try clear hk)
  (try clear hi)
  (try clear ho0)
  obtain ⟨Ao15, co15, eo15⟩ := Kd.R_slice HO129.out
  (first | subst eo15 | (injection eo15 with f1_ f2_ f3_; have f4_ := f1_.symm; have f5_ := f3_.symm; clear f1_ f2_ f3_; subst f4_; subst f5_))
  refine hK.out _ _ ⟨(blk_cell BK119.out 0).trans rfl, (blk_cell BK119.out 1).trans rfl, (blk_cell BK119.out 2).trans rfl, (blk_cell BK119.out 3).trans rfl, (blk_cell BK119.out 4).trans rfl, (blk_cell BK119.out 5).trans rfl, (blk_cell BK119.out 6).trans rfl, (blk_cell BK119.out 7).trans rfl, (blk_cell BK117.out 0).trans rfl⟩ (fun hHeld => ?_)
  clear hK K
  refine norm_ (a' := ?_) ?_ ?_
  rotate_left
  ·show Act.put _ (some 12) _ = _
   simp only [Act.put, sA, s0, s1, i64_w, i32_w]
   rfl
  refine one_ (i := 5) (N := some 13) (tfA 6 3) rfl rfl (one_of HT_.out (by kernel_rfl)) (by decide) (fun K hK => ?_)
  refine value_ (w1 := ?_) (v := ?_) (by rfl) rfl ?_ ?_
  rotate_left 2
  ·go_simp
   constructor
   ·rfl
   ·rfl
  refine hK.out _ _ ⟨(blk_cell (blk_alloc BK119.out _) 0).trans rfl, (blk_cell (blk_alloc BK119.out _) 1).trans rfl, (blk_cell (blk_alloc BK119.out _) 2).trans rfl, (blk_cell (blk_alloc BK119.out _) 3).trans rfl, (blk_cell (blk_alloc BK119.out _) 4).trans rfl, (blk_cell (blk_alloc BK119.out _) 5).trans rfl, (blk_cell (blk_alloc BK119.out _) 6).trans rfl, (blk_cell (blk_alloc BK119.out _) 7).trans rfl, (blk_cell (blk_alloc BK117.out _) 0).trans rfl⟩ (fun hHeld => ?_)
  clear hK K
  refine norm_ (a' := ?_) ?_ ?_
  rotate_left
  ·show Act.put _ (some 13) _ = _
   simp only [Act.put, sA, s0, s1, i64_w, i32_w]
   rfl
  refine one_ (i := 6) (N := some 14) (tfA 7 2) rfl rfl (one_of HT_.out (by kernel_rfl)) (by decide) (fun K hK => ?_)
  refine Kd.R_append_step k35 (w0 := w) w.heap.size (by rfl) (.tmp 9) (.tmp 13) 33 35 (.agg #[(.string ⟨#[]⟩), (.int .i64 0), (.bool false), (.int .i64 0), (.int .u64 0), (.float .f64 0), (.string ⟨#[]⟩), (.slice none 0 0)]) 96 rfl Tryz.underlying33 info35 rfl (by decide) (by omega) (.slice none 0 0) ([] : List (S35)) (⟨t120, t121, t122, t123, t124, t125, t126, t127⟩ : S35) [.string t120, .int .i64 t121, .bool t122, .int .i64 t123, .int .u64 t124, .float .f64 t125, .string t126, .slice Ao15 t127.length co15] (fun k_ => k_ ≠ gb118 ∧ k_ ≠ gb119) (fun k_ => ((fun k_ => k_ ≠ gb118 ∧ k_ ≠ gb119)) k_ ∧ some k_ ≠ (.slice none 0 0 : Value).ownBlock) rfl rfl ?aP (fun _ hk => hk) ?aF ?aO ?aB ?aS ?aL ?_
  (case aP => exact k35_mkM _ _ _ (⟨t120, t121, t122, t123, t124, t125, t126, t127⟩ : S35) (Kd.R_mono (HO129.out) (fun k_ hk => ⟨⟨hk.1.2, hk.2⟩, (by simp [Value.ownBlock])⟩)))
  (case aB => exact belS)
  (case aF => exact (fun k_ hk => ⟨Kd.freshB (g := gb118) (o := .cells #[.string (⟨#[]⟩ : ByteArray), .int .i64 0, .bool false, .int .i64 0, .int .u64 0, .float .f64 0, .string (⟨#[]⟩ : ByteArray), .slice none 0 0] 35 (0, 0)) (by refine bY ?_; exact BK118.out) k_ hk, Kd.freshB (g := gb119) (o := .cells #[.string a0, .int .i64 8, .bool false, .int .i64 0, .int .u64 0, .float .f64 0, .string (⟨#[]⟩ : ByteArray), .slice none 0 0] 35 (0, 0)) (by refine bY ?_; exact BK119.out) k_ hk⟩))
  (case aO => exact ((Kd.R_nil _ _ _ _ (fun k_ => k_ ≠ gb118 ∧ k_ ≠ gb119))))
  (case aS => exact (below_size belS))
  (case aL => have := LMc4.out; omega)
  intro v131 w14 ho hb hg hat
  rw [← Ny130.out] at ho
  have n0_ := Aside0.mk (blk_grown (g := gb117) (o := .cells #[.slice A1_0 l1_0.length c1_0] 101 (0, 0)) (by refine bY ?_; exact BK117.out) hg (by simp [Value.ownBlock]))
  have n1_ := Aside0.mk (blk_grown (g := gb118) (o := .cells #[.string (⟨#[]⟩ : ByteArray), .int .i64 0, .bool false, .int .i64 0, .int .u64 0, .float .f64 0, .string (⟨#[]⟩ : ByteArray), .slice none 0 0] 35 (0, 0)) (by refine bY ?_; exact BK118.out) hg (by simp [Value.ownBlock]))
  have n2_ := Aside0.mk (blk_grown (g := gb119) (o := .cells #[.string a0, .int .i64 8, .bool false, .int .i64 0, .int .u64 0, .float .f64 0, .string (⟨#[]⟩ : ByteArray), .slice none 0 0] 35 (0, 0)) (by refine bY ?_; exact BK119.out) hg (by simp [Value.ownBlock]))
  have n3_ := Aside0.mk (hb)
  have n4_ := Aside0.mk (ho)
  clear BK117
  clear BK118
  clear BK119
  clear HB
  clear HO129
  have BK117 := n0_
  have BK118 := n1_
  have BK119 := n2_
  have HB := n3_
  have HO132 := n4_
  clear n0_ n1_ n2_ n3_ n4_
  clear ho hb hg hat
  obtain ⟨Ao16, co16, eo16⟩ := Kd.R_slice HO132.out
  (first | subst eo16 | (injection eo16 with f1_ f2_ f3_; have f4_ := f1_.symm; have f5_ := f3_.symm; clear f1_ f2_ f3_; subst f4_; subst f5_))
  refine hK.out _ _ ⟨(blk_cell BK119.out 0).trans rfl, (blk_cell BK119.out 1).trans rfl, (blk_cell BK119.out 2).trans rfl, (blk_cell BK119.out 3).trans rfl, (blk_cell BK119.out 4).trans rfl, (blk_cell BK119.out 5).trans rfl, (blk_cell BK119.out 6).trans rfl, (blk_cell BK119.out 7).trans rfl, (blk_cell BK117.out 0).trans rfl⟩ (fun hHeld => ?_)
  clear hK K
  refine norm_ (a' := ?_) ?_ ?_
  rotate_left
  ·show Act.put _ (some 14) _ = _
   simp only [Act.put, sA, s0, s1, i64_w, i32_w]
   rfl
  refine pure_ (i := 7) (N := some 15) (v := ?_) (a' := ?_) (tfA 8 1) rfl rfl (any_of HT_.out (by kernel_rfl)) (fun _ _ _ h => h) (Or.inl ⟨by rfl, ?_⟩) ?_ ?_
  rotate_left
  ·intro w'
   go_simp
   with_reducible rfl
  rotate_left
  ·simp only [Act.put, sA, s0, s1, i64_w, i32_w]
   rfl
  refine last_ (i := 8) (N := none) (tfA 9 0) rfl rfl (one_of HT_.out (by kernel_rfl)) (by decide) (fun K hK => ?_)
  have hs17 : w14.cell? ⟨gb119, 7, none⟩ = some (.slice none 0 0) := (blk_cell BK119.out 7).trans rfl
  have hfs17 := blk_frozen BK119.out 7
  have hns17_0 := NB117_119.out
  have hns17_1 := NB118_119.out
  have hms17_0 := NB119_117.out
  have hms17_1 := NB119_118.out
  refine skip_ (w1 := ?_) (by rfl) rfl ?_ ?_
  rotate_left
  ·go_simp
   rfl
  refine hK.out _ _ ?_
  clear hK K
  refine done_ (done_of HT_.out (by kernel_rfl)) ?_
  obtain ⟨hcz18_0, hcz18_1, hcz18_2, hcz18_3, hcz18_4, hcz18_5, hcz18_6, hcz18_7, hfz18_0, hfz18_1, hfz18_2, hfz18_3, hfz18_4, hfz18_5, hfz18_6, hfz18_7⟩ := rows8 (w := w14) BK119
  have hnb19 := NB118_117.out
  have hnc19 := NB117_118.out
  obtain ⟨hcz20_0, hcz20_1, hcz20_2, hcz20_3, hcz20_4, hcz20_5, hcz20_6, hcz20_7, hfz20_0, hfz20_1, hfz20_2, hfz20_3, hfz20_4, hfz20_5, hfz20_6, hfz20_7⟩ := rows8 (w := w14) BK118
  try go_wp2
  refine bodyPost_ret (results_cell_row rfl _ _ gb118 35 #[.string a0, .int .i64 8, .bool false, .int .i64 0, .int .u64 0, .float .f64 0, .string (⟨#[]⟩ : ByteArray), .slice Ao16 y130.length co16] (0, 0) _ rfl (by refine bY ?_; refine blk_put (cs := #[.string a0, .int .i64 8, .bool false, .int .i64 0, .int .u64 0, .float .f64 0, .string (⟨#[]⟩ : ByteArray), .slice none 0 0]) ?_ 7 _ rfl; refine bY ?_; refine blk_put (cs := #[.string a0, .int .i64 8, .bool false, .int .i64 0, .int .u64 0, .float .f64 0, .string (⟨#[]⟩ : ByteArray), .slice none 0 0]) ?_ 6 _ rfl; refine bY ?_; refine blk_put (cs := #[.string a0, .int .i64 8, .bool false, .int .i64 0, .int .u64 0, .float .f64 0, .string (⟨#[]⟩ : ByteArray), .slice none 0 0]) ?_ 5 _ rfl; refine bY ?_; refine blk_put (cs := #[.string a0, .int .i64 8, .bool false, .int .i64 0, .int .u64 0, .float .f64 0, .string (⟨#[]⟩ : ByteArray), .slice none 0 0]) ?_ 4 _ rfl; refine bY ?_; refine blk_put (cs := #[.string a0, .int .i64 8, .bool false, .int .i64 0, .int .u64 0, .float .f64 0, .string (⟨#[]⟩ : ByteArray), .slice none 0 0]) ?_ 3 _ rfl; refine bY ?_; refine blk_put (cs := #[.string a0, .int .i64 8, .bool false, .int .i64 0, .int .u64 0, .float .f64 0, .string (⟨#[]⟩ : ByteArray), .slice none 0 0]) ?_ 2 _ rfl; refine bY ?_; refine blk_put (cs := #[.string a0, .int .i64 0, .bool false, .int .i64 0, .int .u64 0, .float .f64 0, .string (⟨#[]⟩ : ByteArray), .slice none 0 0]) ?_ 1 _ rfl; refine bY ?_; refine blk_put (cs := #[.string (⟨#[]⟩ : ByteArray), .int .i64 0, .bool false, .int .i64 0, .int .u64 0, .float .f64 0, .string (⟨#[]⟩ : ByteArray), .slice none 0 0]) ?_ 0 _ rfl; refine bY ?_; refine blk_far ?_ NB118_119.out _; refine bY ?_; exact BK118.out) Tryz.underlying35 rfl (by kernel_rfl)) rfl ?_
  exact ⟨_, by first | rfl | (simp [errW_none, errW_some] <;> rfl) | (simp [*, errW_none, errW_some] <;> rfl), by (with_reducible repeat (first | apply Kd.R_alloc | apply Kd.R_drewN | apply Kd.R_drew)); exact Kd.R_mono (Kd.R_far8 (g := gb118) (Kd.R_far (p := ⟨gb119, 7, none⟩) (Kd.R_mono (Kd.R_mono HO132.out (fun k_ hk => (⟨hk, hk.2⟩ : _ ∧ k_ ≠ gb119))) (fun k_ hk => (⟨hk, hk.1.1⟩ : _ ∧ k_ ≠ gb118))) (fun _ hk => hk.1.2) (.slice Ao16 y130.length co16)) (fun _ hk => hk.2) (.string a0) (.int .i64 8) (.bool false) (.int .i64 0) (.int .u64 0) (.float .f64 0) (.string (⟨#[]⟩ : ByteArray)) (.slice Ao16 y130.length co16)) (fun _ hk => trivial), by repeat (first | (with_reducible first | exact HB.out | apply below_alloc | apply pw_below_drewN | apply below_drew1 | refine below_set ?_ GE117.out | refine below_set ?_ GE118.out | refine below_set ?_ GE119.out) | exact HB.out)⟩
 ·rw [if_neg c4] at H
  exact absurd H (by simp)

end Go.Proofs.YtdmpbaanonafbaaGreatDoor.X
