/- impl.Statm by hand, in the print's form: the door's defer and recover; what is told: texts that are read without an error. -/
import Derived.Test.YtdmpbaanonafbaaGreatDoorE1
import Derived.Test.YtdmpbaanonafbaaGreatDoorF1
import Derived.Tactics
import Derived.Tactics2
import Derived.Defers
import Derived.Recover
import Derived.Laws.Pointers
namespace Go.Proofs.YtdmpbaanonafbaaGreatDoor.DoorStatm
open Go.RowKit Go.Proofs.YtdmpbaanonafbaaGreatDoorW.PrintWords Go.Proofs.YtdmpbaanonafbaaGreatDoorW.PrintLast Go.Proofs.YtdmpbaanonafbaaGreatDoor.Flt Go.Proofs.YtdmpbaanonafbaaGreatDoor.GivZ Go.Proofs.YtdmpbaanonafbaaGreatDoorW.PrintMore Go.Proofs.YtdmpbaanonafbaaGreatDoor.E
attribute [local go_sem] max2_int min2_int max_two min_two max_three min_three max_four min_four
set_option linter.unusedVariables false
set_option linter.unusedSimpArgs false

set_option maxRecDepth 100000 in
theorem catch_idle (p q : Addr) (w : World) :
    CallsD Tryz.prog 129 #[.pointer (some p), .pointer (some q)] .returning w fun e u' w' => e = .returned (.tuple #[]) ∧ u' = .returning ∧ w' = w := by
  refine callsD_of_wpS Tryz.func129 rfl fun c₀ cs hu => ?_
  apply wpS_seq
  apply wpS_region
  simp [wpOpsS, go_sem, recoverD, hu, Tryz.ntmps129, Exit.thenS]
  refine wpS_cond (t := false) (by simp [Act.eval, Array.replicate]) ?_
  simp only [Bool.false_eq_true, if_false]
  refine wpS_of_wp (wp_skip ?_)
  cases c₀
  simp_all [bodyPostS, results, Tryz.results129]

set_option maxHeartbeats 8000000 in
set_option maxRecDepth 100000 in
theorem tree_is (k : Nat) (p0 : Int) (p1 : ByteArray) (r1 r2 r3 r4 r5 r6 r7 r8 : Int) (n1 : ByteArray) (n2 : Int) (n3 : Bool) (n4 n5 : Int) (n6 : Nat) (n7 : ByteArray) (n8 : List S35) (w : World)
    (h : procfs_Proc_Statm.f k p0 p1 = some (r1, r2, r3, r4, r5, r6, r7, r8, none)) (h2 : impl_Statm_1.f r1 r2 r3 r4 r5 r6 r7 r8 = some (n1, n2, n3, n4, n5, n6, n7, n8)) (hTabs : Tabs w) :
    Calls Tryz.prog 67 #[.func (.func 69) #[.agg #[.int .i64 p0, .string p1]] #[], .func (.func 70) #[] #[]] w fun e w' =>
      ∃ v7_ : Value, e = .returned (.tuple #[.agg #[.string n1, .int .i64 n2, .bool n3, .int .i64 n4, .int .u64 n5, .float .f64 n6, .string n7, v7_], .int .i64 0]) ∧ Kd.R k35 35 w' w.heap.size (fun _ => True) v7_ n8 ∧ Below w.heap.size w w' := by
  have hmf : ∀ (fn : Fn) (first cap : Array Value) (w : World), (Instr.makeFunc fn first cap).run Tryz.prog w = .ok (.func fn first cap) w := fun _ _ _ _ => rfl
  have hu35 := Tryz.underlying35
  have HA := Aside0.mk h
  have HA2 := Aside0.mk h2
  clear h h2
  have HB := Aside0.mk (Below.refl w.heap.size w)
  go_enter_defers Tryz.func67, Tryz.ntmps67
  go_wp2_with (first
    | ((with_reducible refine gate_dst (N := 4) rfl ?_); refine box_event ?hg (N := 4) ?hd (cs := #[.string (⟨#[]⟩ : ByteArray), .int .i64 0, .bool false, .int .i64 0, .int .u64 0, .float .f64 0, .string (⟨#[]⟩ : ByteArray), .slice none 0 0]) (t := 35) ?hr ?_; (case hd => rfl); (case hg => rfl); (case hr => first | (go_simp; done) | (go_simp; rfl)); intro g4 hg w1 hbox hb
       have BK4 := Aside0.mk hbox
       have GE4 := Aside0.mk (show w.heap.size ≤ g4 by rw [hg]; exact below_size HB.out)
       have n0 := Aside0.mk (below_step HB.out hb); clear HB; have HB := n0; clear n0 hb hbox hg)
    | ((with_reducible refine gate_dst (N := 5) rfl ?_); refine box_event ?hg (N := 5) ?hd (cs := #[.int .i64 0]) (t := 3) ?hr ?_; (case hd => rfl); (case hg => rfl); (case hr => first | (go_simp; done) | (go_simp; rfl)); intro g5 hg w2 hbox hb
       have BK5 := Aside0.mk hbox
       have NE := Aside0.mk (show g4 ≠ g5 by rw [hg]; exact Nat.ne_of_lt (blk_lt BK4.out))
       have n1 := Aside0.mk (blk_below BK4.out hb); clear BK4; have BK4 := n1; clear n1
       have GE5 := Aside0.mk (show w.heap.size ≤ g5 by rw [hg]; exact below_size HB.out)
       have n0 := Aside0.mk (below_step HB.out hb); clear HB; have HB := n0; clear n0 hb hbox hg)
    | (go_at_call 69; refine (procfs_Proc_Statm.calls k p0 p1 r1 r2 r3 r4 r5 r6 r7 r8 none _ HA.out (Tabs.below hTabs HB.out)).mono ?_; rintro e w3 ⟨rfl, hb⟩; try simp only [errW_none]
       have n1 := Aside0.mk (blk_below BK4.out hb); clear BK4; have BK4 := n1; clear n1
       have n1 := Aside0.mk (blk_below BK5.out hb); clear BK5; have BK5 := n1; clear n1
       have n0 := Aside0.mk (below_step HB.out hb); clear HB; have HB := n0; clear n0 hb)
    | ((with_reducible refine gate_dst (N := 6) rfl ?_); refine box_event ?hg (N := 6) ?hd (cs := #[.int .i64 0, .int .u64 0, .int .u64 0, .int .u64 0, .int .u64 0, .int .u64 0, .int .u64 0, .int .u64 0]) (t := 86) ?hr ?_; (case hd => rfl); (case hg => rfl); (case hr => first | (go_simp; done) | (go_simp; rfl)); intro g6 hg w4 hbox hb
       have hc0 : w4.cell? ⟨g6, 0, none⟩ = some (.int .i64 0) := (blk_cell hbox 0).trans rfl
       have hf0 := blk_frozen hbox 0
       have hc1 : w4.cell? ⟨g6, 1, none⟩ = some (.int .u64 0) := (blk_cell hbox 1).trans rfl
       have hf1 := blk_frozen hbox 1
       have hc2 : w4.cell? ⟨g6, 2, none⟩ = some (.int .u64 0) := (blk_cell hbox 2).trans rfl
       have hf2 := blk_frozen hbox 2
       have hc3 : w4.cell? ⟨g6, 3, none⟩ = some (.int .u64 0) := (blk_cell hbox 3).trans rfl
       have hf3 := blk_frozen hbox 3
       have hc4 : w4.cell? ⟨g6, 4, none⟩ = some (.int .u64 0) := (blk_cell hbox 4).trans rfl
       have hf4 := blk_frozen hbox 4
       have hc5 : w4.cell? ⟨g6, 5, none⟩ = some (.int .u64 0) := (blk_cell hbox 5).trans rfl
       have hf5 := blk_frozen hbox 5
       have hc6 : w4.cell? ⟨g6, 6, none⟩ = some (.int .u64 0) := (blk_cell hbox 6).trans rfl
       have hf6 := blk_frozen hbox 6
       have hc7 : w4.cell? ⟨g6, 7, none⟩ = some (.int .u64 0) := (blk_cell hbox 7).trans rfl
       have hf7 := blk_frozen hbox 7
       have GE6 := Aside0.mk (show w.heap.size ≤ g6 by rw [hg]; exact below_size HB.out)
       have NE46 := Aside0.mk (show g4 ≠ g6 by rw [hg]; exact Nat.ne_of_lt (blk_lt BK4.out))
       have NE56 := Aside0.mk (show g5 ≠ g6 by rw [hg]; exact Nat.ne_of_lt (blk_lt BK5.out))
       have n1 := Aside0.mk (blk_below BK4.out hb); clear BK4; have BK4 := n1; clear n1
       have n1 := Aside0.mk (blk_below BK5.out hb); clear BK5; have BK5 := n1; clear n1
       have n0 := Aside0.mk (below_step HB.out hb); clear HB; have HB := n0; clear n0 hb hbox hg))
  clear hc0 hf0 hc1 hf1 hc2 hf2 hc3 hf3 hc4 hf4 hc5 hf5 hc6 hf6 hc7 hf7
  refine (impl_Statm_1.calls r1 r2 r3 r4 r5 r6 r7 r8 n1 n2 n3 n4 n5 n6 n7 n8 _ HA2.out).mono ?_
  rintro e w5 ⟨v7, rfl, ho, hb⟩
  have B4 := blk_below (g := g4) (o := .cells #[.string (⟨#[]⟩ : ByteArray), .int .i64 0, .bool false, .int .i64 0, .int .u64 0, .float .f64 0, .string (⟨#[]⟩ : ByteArray), .slice none 0 0] 35 (0, 0)) (by refine blk_far (p := ⟨g6, 7, none⟩) ?_ NE46.out _; refine blk_far (p := ⟨g6, 6, none⟩) ?_ NE46.out _; refine blk_far (p := ⟨g6, 5, none⟩) ?_ NE46.out _; refine blk_far (p := ⟨g6, 4, none⟩) ?_ NE46.out _; refine blk_far (p := ⟨g6, 3, none⟩) ?_ NE46.out _; refine blk_far (p := ⟨g6, 2, none⟩) ?_ NE46.out _; refine blk_far (p := ⟨g6, 1, none⟩) ?_ NE46.out _; refine blk_far (p := ⟨g6, 0, none⟩) ?_ NE46.out _; exact BK4.out) hb
  have B5 := blk_below (g := g5) (o := .cells #[.int .i64 0] 3 (0, 0)) (by refine blk_far (p := ⟨g6, 7, none⟩) ?_ NE56.out _; refine blk_far (p := ⟨g6, 6, none⟩) ?_ NE56.out _; refine blk_far (p := ⟨g6, 5, none⟩) ?_ NE56.out _; refine blk_far (p := ⟨g6, 4, none⟩) ?_ NE56.out _; refine blk_far (p := ⟨g6, 3, none⟩) ?_ NE56.out _; refine blk_far (p := ⟨g6, 2, none⟩) ?_ NE56.out _; refine blk_far (p := ⟨g6, 1, none⟩) ?_ NE56.out _; refine blk_far (p := ⟨g6, 0, none⟩) ?_ NE56.out _; exact BK5.out) hb
  have HB4 := (by refine below_set ?_ GE6.out; refine below_set ?_ GE6.out; refine below_set ?_ GE6.out; refine below_set ?_ GE6.out; refine below_set ?_ GE6.out; refine below_set ?_ GE6.out; refine below_set ?_ GE6.out; refine below_set ?_ GE6.out; exact HB.out : Below w.heap.size w ((((((((w4.setCell ⟨g6, 0, none⟩ (.int .i64 r1)).setCell ⟨g6, 1, none⟩ (.int .u64 r2)).setCell ⟨g6, 2, none⟩ (.int .u64 r3)).setCell ⟨g6, 3, none⟩ (.int .u64 r4)).setCell ⟨g6, 4, none⟩ (.int .u64 r5)).setCell ⟨g6, 5, none⟩ (.int .u64 r6)).setCell ⟨g6, 6, none⟩ (.int .u64 r7)).setCell ⟨g6, 7, none⟩ (.int .u64 r8)))
  have HB5 := below_step HB4 hb
  have HR := Kd.R_newB (Kd.R_newB ho (g := g4) (o := .cells #[.string (⟨#[]⟩ : ByteArray), .int .i64 0, .bool false, .int .i64 0, .int .u64 0, .float .f64 0, .string (⟨#[]⟩ : ByteArray), .slice none 0 0] 35 (0, 0)) (by refine blk_far (p := ⟨g6, 7, none⟩) ?_ NE46.out _; refine blk_far (p := ⟨g6, 6, none⟩) ?_ NE46.out _; refine blk_far (p := ⟨g6, 5, none⟩) ?_ NE46.out _; refine blk_far (p := ⟨g6, 4, none⟩) ?_ NE46.out _; refine blk_far (p := ⟨g6, 3, none⟩) ?_ NE46.out _; refine blk_far (p := ⟨g6, 2, none⟩) ?_ NE46.out _; refine blk_far (p := ⟨g6, 1, none⟩) ?_ NE46.out _; refine blk_far (p := ⟨g6, 0, none⟩) ?_ NE46.out _; exact BK4.out)) (g := g5) (o := .cells #[.int .i64 0] 3 (0, 0)) (by refine blk_far (p := ⟨g6, 7, none⟩) ?_ NE56.out _; refine blk_far (p := ⟨g6, 6, none⟩) ?_ NE56.out _; refine blk_far (p := ⟨g6, 5, none⟩) ?_ NE56.out _; refine blk_far (p := ⟨g6, 4, none⟩) ?_ NE56.out _; refine blk_far (p := ⟨g6, 3, none⟩) ?_ NE56.out _; refine blk_far (p := ⟨g6, 2, none⟩) ?_ NE56.out _; refine blk_far (p := ⟨g6, 1, none⟩) ?_ NE56.out _; refine blk_far (p := ⟨g6, 0, none⟩) ?_ NE56.out _; exact BK5.out)
  have HR2 := Aside0.mk (Kd.R_lower HR (below_size HB4))
  have HBW := Aside0.mk HB5
  obtain ⟨A7, c7, e7⟩ := Kd.R_slice HR2.out
  subst e7
  have hne := NE.out
  have hne2 := NE.out.symm
  have xc0 : w5.cell? ⟨g4, 0, none⟩ = some (.string (⟨#[]⟩ : ByteArray)) := (blk_cell B4 0).trans rfl
  have xf0 := blk_frozen B4 0
  have xc1 : w5.cell? ⟨g4, 1, none⟩ = some (.int .i64 0) := (blk_cell B4 1).trans rfl
  have xf1 := blk_frozen B4 1
  have xc2 : w5.cell? ⟨g4, 2, none⟩ = some (.bool false) := (blk_cell B4 2).trans rfl
  have xf2 := blk_frozen B4 2
  have xc3 : w5.cell? ⟨g4, 3, none⟩ = some (.int .i64 0) := (blk_cell B4 3).trans rfl
  have xf3 := blk_frozen B4 3
  have xc4 : w5.cell? ⟨g4, 4, none⟩ = some (.int .u64 0) := (blk_cell B4 4).trans rfl
  have xf4 := blk_frozen B4 4
  have xc5 : w5.cell? ⟨g4, 5, none⟩ = some (.float .f64 0) := (blk_cell B4 5).trans rfl
  have xf5 := blk_frozen B4 5
  have xc6 : w5.cell? ⟨g4, 6, none⟩ = some (.string (⟨#[]⟩ : ByteArray)) := (blk_cell B4 6).trans rfl
  have xf6 := blk_frozen B4 6
  have xc7 : w5.cell? ⟨g4, 7, none⟩ = some (.slice none 0 0) := (blk_cell B4 7).trans rfl
  have xf7 := blk_frozen B4 7
  have yc0 : w5.cell? ⟨g5, 0, none⟩ = some (.int .i64 0) := (blk_cell B5 0).trans rfl
  have yf0 := blk_frozen B5 0
  clear B4 B5 HR HB5 ho hb BK4 BK5 HB HB4
  go_wp2
  refine leaves_cons (f := 129) (args := #[.pointer (some ⟨g4, 0, none⟩), .pointer (some ⟨g5, 0, none⟩)]) (by simp) (by simp [go_sem]) ?_
  refine (catch_idle ⟨g4, 0, none⟩ ⟨g5, 0, none⟩ _).mono ?_
  rintro e u' w'' ⟨rfl, rfl, rfl⟩
  simp [Leaves, settle, results, Tryz.results67, go_sem, xc0, xc1, xc2, xc3, xc4, xc5, xc6, xc7, yc0, hne, hne2]
  refine ⟨Kd.R_mono (ok := fun k => (True ∧ k ≠ g4) ∧ k ≠ g5) (by refine Kd.R_far (p := ⟨g5, 0, none⟩) ?_ (fun _ hk => hk.2) _; refine Kd.R_far8 (g := g4) ?_ (fun _ hk => hk.1.2) _ _ _ _ _ _ _ _; exact HR2.out) (fun _ _ => trivial), by refine below_set ?_ GE5.out; refine below_set ?_ GE4.out; refine below_set ?_ GE4.out; refine below_set ?_ GE4.out; refine below_set ?_ GE4.out; refine below_set ?_ GE4.out; refine below_set ?_ GE4.out; refine below_set ?_ GE4.out; refine below_set ?_ GE4.out; exact HBW.out⟩

def impl_Statm.f (a0 : ByteArray) : Option (ByteArray × Int × Bool × Int × Int × Nat × ByteArray × List S35 × Int) :=
  (procfs_Proc_Statm.f (a0.size + 5) 0 a0).bind fun b => if b.2.2.2.2.2.2.2.2 = none then (impl_Statm_1.f b.1 b.2.1 b.2.2.1 b.2.2.2.1 b.2.2.2.2.1 b.2.2.2.2.2.1 b.2.2.2.2.2.2.1 b.2.2.2.2.2.2.2.1).bind fun n => some (n.1, n.2.1, n.2.2.1, n.2.2.2.1, n.2.2.2.2.1, n.2.2.2.2.2.1, n.2.2.2.2.2.2.1, n.2.2.2.2.2.2.2, 0) else none

set_option maxHeartbeats 8000000 in
set_option maxRecDepth 100000 in
theorem impl_Statm.calls (a0 : ByteArray) (n1 : ByteArray) (n2 : Int) (n3 : Bool) (n4 n5 : Int) (n6 : Nat) (n7 : ByteArray) (n8 : List S35) (n9 : Int) (w : World) (h : impl_Statm.f a0 = some (n1, n2, n3, n4, n5, n6, n7, n8, n9)) (hTabs : Tabs w := by first | exact hTabs | exact Tabs.below hTabs (by repeat (first | (with_reducible first | exact HB.out | apply below_alloc | apply pw_below_drewN | apply below_drew1 | refine below_set ?_ (Aside0.out (by assumption))) | exact HB.out))) :
    Calls Tryz.prog 20 #[.string a0] w fun e w' =>
      ∃ v7_ : Value, e = .returned (.tuple #[.agg #[.string n1, .int .i64 n2, .bool n3, .int .i64 n4, .int .u64 n5, .float .f64 n6, .string n7, v7_], .int .i64 n9]) ∧ Kd.R k35 35 w' w.heap.size (fun _ => True) v7_ n8 ∧ Below w.heap.size w w' := by
  have hmf : ∀ (fn : Fn) (first cap : Array Value) (w : World), (Instr.makeFunc fn first cap).run Tryz.prog w = .ok (.func fn first cap) w := fun _ _ _ _ => rfl
  have hu35 := Tryz.underlying35
  unfold impl_Statm.f at h
  obtain ⟨⟨r1, r2, r3, r4, r5, r6, r7, r8, re⟩, h1, h⟩ := Option.bind_eq_some_iff.1 h
  dsimp only at h
  by_cases c : re = none
  · rw [if_pos c] at h
    subst c
    obtain ⟨⟨m1, m2, m3, m4, m5, m6, m7, m8⟩, h2, h⟩ := Option.bind_eq_some_iff.1 h
    simp only [Option.some.injEq, Prod.mk.injEq] at h
    obtain ⟨rfl, rfl, rfl, rfl, rfl, rfl, rfl, rfl, rfl⟩ := h
    have HA := Aside0.mk h1
    have HA2 := Aside0.mk h2
    clear h1 h2
    have HB := Aside0.mk (Below.refl w.heap.size w)
    go_enter Tryz.func20, Tryz.ntmps20
    go_wp2_with (first
      | ((with_reducible refine gate_dst (N := 2) rfl ?_); refine box_event ?hg (N := 2) ?hd (cs := #[.string (⟨#[]⟩ : ByteArray), .int .i64 0, .bool false, .int .i64 0, .int .u64 0, .float .f64 0, .string (⟨#[]⟩ : ByteArray), .slice none 0 0]) (t := 35) ?hr ?_; (case hd => rfl); (case hg => rfl); (case hr => first | (go_simp; done) | (go_simp; rfl)); intro g4 hg w1 hbox hb
         have BK4 := Aside0.mk hbox
         have GE4 := Aside0.mk (show w.heap.size ≤ g4 by rw [hg]; exact below_size HB.out)
         have n0 := Aside0.mk (below_step HB.out hb); clear HB; have HB := n0; clear n0 hb hbox hg)
      | (go_at_call 68; refine (F.procfs_TextProc.calls a0 0 a0 _ rfl).mono ?_; rintro e w2 ⟨rfl, hb⟩
         have n1 := Aside0.mk (blk_below BK4.out hb); clear BK4; have BK4 := n1; clear n1
         have n0 := Aside0.mk (below_step HB.out hb); clear HB; have HB := n0; clear n0 hb))
    refine (tree_is _ 0 a0 r1 r2 r3 r4 r5 r6 r7 r8 m1 m2 m3 m4 m5 m6 m7 m8 _ HA.out HA2.out (Tabs.below hTabs HB.out)).mono ?_
    rintro e w5 ⟨v7, rfl, ho, hb⟩
    have B4 := blk_below BK4.out hb
    have HR2 := Aside0.mk (Kd.R_lower (Kd.R_newB ho BK4.out) (below_size HB.out))
    have HBW := Aside0.mk (below_step HB.out hb)
    obtain ⟨A7, c7, e7⟩ := Kd.R_slice HR2.out
    subst e7
    have xc0 : w5.cell? ⟨g4, 0, none⟩ = some (.string (⟨#[]⟩ : ByteArray)) := (blk_cell B4 0).trans rfl
    have xf0 := blk_frozen B4 0
    have xc1 : w5.cell? ⟨g4, 1, none⟩ = some (.int .i64 0) := (blk_cell B4 1).trans rfl
    have xf1 := blk_frozen B4 1
    have xc2 : w5.cell? ⟨g4, 2, none⟩ = some (.bool false) := (blk_cell B4 2).trans rfl
    have xf2 := blk_frozen B4 2
    have xc3 : w5.cell? ⟨g4, 3, none⟩ = some (.int .i64 0) := (blk_cell B4 3).trans rfl
    have xf3 := blk_frozen B4 3
    have xc4 : w5.cell? ⟨g4, 4, none⟩ = some (.int .u64 0) := (blk_cell B4 4).trans rfl
    have xf4 := blk_frozen B4 4
    have xc5 : w5.cell? ⟨g4, 5, none⟩ = some (.float .f64 0) := (blk_cell B4 5).trans rfl
    have xf5 := blk_frozen B4 5
    have xc6 : w5.cell? ⟨g4, 6, none⟩ = some (.string (⟨#[]⟩ : ByteArray)) := (blk_cell B4 6).trans rfl
    have xf6 := blk_frozen B4 6
    have xc7 : w5.cell? ⟨g4, 7, none⟩ = some (.slice none 0 0) := (blk_cell B4 7).trans rfl
    have xf7 := blk_frozen B4 7
    have BW := Aside0.mk B4
    clear B4 ho hb BK4 HB
    go_wp2
    refine bodyPost_ret (results_ct rfl _ _ g4 35 #[.string m1, .int .i64 m2, .bool m3, .int .i64 m4, .int .u64 m5, .float .f64 m6, .string m7, .slice A7 m8.length c7] (0, 0) _ rfl (by exact blk_put8 BW.out) hu35 rfl rfl) rfl ?_
    exact ⟨_, rfl, Kd.R_mono (ok := fun k => True ∧ k ≠ g4) (by refine Kd.R_far8 (g := g4) ?_ (fun _ hk => hk.2) _ _ _ _ _ _ _ _; exact HR2.out) (fun _ _ => trivial), by refine below_set ?_ GE4.out; refine below_set ?_ GE4.out; refine below_set ?_ GE4.out; refine below_set ?_ GE4.out; refine below_set ?_ GE4.out; refine below_set ?_ GE4.out; refine below_set ?_ GE4.out; refine below_set ?_ GE4.out; exact HBW.out⟩
  · rw [if_neg c] at h; cases h
end Go.Proofs.YtdmpbaanonafbaaGreatDoor.DoorStatm
