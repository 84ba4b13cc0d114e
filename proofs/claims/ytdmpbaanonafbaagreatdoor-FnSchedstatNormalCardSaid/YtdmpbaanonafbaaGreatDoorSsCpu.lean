/- What impl makes of a processor's record behind a pointer, in the print's form. -/
import Derived.Test.YtdmpbaanonafbaaGreatDoorZ1
import Derived.Test.YtdmpbaanonafbaaGreatDoorSq
import Derived.Tactics
import Derived.Tactics2
import Derived.Defers
import Derived.Recover
import Derived.Laws.Pointers
import Derived.Lib.Hide
namespace Go.Proofs.YtdmpbaanonafbaaGreatDoor.SsCpu
open Go.RowKit Go.Proofs.YtdmpbaanonafbaaGreatDoorW.PrintWords Go.Proofs.YtdmpbaanonafbaaGreatDoorW.PrintLast Go.Proofs.YtdmpbaanonafbaaGreatDoor.Flt Go.Proofs.YtdmpbaanonafbaaGreatDoor.GivZ Go.Proofs.YtdmpbaanonafbaaGreatDoorW.PrintMore Go.Proofs.YtdmpbaanonafbaaGreatDoor.E Go.Proofs.YtdmpbaanonafbaaGreatDoor.Z
attribute [local go_sem] max2_int min2_int max_two min_two max_three min_three max_four min_four
set_option linter.unusedVariables false
set_option linter.unusedSimpArgs false

/-- What is kept of a processor. -/
structure Cpu where
  f0 : ByteArray
  f1 : Int
  f2 : Int
  f3 : Int
/-- A pointer to a processor's record: each in a block of its own. -/
def pcpu : Kd Cpu where
  sz := 1
  E := [174]
  K := fun w x cs => ∃ g, cs = [.pointer (some ⟨g, 0, none⟩)] ∧ w.heap[g]? = some (.cells #[.string x.f0, .int .u64 x.f1, .int .u64 x.f2, .int .u64 x.f3] 174 (0, 0))
  M := fun w base ok x cs => ∃ g, cs = [.pointer (some ⟨g, 0, none⟩)] ∧ base ≤ g ∧ ok g ∧ w.heap[g]? = some (.cells #[.string x.f0, .int .u64 x.f1, .int .u64 x.f2, .int .u64 x.f3] 174 (0, 0))
  K_len := by rintro w x cs ⟨g, rfl, _⟩; rfl
  K_one := by rintro w x cs ⟨g, rfl, _⟩ u hu; rw [List.mem_singleton.1 hu]; rfl
  K_below := by rintro w w1 x cs hb ⟨g, rfl, h⟩; exact ⟨g, rfl, blk_below h hb⟩
  K_of_M := by rintro w base ok x cs ⟨g, rfl, _, _, h⟩; exact ⟨g, rfl, h⟩
  M_mono := by rintro w base ok ok' x cs hok ⟨g, rfl, h1, h2, h3⟩; exact ⟨g, rfl, h1, hok g h2, h3⟩
  M_bound := by rintro w base ok x cs ⟨g, rfl, h1, h2, h3⟩; exact ⟨g, rfl, h1, ⟨h2, h1, blk_lt h3, _, List.mem_singleton.2 rfl, _, h3⟩, h3⟩
  M_move := by rintro w w1 base ok x cs hm ⟨g, rfl, h1, h2, h3⟩; exact ⟨g, rfl, h1, h2, (hm g h2).trans h3⟩
  M_lower := by rintro w base base' ok x cs hb ⟨g, rfl, h1, h2, h3⟩; exact ⟨g, rfl, Nat.le_trans hb h1, h2, h3⟩
theorem at_pcpu {w : World} {A : Option Addr} {n : Nat} {xs : List Cpu} (h : pcpu.C w A n xs) (d : Cpu) (i : Int) (h0 : 0 ≤ i) (h1 : i < n) : ∃ ad g, A = some ad ∧ w.cell? (ad.add i.toNat) = some (.pointer (some ⟨g, 0, none⟩)) ∧ w.heap[g]? = some (.cells #[.string (xs.getD i.toNat d).f0, .int .u64 (xs.getD i.toNat d).f1, .int .u64 (xs.getD i.toNat d).f2, .int .u64 (xs.getD i.toNat d).f3] 174 (0, 0)) := by
  obtain ⟨ad, c, e, hl, ⟨g, rfl, hg⟩, hc⟩ := Kd.C_get h d i h0 h1
  refine ⟨ad, g, e, ?_, hg⟩
  have := hc 0 _ rfl
  rw [show i.toNat * pcpu.sz + 0 = i.toNat from by simp [pcpu]] at this
  exact this
set_option maxHeartbeats 8000000 in
set_option maxRecDepth 100000 in
theorem pointer_is (g : Nat) (a : ByteArray) (x y z : Int) (n1 : ByteArray) (n2 : Int) (n3 : Bool) (n4 n5 : Int) (n6 : Nat) (n7 : ByteArray) (n8 : List S35) (w : World)
    (hL : w.heap[g]? = some (.cells #[.string a, .int .u64 x, .int .u64 y, .int .u64 z] 174 (0, 0))) (h : impl_procfsSchedstat_1_1.f ByteArray.empty a x y z = some (n1, n2, n3, n4, n5, n6, n7, n8)) :
    Calls Tryz.prog 140 #[.string ByteArray.empty, .pointer (some ⟨g, 0, none⟩), .func (.func 141) #[] #[]] w fun e w' => ∃ v7_ : Value, e = .returned (.agg #[.string n1, .int .i64 n2, .bool n3, .int .i64 n4, .int .u64 n5, .float .f64 n6, .string n7, v7_]) ∧ Kd.R k35 35 w' w.heap.size (fun _ => True) v7_ n8 ∧ Below w.heap.size w w' := by
  have hu35 := Tryz.underlying35
  have hu66 := Tryz.underlying174
  have HL := Aside0.mk hL
  have HH := Aside0.mk h
  clear hL h
  have HB := Aside0.mk (Below.refl w.heap.size w)
  go_enter Tryz.func140, Tryz.ntmps140
  go_wp2_with (first
    | ((with_reducible refine gate_dst (N := 6) rfl ?_); refine box_event ?hg (N := 6) ?hd (cs := #[.string (⟨#[]⟩ : ByteArray), .int .i64 0, .bool false, .int .i64 0, .int .u64 0, .float .f64 0, .string (⟨#[]⟩ : ByteArray), .slice none 0 0]) (t := 35) ?hr ?_; (case hd => rfl); (case hg => rfl); (case hr => first | (go_simp; done) | (go_simp; rfl)); intro g4 hg w1 hbox hb
       have n1' := Aside0.mk (blk_below HL.out hb); clear HL; have HL := n1'; clear n1'
       have hx0 : w1.cell? ⟨g, 0, none⟩ = some (.string a) := (blk_cell HL.out 0).trans rfl
       have hy0 := blk_frozen HL.out 0
       have hx1 : w1.cell? ⟨g, 1, none⟩ = some (.int .u64 x) := (blk_cell HL.out 1).trans rfl
       have hy1 := blk_frozen HL.out 1
       have hx2 : w1.cell? ⟨g, 2, none⟩ = some (.int .u64 y) := (blk_cell HL.out 2).trans rfl
       have hy2 := blk_frozen HL.out 2
       have hx3 : w1.cell? ⟨g, 3, none⟩ = some (.int .u64 z) := (blk_cell HL.out 3).trans rfl
       have hy3 := blk_frozen HL.out 3
       have BK4 := Aside0.mk hbox
       have GE4 := Aside0.mk (show w.heap.size ≤ g4 by rw [hg]; exact below_size HB.out)
       have n0 := Aside0.mk (below_step HB.out hb); clear HB; have HB := n0; clear n0 hb hbox hg))
  refine (impl_procfsSchedstat_1_1.calls ByteArray.empty a x y z n1 n2 n3 n4 n5 n6 n7 n8 _ HH.out).mono ?_
  rintro e w5 ⟨v7, rfl, ho, hb⟩
  have B4 := blk_below BK4.out hb
  have HR2 := Aside0.mk (Kd.R_lower (Kd.R_newB ho BK4.out) (below_size HB.out))
  have HBW := Aside0.mk (below_step HB.out hb)
  obtain ⟨A7, c7, e7⟩ := Kd.R_slice HR2.out
  subst e7
  have xc0 : w5.cell? ⟨g4, 0, none⟩ = some (.string (⟨#[]⟩ : ByteArray)) := (blk_cell B4 0).trans rfl
  have xf0 := blk_frozen B4 0
  have xc1 : w5.cell? ⟨g4, 1, none⟩ = some (.int .i64 0) := (blk_cell B4 1).trans rfl
  have xf1 := blk_frozen B4 1
  have xc2 : w5.cell? ⟨g4, 2, none⟩ = some (.bool false) := (blk_cell B4 2).trans rfl
  have xf2 := blk_frozen B4 2
  have xc3 : w5.cell? ⟨g4, 3, none⟩ = some (.int .i64 0) := (blk_cell B4 3).trans rfl
  have xf3 := blk_frozen B4 3
  have xc4 : w5.cell? ⟨g4, 4, none⟩ = some (.int .u64 0) := (blk_cell B4 4).trans rfl
  have xf4 := blk_frozen B4 4
  have xc5 : w5.cell? ⟨g4, 5, none⟩ = some (.float .f64 0) := (blk_cell B4 5).trans rfl
  have xf5 := blk_frozen B4 5
  have xc6 : w5.cell? ⟨g4, 6, none⟩ = some (.string (⟨#[]⟩ : ByteArray)) := (blk_cell B4 6).trans rfl
  have xf6 := blk_frozen B4 6
  have xc7 : w5.cell? ⟨g4, 7, none⟩ = some (.slice none 0 0) := (blk_cell B4 7).trans rfl
  have xf7 := blk_frozen B4 7
  have BW := Aside0.mk B4
  clear B4 ho hb BK4 HB
  go_wp2
  refine bodyPost_ret (results_cell_row rfl _ _ g4 35 #[.string n1, .int .i64 n2, .bool n3, .int .i64 n4, .int .u64 n5, .float .f64 n6, .string n7, .slice A7 n8.length c7] (0, 0) _ rfl (by exact blk_put8 BW.out) hu35 rfl rfl) rfl ?_
  exact ⟨_, rfl, Kd.R_mono (ok := fun k => True ∧ k ≠ g4) (by refine Kd.R_far8 (g := g4) ?_ (fun _ hk => hk.2) _ _ _ _ _ _ _ _; exact HR2.out) (fun _ _ => trivial), by refine below_set ?_ GE4.out; refine below_set ?_ GE4.out; refine below_set ?_ GE4.out; refine below_set ?_ GE4.out; refine below_set ?_ GE4.out; refine below_set ?_ GE4.out; refine below_set ?_ GE4.out; refine below_set ?_ GE4.out; exact HBW.out⟩

set_option maxHeartbeats 8000000 in
set_option maxRecDepth 100000 in
theorem cpu1_is (g : Nat) (a : ByteArray) (x y z : Int) (n1 : ByteArray) (n2 : Int) (n3 : Bool) (n4 n5 : Int) (n6 : Nat) (n7 : ByteArray) (n8 : List S35) (w : World)
    (hL : w.heap[g]? = some (.cells #[.string a, .int .u64 x, .int .u64 y, .int .u64 z] 174 (0, 0))) (h : impl_procfsSchedstat_1_1.f ByteArray.empty a x y z = some (n1, n2, n3, n4, n5, n6, n7, n8)) :
    Calls Tryz.prog 139 #[.pointer (some ⟨g, 0, none⟩)] w fun e w' => ∃ v7_ : Value, e = .returned (.agg #[.string n1, .int .i64 n2, .bool n3, .int .i64 n4, .int .u64 n5, .float .f64 n6, .string n7, v7_]) ∧ Kd.R k35 35 w' w.heap.size (fun _ => True) v7_ n8 ∧ Below w.heap.size w w' := by
  have hu35 := Tryz.underlying35
  have HL := Aside0.mk hL
  have HH := Aside0.mk h
  clear hL h
  have HB := Aside0.mk (Below.refl w.heap.size w)
  go_enter Tryz.func139, Tryz.ntmps139
  go_wp2_with (first
    | ((with_reducible refine gate_dst (N := 2) rfl ?_); refine box_event ?hg (N := 2) ?hd (cs := #[.string (⟨#[]⟩ : ByteArray), .int .i64 0, .bool false, .int .i64 0, .int .u64 0, .float .f64 0, .string (⟨#[]⟩ : ByteArray), .slice none 0 0]) (t := 35) ?hr ?_; (case hd => rfl); (case hg => rfl); (case hr => first | (go_simp; done) | (go_simp; rfl)); intro g4 hg w1 hbox hb
       have n1' := Aside0.mk (blk_below HL.out hb); clear HL; have HL := n1'; clear n1'
       have BK4 := Aside0.mk hbox
       have GE4 := Aside0.mk (show w.heap.size ≤ g4 by rw [hg]; exact below_size HB.out)
       have n0 := Aside0.mk (below_step HB.out hb); clear HB; have HB := n0; clear n0 hb hbox hg))
  refine (pointer_is g a x y z n1 n2 n3 n4 n5 n6 n7 n8 _ HL.out HH.out).mono ?_
  rintro e w5 ⟨v7, rfl, ho, hb⟩
  have B4 := blk_below BK4.out hb
  have HR2 := Aside0.mk (Kd.R_lower (Kd.R_newB ho BK4.out) (below_size HB.out))
  have HBW := Aside0.mk (below_step HB.out hb)
  obtain ⟨A7, c7, e7⟩ := Kd.R_slice HR2.out
  subst e7
  have xc0 : w5.cell? ⟨g4, 0, none⟩ = some (.string (⟨#[]⟩ : ByteArray)) := (blk_cell B4 0).trans rfl
  have xf0 := blk_frozen B4 0
  have xc1 : w5.cell? ⟨g4, 1, none⟩ = some (.int .i64 0) := (blk_cell B4 1).trans rfl
  have xf1 := blk_frozen B4 1
  have xc2 : w5.cell? ⟨g4, 2, none⟩ = some (.bool false) := (blk_cell B4 2).trans rfl
  have xf2 := blk_frozen B4 2
  have xc3 : w5.cell? ⟨g4, 3, none⟩ = some (.int .i64 0) := (blk_cell B4 3).trans rfl
  have xf3 := blk_frozen B4 3
  have xc4 : w5.cell? ⟨g4, 4, none⟩ = some (.int .u64 0) := (blk_cell B4 4).trans rfl
  have xf4 := blk_frozen B4 4
  have xc5 : w5.cell? ⟨g4, 5, none⟩ = some (.float .f64 0) := (blk_cell B4 5).trans rfl
  have xf5 := blk_frozen B4 5
  have xc6 : w5.cell? ⟨g4, 6, none⟩ = some (.string (⟨#[]⟩ : ByteArray)) := (blk_cell B4 6).trans rfl
  have xf6 := blk_frozen B4 6
  have xc7 : w5.cell? ⟨g4, 7, none⟩ = some (.slice none 0 0) := (blk_cell B4 7).trans rfl
  have xf7 := blk_frozen B4 7
  have BW := Aside0.mk B4
  clear B4 ho hb BK4 HB
  go_wp2
  refine bodyPost_ret (results_cell_row rfl _ _ g4 35 #[.string n1, .int .i64 n2, .bool n3, .int .i64 n4, .int .u64 n5, .float .f64 n6, .string n7, .slice A7 n8.length c7] (0, 0) _ rfl (by exact blk_put8 BW.out) hu35 rfl rfl) rfl ?_
  exact ⟨_, rfl, Kd.R_mono (ok := fun k => True ∧ k ≠ g4) (by refine Kd.R_far8 (g := g4) ?_ (fun _ hk => hk.2) _ _ _ _ _ _ _ _; exact HR2.out) (fun _ _ => trivial), by refine below_set ?_ GE4.out; refine below_set ?_ GE4.out; refine below_set ?_ GE4.out; refine below_set ?_ GE4.out; refine below_set ?_ GE4.out; refine below_set ?_ GE4.out; refine below_set ?_ GE4.out; refine below_set ?_ GE4.out; exact HBW.out⟩

end Go.Proofs.YtdmpbaanonafbaaGreatDoor.SsCpu
