/- laws.lives: the load is read. -/
import Derived.Test.YtdmpbaanonafbaaGreatDoorDoorLoad
import Derived.Tactics
import Derived.Tactics2
import Derived.Defers
import Derived.Recover
import Derived.Laws.Pointers
import Derived.Lib.Hide
namespace Go.Proofs.YtdmpbaanonafbaaGreatDoor.Lives
open Go.RowKit Go.Proofs.YtdmpbaanonafbaaGreatDoorW.PrintWords Go.Proofs.YtdmpbaanonafbaaGreatDoorW.PrintLast Go.Proofs.YtdmpbaanonafbaaGreatDoor.Flt Go.Proofs.YtdmpbaanonafbaaGreatDoor.GivZ Go.Proofs.YtdmpbaanonafbaaGreatDoorW.PrintMore Go.Proofs.YtdmpbaanonafbaaGreatDoor.E Go.Proofs.YtdmpbaanonafbaaGreatDoor.G Go.Proofs.YtdmpbaanonafbaaGreatDoor.Fl2 Go.Proofs.YtdmpbaanonafbaaGreatDoor.DoorLoad
attribute [local go_sem] max2_int min2_int max_two min_two max_three min_three max_four min_four
set_option linter.unusedVariables false
set_option linter.unusedSimpArgs false

def lv : List S35 := [(⟨(⟨#[76, 111, 97, 100, 49]⟩ : ByteArray), 4, false, 0, 0, 4602678819172646912, (⟨#[]⟩ : ByteArray), []⟩ : S35), (⟨(⟨#[76, 111, 97, 100, 53]⟩ : ByteArray), 4, false, 0, 0, 4598175219545276416, (⟨#[]⟩ : ByteArray), []⟩ : S35), (⟨(⟨#[76, 111, 97, 100, 49, 53]⟩ : ByteArray), 4, false, 0, 0, 4604930618986332160, (⟨#[]⟩ : ByteArray), []⟩ : S35)]
theorem load_text : impl_Loadavg.f (⟨#[48, 46, 53, 32, 48, 46, 50, 53, 32, 48, 46, 55, 53, 32, 49, 47, 52, 57, 55, 32, 49, 49, 57, 52, 55, 10]⟩ : ByteArray) = some (ByteArray.empty, 8, false, 0, 0, 0, (⟨#[]⟩ : ByteArray), lv, 0) := by kernel_rfl
def laws_lives.f : Option Bool := some true
set_option maxHeartbeats 8000000 in
set_option maxRecDepth 100000 in
theorem lives_is (w : World) (hTabs : Tabs w) : Calls Tryz.prog 36 #[] w fun e w' => e = .returned (.bool true) ∧ Below w.heap.size w w' := by
  have hu35 := Tryz.underlying35
  have HB := Aside0.mk (Below.refl w.heap.size w)
  have hl3 : lv.length = 3 := rfl
  go_enter Tryz.func36, Tryz.ntmps36
  go_wp2_with (first
    | (go_at_call 14; refine (impl_Loadavg.calls (⟨#[48, 46, 53, 32, 48, 46, 50, 53, 32, 48, 46, 55, 53, 32, 49, 47, 52, 57, 55, 32, 49, 49, 57, 52, 55, 10]⟩ : ByteArray) ByteArray.empty 8 false 0 0 0 (⟨#[]⟩ : ByteArray) lv 0 _ load_text (Tabs.below hTabs HB.out)).mono ?_; rintro e w5 ⟨v7, rfl, ho, hb⟩
       obtain ⟨gp, cp, rfl, hge, hlt, _⟩ := Kd.R_form ho (by decide)
       obtain ⟨ad0, A0, c0, e0, _, _, _, _, _, f0, _, _, _, _⟩ := at_T35 (Kd.R_reads' ho).2.2 0 (by decide) (by decide)
       obtain ⟨ad1, A1, c1, e1, _, _, _, _, _, f1, _, _, _, _⟩ := at_T35 (Kd.R_reads' ho).2.2 1 (by decide) (by decide)
       obtain ⟨ad2, A2, c2, e2, _, _, _, _, _, f2, _, _, _, _⟩ := at_T35 (Kd.R_reads' ho).2.2 2 (by decide) (by decide)
       obtain rfl := Option.some.inj e0
       obtain rfl := Option.some.inj e1
       obtain rfl := Option.some.inj e2
       have F0 := Aside0.mk (show w5.cell? ⟨gp, 5, none⟩ = some (.float .f64 4602678819172646912) from f0)
       have F1 := Aside0.mk (show w5.cell? ⟨gp, 13, none⟩ = some (.float .f64 4598175219545276416) from f1)
       have F2 := Aside0.mk (show w5.cell? ⟨gp, 21, none⟩ = some (.float .f64 4604930618986332160) from f2)
       have LT := Aside0.mk hlt
       have n0 := Aside0.mk (below_step HB.out hb); clear HB; have HB := n0; clear n0 hb ho hge hlt e0 e1 e2 f0 f1 f2)
    | ((with_reducible refine gate_dst (N := 1) rfl ?_); refine box_event ?hg (N := 1) ?hd (cs := #[.string (⟨#[]⟩ : ByteArray), .int .i64 0, .bool false, .int .i64 0, .int .u64 0, .float .f64 0, .string (⟨#[]⟩ : ByteArray), .slice none 0 0]) (t := 35) ?hr ?_; (case hd => rfl); (case hg => rfl); (case hr => first | (go_simp; done) | (go_simp; rfl)); intro g1 hg w6 hbox hb
       have xc0 : w6.cell? ⟨g1, 0, none⟩ = some (.string (⟨#[]⟩ : ByteArray)) := (blk_cell hbox 0).trans rfl
       have xf0 := blk_frozen hbox 0
       have xc1 : w6.cell? ⟨g1, 1, none⟩ = some (.int .i64 0) := (blk_cell hbox 1).trans rfl
       have xf1 := blk_frozen hbox 1
       have xc2 : w6.cell? ⟨g1, 2, none⟩ = some (.bool false) := (blk_cell hbox 2).trans rfl
       have xf2 := blk_frozen hbox 2
       have xc3 : w6.cell? ⟨g1, 3, none⟩ = some (.int .i64 0) := (blk_cell hbox 3).trans rfl
       have xf3 := blk_frozen hbox 3
       have xc4 : w6.cell? ⟨g1, 4, none⟩ = some (.int .u64 0) := (blk_cell hbox 4).trans rfl
       have xf4 := blk_frozen hbox 4
       have xc5 : w6.cell? ⟨g1, 5, none⟩ = some (.float .f64 0) := (blk_cell hbox 5).trans rfl
       have xf5 := blk_frozen hbox 5
       have xc6 : w6.cell? ⟨g1, 6, none⟩ = some (.string (⟨#[]⟩ : ByteArray)) := (blk_cell hbox 6).trans rfl
       have xf6 := blk_frozen hbox 6
       have xc7 : w6.cell? ⟨g1, 7, none⟩ = some (.slice none 0 0) := (blk_cell hbox 7).trans rfl
       have xf7 := blk_frozen hbox 7
       have GE1 := Aside0.mk (show w.heap.size ≤ g1 by rw [hg]; exact below_size HB.out)
       have hne : ¬ gp = g1 := by have := LT.out; omega
       have hne2 : ¬ g1 = gp := fun h => hne h.symm
       have f0 := cell_below hb F0.out
       have f1 := cell_below hb F1.out
       have f2 := cell_below hb F2.out
       have n0 := Aside0.mk (below_step HB.out hb); clear HB; have HB := n0; clear n0 hb hbox hg))
  go_ret
  exact ⟨congrArg (fun b => Ending.returned (.bool b)) (by decide +kernel), by refine below_set ?_ GE1.out; refine below_set ?_ GE1.out; refine below_set ?_ GE1.out; refine below_set ?_ GE1.out; refine below_set ?_ GE1.out; refine below_set ?_ GE1.out; refine below_set ?_ GE1.out; refine below_set ?_ GE1.out; exact HB.out⟩
theorem laws_lives.calls (r : Bool) (w : World) (h : laws_lives.f = some r) (hTabs : Tabs w := by first | exact hTabs | exact Tabs.below hTabs (by repeat (first | (with_reducible first | exact HB.out | apply below_alloc | apply pw_below_drewN | apply below_drew1 | refine below_set ?_ (Aside0.out (by assumption))) | exact HB.out))) :
    Calls Tryz.prog 36 #[] w fun e w' => e = .returned (.bool r) ∧ Below w.heap.size w w' := by
  obtain rfl : r = true := (Option.some.inj h).symm
  exact lives_is w hTabs
end Go.Proofs.YtdmpbaanonafbaaGreatDoor.Lives
