/- impl.Loadavg by hand, in the print's form: the door's defer and recover; what is told: texts that are read without an error. -/
import Derived.Test.YtdmpbaanonafbaaGreatDoorParseLoad
import Derived.Test.YtdmpbaanonafbaaGreatDoorE0
import Derived.Test.YtdmpbaanonafbaaGreatDoorF1
import Derived.Test.YtdmpbaanonafbaaGreatDoorPlz
import Derived.Tactics
import Derived.Tactics2
import Derived.Defers
import Derived.Recover
import Derived.Laws.Pointers
import Derived.Lib.Hide
namespace Go.Proofs.YtdmpbaanonafbaaGreatDoor.DoorLoad
open Go.RowKit Go.Proofs.YtdmpbaanonafbaaGreatDoorW.PrintWords Go.Proofs.YtdmpbaanonafbaaGreatDoorW.PrintLast Go.Proofs.YtdmpbaanonafbaaGreatDoor.Flt Go.Proofs.YtdmpbaanonafbaaGreatDoor.GivZ Go.Proofs.YtdmpbaanonafbaaGreatDoorW.PrintMore Go.Proofs.YtdmpbaanonafbaaGreatDoor.E Go.Proofs.YtdmpbaanonafbaaGreatDoor.G Go.Proofs.YtdmpbaanonafbaaGreatDoor.Fl2 Go.Proofs.YtdmpbaanonafbaaGreatDoor.ParseLoad
attribute [local go_sem] max2_int min2_int max_two min_two max_three min_three max_four min_four
set_option linter.unusedVariables false
set_option linter.unusedSimpArgs false

set_option maxHeartbeats 8000000 in
set_option maxRecDepth 100000 in
theorem LoadAvg_is (a : ByteArray) (ps : List ByteArray) (x y z : Nat) (w : World) (ha : a.size ≤ 1048576)
    (hf : strings_Fields.f a = some ps) (hlen : 3 ≤ ps.length) (hx : strconv_ParseFloat.f (rdOf ByteArray.empty ps 0) 64 = some (x, none)) (hy : strconv_ParseFloat.f (rdOf ByteArray.empty ps 1) 64 = some (y, none)) (hz : strconv_ParseFloat.f (rdOf ByteArray.empty ps 2) 64 = some (z, none)) (hTabs : Tabs w) :
    Calls Tryz.prog 51 #[.agg #[.string a]] w fun e w' => ∃ g, e = .returned (.tuple #[.pointer (some ⟨g, 0, none⟩), .nilIface]) ∧ w'.heap[g]? = some (.cells #[.float .f64 x, .float .f64 y, .float .f64 z] 66 (0, 0)) ∧ Below w.heap.size w w' := by
  have HF := Lib.hid (show ∃ l0 : List Int, texts_Read.f a = some (l0, none) ∧ strings_Fields.f (strOfNums l0) = some ps from ⟨bytesOf a, by unfold texts_Read.f; rw [if_pos ha], by rw [Plz.ofNums_bytes]; exact hf⟩)
  have HX := Lib.hid hx
  have HY := Lib.hid hy
  have HZ := Lib.hid hz
  have HLN := Lib.hid hlen
  have HT := Lib.hid hTabs
  have hu62 := Tryz.underlying62
  clear hf hx hy hz hTabs hlen ha
  obtain ⟨l0, hrd, hfl⟩ := HF.out
  have HRD := Aside0.mk hrd
  have HFL := Aside0.mk hfl
  clear hrd hfl HF
  have HB := Aside0.mk (Below.refl w.heap.size w)
  go_enter Tryz.func51, Tryz.ntmps51
  go_wp2_with (first
    | ((with_reducible refine gate_dst (N := 1) rfl ?_); refine box_event ?hg (N := 1) ?hd (cs := #[.string a]) (t := 62) ?hr ?_; (case hd => rfl); (case hg => rfl); (case hr => first | (go_simp; done) | (go_simp; rfl)); intro g1 hg w1 hbox hb
       have hc0 : w1.cell? ⟨g1, 0, none⟩ = some (.string a) := (blk_cell hbox 0).trans rfl
       have n0 := Aside0.mk (below_step HB.out hb); clear HB; have HB := n0; clear n0 hb hbox hg)
    | (go_at_call 119; refine (texts_Text_Path.calls a _ _ [(⟨#[108, 111, 97, 100, 97, 118, 103]⟩ : ByteArray)] a _ (Kd.R_reads' (strs_row _ [(⟨#[108, 111, 97, 100, 97, 118, 103]⟩ : ByteArray)] (by decide))).2.2 (by decide) rfl).mono ?_; rintro e w2 ⟨rfl, hb⟩
       obtain ⟨nd, hnd⟩ := hb.out
       have n0 := Aside0.mk (show Below w.heap.size w w2 by rw [hnd]; exact pw_below_drewN (below_alloc HB.out _) nd); clear HB; have HB := n0; clear n0 hb hnd)
    | (go_at_call 120; refine (texts_Read.calls a l0 none _ HRD.out).mono ?_; rintro e w3 ⟨v0, rfl, hv, hb⟩
       obtain ⟨A0, c0, rfl, hcl, hF⟩ := hv
       have HC := Aside0.mk (show Kd.C (Kd.int .u8) w3 A0 l0.length l0 from hF w3 (fun _ _ _ => rfl))
       have HCL := Aside0.mk hcl
       try simp only [errW_none]
       have n0 := Aside0.mk (below_step HB.out hb); clear HB; have HB := n0; clear n0 hb hF hcl)
    | (go_at_call 121; refine (parseLoad_is A0 c0 l0 ps x y z _ HC.out HCL.out HFL.out HLN.out HX.out HY.out HZ.out (Tabs.below HT.out HB.out)).mono ?_; rintro e w4 ⟨gl, rfl, hgl, hb⟩
       have HL := Aside0.mk hgl
       have n0 := Aside0.mk (below_step HB.out hb); clear HB; have HB := n0; clear n0 hb hgl))
  go_ret2
  exact ⟨gl, rfl, HL.out, HB.out⟩

set_option maxHeartbeats 8000000 in
set_option maxRecDepth 100000 in
theorem pointer_is (g : Nat) (x y z : Nat) (n1 : ByteArray) (n2 : Int) (n3 : Bool) (n4 n5 : Int) (n6 : Nat) (n7 : ByteArray) (n8 : List S35) (w : World)
    (hL : w.heap[g]? = some (.cells #[.float .f64 x, .float .f64 y, .float .f64 z] 66 (0, 0))) (h : impl_procfsLoadAvg.f ByteArray.empty x y z = some (n1, n2, n3, n4, n5, n6, n7, n8)) :
    Calls Tryz.prog 53 #[.string ByteArray.empty, .pointer (some ⟨g, 0, none⟩), .func (.func 54) #[] #[]] w fun e w' => ∃ v7_ : Value, e = .returned (.agg #[.string n1, .int .i64 n2, .bool n3, .int .i64 n4, .int .u64 n5, .float .f64 n6, .string n7, v7_]) ∧ Kd.R k35 35 w' w.heap.size (fun _ => True) v7_ n8 ∧ Below w.heap.size w w' := by
  have hu35 := Tryz.underlying35
  have hu66 := Tryz.underlying66
  have HL := Aside0.mk hL
  have HH := Aside0.mk h
  clear hL h
  have HB := Aside0.mk (Below.refl w.heap.size w)
  go_enter Tryz.func53, Tryz.ntmps53
  go_wp2_with (first
    | ((with_reducible refine gate_dst (N := 6) rfl ?_); refine box_event ?hg (N := 6) ?hd (cs := #[.string (⟨#[]⟩ : ByteArray), .int .i64 0, .bool false, .int .i64 0, .int .u64 0, .float .f64 0, .string (⟨#[]⟩ : ByteArray), .slice none 0 0]) (t := 35) ?hr ?_; (case hd => rfl); (case hg => rfl); (case hr => first | (go_simp; done) | (go_simp; rfl)); intro g4 hg w1 hbox hb
       have n1' := Aside0.mk (blk_below HL.out hb); clear HL; have HL := n1'; clear n1'
       have hx0 : w1.cell? ⟨g, 0, none⟩ = some (.float .f64 x) := (blk_cell HL.out 0).trans rfl
       have hy0 := blk_frozen HL.out 0
       have hx1 : w1.cell? ⟨g, 1, none⟩ = some (.float .f64 y) := (blk_cell HL.out 1).trans rfl
       have hy1 := blk_frozen HL.out 1
       have hx2 : w1.cell? ⟨g, 2, none⟩ = some (.float .f64 z) := (blk_cell HL.out 2).trans rfl
       have hy2 := blk_frozen HL.out 2
       have BK4 := Aside0.mk hbox
       have GE4 := Aside0.mk (show w.heap.size ≤ g4 by rw [hg]; exact below_size HB.out)
       have n0 := Aside0.mk (below_step HB.out hb); clear HB; have HB := n0; clear n0 hb hbox hg))
  refine (impl_procfsLoadAvg.calls ByteArray.empty x y z n1 n2 n3 n4 n5 n6 n7 n8 _ HH.out).mono ?_
  rintro e w5 ⟨v7, rfl, ho, hb⟩
  have B4 := blk_below BK4.out hb
  have HR2 := Aside0.mk (Kd.R_lower (Kd.R_newB ho BK4.out) (below_size HB.out))
  have HBW := Aside0.mk (below_step HB.out hb)
  obtain ⟨A7, c7, e7⟩ := Kd.R_slice HR2.out
  subst e7
  have xc0 : w5.cell? ⟨g4, 0, none⟩ = some (.string (⟨#[]⟩ : ByteArray)) := (blk_cell B4 0).trans rfl
  have xf0 := blk_frozen B4 0
  have xc1 : w5.cell? ⟨g4, 1, none⟩ = some (.int .i64 0) := (blk_cell B4 1).trans rfl
  have xf1 := blk_frozen B4 1
  have xc2 : w5.cell? ⟨g4, 2, none⟩ = some (.bool false) := (blk_cell B4 2).trans rfl
  have xf2 := blk_frozen B4 2
  have xc3 : w5.cell? ⟨g4, 3, none⟩ = some (.int .i64 0) := (blk_cell B4 3).trans rfl
  have xf3 := blk_frozen B4 3
  have xc4 : w5.cell? ⟨g4, 4, none⟩ = some (.int .u64 0) := (blk_cell B4 4).trans rfl
  have xf4 := blk_frozen B4 4
  have xc5 : w5.cell? ⟨g4, 5, none⟩ = some (.float .f64 0) := (blk_cell B4 5).trans rfl
  have xf5 := blk_frozen B4 5
  have xc6 : w5.cell? ⟨g4, 6, none⟩ = some (.string (⟨#[]⟩ : ByteArray)) := (blk_cell B4 6).trans rfl
  have xf6 := blk_frozen B4 6
  have xc7 : w5.cell? ⟨g4, 7, none⟩ = some (.slice none 0 0) := (blk_cell B4 7).trans rfl
  have xf7 := blk_frozen B4 7
  have BW := Aside0.mk B4
  clear B4 ho hb BK4 HB
  go_wp2
  refine bodyPost_ret (results_cell_row rfl _ _ g4 35 #[.string n1, .int .i64 n2, .bool n3, .int .i64 n4, .int .u64 n5, .float .f64 n6, .string n7, .slice A7 n8.length c7] (0, 0) _ rfl (by exact blk_put8 BW.out) hu35 rfl rfl) rfl ?_
  exact ⟨_, rfl, Kd.R_mono (ok := fun k => True ∧ k ≠ g4) (by refine Kd.R_far8 (g := g4) ?_ (fun _ hk => hk.2) _ _ _ _ _ _ _ _; exact HR2.out) (fun _ _ => trivial), by refine below_set ?_ GE4.out; refine below_set ?_ GE4.out; refine below_set ?_ GE4.out; refine below_set ?_ GE4.out; refine below_set ?_ GE4.out; refine below_set ?_ GE4.out; refine below_set ?_ GE4.out; refine below_set ?_ GE4.out; exact HBW.out⟩

set_option maxHeartbeats 8000000 in
set_option maxRecDepth 100000 in
theorem load1_is (g : Nat) (x y z : Nat) (n1 : ByteArray) (n2 : Int) (n3 : Bool) (n4 n5 : Int) (n6 : Nat) (n7 : ByteArray) (n8 : List S35) (w : World)
    (hL : w.heap[g]? = some (.cells #[.float .f64 x, .float .f64 y, .float .f64 z] 66 (0, 0))) (h : impl_procfsLoadAvg.f ByteArray.empty x y z = some (n1, n2, n3, n4, n5, n6, n7, n8)) :
    Calls Tryz.prog 52 #[.pointer (some ⟨g, 0, none⟩)] w fun e w' => ∃ v7_ : Value, e = .returned (.agg #[.string n1, .int .i64 n2, .bool n3, .int .i64 n4, .int .u64 n5, .float .f64 n6, .string n7, v7_]) ∧ Kd.R k35 35 w' w.heap.size (fun _ => True) v7_ n8 ∧ Below w.heap.size w w' := by
  have hu35 := Tryz.underlying35
  have HL := Aside0.mk hL
  have HH := Aside0.mk h
  clear hL h
  have HB := Aside0.mk (Below.refl w.heap.size w)
  go_enter Tryz.func52, Tryz.ntmps52
  go_wp2_with (first
    | ((with_reducible refine gate_dst (N := 2) rfl ?_); refine box_event ?hg (N := 2) ?hd (cs := #[.string (⟨#[]⟩ : ByteArray), .int .i64 0, .bool false, .int .i64 0, .int .u64 0, .float .f64 0, .string (⟨#[]⟩ : ByteArray), .slice none 0 0]) (t := 35) ?hr ?_; (case hd => rfl); (case hg => rfl); (case hr => first | (go_simp; done) | (go_simp; rfl)); intro g4 hg w1 hbox hb
       have n1' := Aside0.mk (blk_below HL.out hb); clear HL; have HL := n1'; clear n1'
       have BK4 := Aside0.mk hbox
       have GE4 := Aside0.mk (show w.heap.size ≤ g4 by rw [hg]; exact below_size HB.out)
       have n0 := Aside0.mk (below_step HB.out hb); clear HB; have HB := n0; clear n0 hb hbox hg))
  refine (pointer_is g x y z n1 n2 n3 n4 n5 n6 n7 n8 _ HL.out HH.out).mono ?_
  rintro e w5 ⟨v7, rfl, ho, hb⟩
  have B4 := blk_below BK4.out hb
  have HR2 := Aside0.mk (Kd.R_lower (Kd.R_newB ho BK4.out) (below_size HB.out))
  have HBW := Aside0.mk (below_step HB.out hb)
  obtain ⟨A7, c7, e7⟩ := Kd.R_slice HR2.out
  subst e7
  have xc0 : w5.cell? ⟨g4, 0, none⟩ = some (.string (⟨#[]⟩ : ByteArray)) := (blk_cell B4 0).trans rfl
  have xf0 := blk_frozen B4 0
  have xc1 : w5.cell? ⟨g4, 1, none⟩ = some (.int .i64 0) := (blk_cell B4 1).trans rfl
  have xf1 := blk_frozen B4 1
  have xc2 : w5.cell? ⟨g4, 2, none⟩ = some (.bool false) := (blk_cell B4 2).trans rfl
  have xf2 := blk_frozen B4 2
  have xc3 : w5.cell? ⟨g4, 3, none⟩ = some (.int .i64 0) := (blk_cell B4 3).trans rfl
  have xf3 := blk_frozen B4 3
  have xc4 : w5.cell? ⟨g4, 4, none⟩ = some (.int .u64 0) := (blk_cell B4 4).trans rfl
  have xf4 := blk_frozen B4 4
  have xc5 : w5.cell? ⟨g4, 5, none⟩ = some (.float .f64 0) := (blk_cell B4 5).trans rfl
  have xf5 := blk_frozen B4 5
  have xc6 : w5.cell? ⟨g4, 6, none⟩ = some (.string (⟨#[]⟩ : ByteArray)) := (blk_cell B4 6).trans rfl
  have xf6 := blk_frozen B4 6
  have xc7 : w5.cell? ⟨g4, 7, none⟩ = some (.slice none 0 0) := (blk_cell B4 7).trans rfl
  have xf7 := blk_frozen B4 7
  have BW := Aside0.mk B4
  clear B4 ho hb BK4 HB
  go_wp2
  refine bodyPost_ret (results_cell_row rfl _ _ g4 35 #[.string n1, .int .i64 n2, .bool n3, .int .i64 n4, .int .u64 n5, .float .f64 n6, .string n7, .slice A7 n8.length c7] (0, 0) _ rfl (by exact blk_put8 BW.out) hu35 rfl rfl) rfl ?_
  exact ⟨_, rfl, Kd.R_mono (ok := fun k => True ∧ k ≠ g4) (by refine Kd.R_far8 (g := g4) ?_ (fun _ hk => hk.2) _ _ _ _ _ _ _ _; exact HR2.out) (fun _ _ => trivial), by refine below_set ?_ GE4.out; refine below_set ?_ GE4.out; refine below_set ?_ GE4.out; refine below_set ?_ GE4.out; refine below_set ?_ GE4.out; refine below_set ?_ GE4.out; refine below_set ?_ GE4.out; refine below_set ?_ GE4.out; exact HBW.out⟩

set_option maxRecDepth 100000 in
theorem catch_idle (p q : Addr) (w : World) :
    CallsD Tryz.prog 118 #[.pointer (some p), .pointer (some q)] .returning w fun e u' w' => e = .returned (.tuple #[]) ∧ u' = .returning ∧ w' = w := by
  refine callsD_of_wpS Tryz.func118 rfl fun c₀ cs hu => ?_
  apply wpS_seq
  apply wpS_region
  simp [wpOpsS, go_sem, recoverD, hu, Tryz.ntmps118, Exit.thenS]
  refine wpS_cond (t := false) (by simp [Act.eval, Array.replicate]) ?_
  simp only [Bool.false_eq_true, if_false]
  refine wpS_of_wp (wp_skip ?_)
  cases c₀
  simp_all [bodyPostS, results, Tryz.results118]

set_option maxHeartbeats 8000000 in
set_option maxRecDepth 100000 in
theorem tree_is (a0 : ByteArray) (n1 : ByteArray) (n2 : Int) (n3 : Bool) (n4 n5 : Int) (n6 : Nat) (n7 : ByteArray) (n8 : List S35) (PR : World → World → Value → Prop) (w : World)
    (h1 : ∀ w, Tabs w → Calls Tryz.prog 51 #[.agg #[.string a0]] w fun e w' => ∃ v : Value, e = .returned (.tuple #[v, .nilIface]) ∧ PR w w' v ∧ Below w.heap.size w w')
    (h2 : ∀ w0 w v, PR w0 w v → Calls Tryz.prog 52 #[v] w fun e w' => ∃ v7_ : Value, e = .returned (.agg #[.string n1, .int .i64 n2, .bool n3, .int .i64 n4, .int .u64 n5, .float .f64 n6, .string n7, v7_]) ∧ Kd.R k35 35 w' w.heap.size (fun _ => True) v7_ n8 ∧ Below w.heap.size w w') (hTabs : Tabs w) :
    Calls Tryz.prog 49 #[.func (.func 51) #[.agg #[.string a0]] #[], .func (.func 52) #[] #[]] w fun e w' => ∃ v7_ : Value, e = .returned (.tuple #[.agg #[.string n1, .int .i64 n2, .bool n3, .int .i64 n4, .int .u64 n5, .float .f64 n6, .string n7, v7_], .int .i64 0]) ∧ Kd.R k35 35 w' w.heap.size (fun _ => True) v7_ n8 ∧ Below w.heap.size w w' := by
  have hmf : ∀ (fn : Fn) (first cap : Array Value) (w : World), (Instr.makeFunc fn first cap).run Tryz.prog w = .ok (.func fn first cap) w := fun _ _ _ _ => rfl
  have hu35 := Tryz.underlying35
  have HA := Lib.hid h1
  have HA2 := Lib.hid h2
  clear h1 h2
  have HB := Aside0.mk (Below.refl w.heap.size w)
  go_enter_defers Tryz.func49, Tryz.ntmps49
  go_wp2_with (first
    | ((with_reducible refine gate_dst (N := 4) rfl ?_); refine box_event ?hg (N := 4) ?hd (cs := #[.string (⟨#[]⟩ : ByteArray), .int .i64 0, .bool false, .int .i64 0, .int .u64 0, .float .f64 0, .string (⟨#[]⟩ : ByteArray), .slice none 0 0]) (t := 35) ?hr ?_; (case hd => rfl); (case hg => rfl); (case hr => first | (go_simp; done) | (go_simp; rfl)); intro g4 hg w1 hbox hb
       have BK4 := Aside0.mk hbox
       have GE4 := Aside0.mk (show w.heap.size ≤ g4 by rw [hg]; exact below_size HB.out)
       have n0 := Aside0.mk (below_step HB.out hb); clear HB; have HB := n0; clear n0 hb hbox hg)
    | ((with_reducible refine gate_dst (N := 5) rfl ?_); refine box_event ?hg (N := 5) ?hd (cs := #[.int .i64 0]) (t := 3) ?hr ?_; (case hd => rfl); (case hg => rfl); (case hr => first | (go_simp; done) | (go_simp; rfl)); intro g5 hg w2 hbox hb
       have BK5 := Aside0.mk hbox
       have NE := Aside0.mk (show g4 ≠ g5 by rw [hg]; exact Nat.ne_of_lt (blk_lt BK4.out))
       have n1 := Aside0.mk (blk_below BK4.out hb); clear BK4; have BK4 := n1; clear n1
       have GE5 := Aside0.mk (show w.heap.size ≤ g5 by rw [hg]; exact below_size HB.out)
       have n0 := Aside0.mk (below_step HB.out hb); clear HB; have HB := n0; clear n0 hb hbox hg)
    | (go_at_call 51; refine (HA.out _ (Tabs.below hTabs HB.out)).mono ?_; rintro e w3 ⟨vr, rfl, hp, hb⟩
       have HP := Aside0.mk hp
       have n1 := Aside0.mk (blk_below BK4.out hb); clear BK4; have BK4 := n1; clear n1
       have n1 := Aside0.mk (blk_below BK5.out hb); clear BK5; have BK5 := n1; clear n1
       have n0 := Aside0.mk (below_step HB.out hb); clear HB; have HB := n0; clear n0 hb hp))
  refine (HA2.out _ _ _ HP.out).mono ?_
  rintro e w5 ⟨v7, rfl, ho, hb⟩
  have B4 := blk_below BK4.out hb
  have B5 := blk_below BK5.out hb
  have HB5 := below_step HB.out hb
  have HR := Kd.R_newB (Kd.R_newB ho BK4.out) BK5.out
  have HR2 := Aside0.mk (Kd.R_lower HR (below_size HB.out))
  have HBW := Aside0.mk HB5
  obtain ⟨A7, c7, e7⟩ := Kd.R_slice HR2.out
  subst e7
  have hne := NE.out
  have hne2 := NE.out.symm
  have xc0 : w5.cell? ⟨g4, 0, none⟩ = some (.string (⟨#[]⟩ : ByteArray)) := (blk_cell B4 0).trans rfl
  have xf0 := blk_frozen B4 0
  have xc1 : w5.cell? ⟨g4, 1, none⟩ = some (.int .i64 0) := (blk_cell B4 1).trans rfl
  have xf1 := blk_frozen B4 1
  have xc2 : w5.cell? ⟨g4, 2, none⟩ = some (.bool false) := (blk_cell B4 2).trans rfl
  have xf2 := blk_frozen B4 2
  have xc3 : w5.cell? ⟨g4, 3, none⟩ = some (.int .i64 0) := (blk_cell B4 3).trans rfl
  have xf3 := blk_frozen B4 3
  have xc4 : w5.cell? ⟨g4, 4, none⟩ = some (.int .u64 0) := (blk_cell B4 4).trans rfl
  have xf4 := blk_frozen B4 4
  have xc5 : w5.cell? ⟨g4, 5, none⟩ = some (.float .f64 0) := (blk_cell B4 5).trans rfl
  have xf5 := blk_frozen B4 5
  have xc6 : w5.cell? ⟨g4, 6, none⟩ = some (.string (⟨#[]⟩ : ByteArray)) := (blk_cell B4 6).trans rfl
  have xf6 := blk_frozen B4 6
  have xc7 : w5.cell? ⟨g4, 7, none⟩ = some (.slice none 0 0) := (blk_cell B4 7).trans rfl
  have xf7 := blk_frozen B4 7
  have yc0 : w5.cell? ⟨g5, 0, none⟩ = some (.int .i64 0) := (blk_cell B5 0).trans rfl
  have yf0 := blk_frozen B5 0
  clear B4 B5 HR HB5 ho hb BK4 BK5 HB HP
  go_wp2
  refine leaves_cons (f := 118) (args := #[.pointer (some ⟨g4, 0, none⟩), .pointer (some ⟨g5, 0, none⟩)]) (by simp) (by simp [go_sem]) ?_
  refine (catch_idle ⟨g4, 0, none⟩ ⟨g5, 0, none⟩ _).mono ?_
  rintro e u' w'' ⟨rfl, rfl, rfl⟩
  simp [Leaves, settle, results, Tryz.results49, go_sem, xc0, xc1, xc2, xc3, xc4, xc5, xc6, xc7, yc0, hne, hne2]
  refine ⟨Kd.R_mono (ok := fun k => (True ∧ k ≠ g4) ∧ k ≠ g5) (by refine Kd.R_far (p := ⟨g5, 0, none⟩) ?_ (fun _ hk => hk.2) _; refine Kd.R_far8 (g := g4) ?_ (fun _ hk => hk.1.2) _ _ _ _ _ _ _ _; exact HR2.out) (fun _ _ => trivial), by refine below_set ?_ GE5.out; refine below_set ?_ GE4.out; refine below_set ?_ GE4.out; refine below_set ?_ GE4.out; refine below_set ?_ GE4.out; refine below_set ?_ GE4.out; refine below_set ?_ GE4.out; refine below_set ?_ GE4.out; refine below_set ?_ GE4.out; exact HBW.out⟩

set_option maxHeartbeats 8000000 in
set_option maxRecDepth 100000 in
theorem door_is (a0 : ByteArray) (n1 : ByteArray) (n2 : Int) (n3 : Bool) (n4 n5 : Int) (n6 : Nat) (n7 : ByteArray) (n8 : List S35) (PR : World → World → Value → Prop) (w : World)
    (h1 : ∀ w, Tabs w → Calls Tryz.prog 51 #[.agg #[.string a0]] w fun e w' => ∃ v : Value, e = .returned (.tuple #[v, .nilIface]) ∧ PR w w' v ∧ Below w.heap.size w w')
    (h2 : ∀ w0 w v, PR w0 w v → Calls Tryz.prog 52 #[v] w fun e w' => ∃ v7_ : Value, e = .returned (.agg #[.string n1, .int .i64 n2, .bool n3, .int .i64 n4, .int .u64 n5, .float .f64 n6, .string n7, v7_]) ∧ Kd.R k35 35 w' w.heap.size (fun _ => True) v7_ n8 ∧ Below w.heap.size w w') (hTabs : Tabs w) :
    Calls Tryz.prog 14 #[.string a0] w fun e w' => ∃ v7_ : Value, e = .returned (.tuple #[.agg #[.string n1, .int .i64 n2, .bool n3, .int .i64 n4, .int .u64 n5, .float .f64 n6, .string n7, v7_], .int .i64 0]) ∧ Kd.R k35 35 w' w.heap.size (fun _ => True) v7_ n8 ∧ Below w.heap.size w w' := by
  have hmf : ∀ (fn : Fn) (first cap : Array Value) (w : World), (Instr.makeFunc fn first cap).run Tryz.prog w = .ok (.func fn first cap) w := fun _ _ _ _ => rfl
  have hu35 := Tryz.underlying35
  have HA := Lib.hid h1
  have HA2 := Lib.hid h2
  clear h1 h2
  have HB := Aside0.mk (Below.refl w.heap.size w)
  go_enter Tryz.func14, Tryz.ntmps14
  go_wp2_with (first
    | ((with_reducible refine gate_dst (N := 2) rfl ?_); refine box_event ?hg (N := 2) ?hd (cs := #[.string (⟨#[]⟩ : ByteArray), .int .i64 0, .bool false, .int .i64 0, .int .u64 0, .float .f64 0, .string (⟨#[]⟩ : ByteArray), .slice none 0 0]) (t := 35) ?hr ?_; (case hd => rfl); (case hg => rfl); (case hr => first | (go_simp; done) | (go_simp; rfl)); intro g4 hg w1 hbox hb
       have BK4 := Aside0.mk hbox
       have GE4 := Aside0.mk (show w.heap.size ≤ g4 by rw [hg]; exact below_size HB.out)
       have n0 := Aside0.mk (below_step HB.out hb); clear HB; have HB := n0; clear n0 hb hbox hg)
    | (go_at_call 50; refine (F.procfs_TextFS.calls a0 a0 _ rfl).mono ?_; rintro e w2 ⟨rfl, hb⟩
       have n1 := Aside0.mk (blk_below BK4.out hb); clear BK4; have BK4 := n1; clear n1
       have n0 := Aside0.mk (below_step HB.out hb); clear HB; have HB := n0; clear n0 hb))
  refine (tree_is a0 n1 n2 n3 n4 n5 n6 n7 n8 PR _ HA.out HA2.out (Tabs.below hTabs HB.out)).mono ?_
  rintro e w5 ⟨v7, rfl, ho, hb⟩
  have B4 := blk_below BK4.out hb
  have HR2 := Aside0.mk (Kd.R_lower (Kd.R_newB ho BK4.out) (below_size HB.out))
  have HBW := Aside0.mk (below_step HB.out hb)
  obtain ⟨A7, c7, e7⟩ := Kd.R_slice HR2.out
  subst e7
  have xc0 : w5.cell? ⟨g4, 0, none⟩ = some (.string (⟨#[]⟩ : ByteArray)) := (blk_cell B4 0).trans rfl
  have xf0 := blk_frozen B4 0
  have xc1 : w5.cell? ⟨g4, 1, none⟩ = some (.int .i64 0) := (blk_cell B4 1).trans rfl
  have xf1 := blk_frozen B4 1
  have xc2 : w5.cell? ⟨g4, 2, none⟩ = some (.bool false) := (blk_cell B4 2).trans rfl
  have xf2 := blk_frozen B4 2
  have xc3 : w5.cell? ⟨g4, 3, none⟩ = some (.int .i64 0) := (blk_cell B4 3).trans rfl
  have xf3 := blk_frozen B4 3
  have xc4 : w5.cell? ⟨g4, 4, none⟩ = some (.int .u64 0) := (blk_cell B4 4).trans rfl
  have xf4 := blk_frozen B4 4
  have xc5 : w5.cell? ⟨g4, 5, none⟩ = some (.float .f64 0) := (blk_cell B4 5).trans rfl
  have xf5 := blk_frozen B4 5
  have xc6 : w5.cell? ⟨g4, 6, none⟩ = some (.string (⟨#[]⟩ : ByteArray)) := (blk_cell B4 6).trans rfl
  have xf6 := blk_frozen B4 6
  have xc7 : w5.cell? ⟨g4, 7, none⟩ = some (.slice none 0 0) := (blk_cell B4 7).trans rfl
  have xf7 := blk_frozen B4 7
  have BW := Aside0.mk B4
  clear B4 ho hb BK4 HB
  go_wp2
  refine bodyPost_ret (results_ct rfl _ _ g4 35 #[.string n1, .int .i64 n2, .bool n3, .int .i64 n4, .int .u64 n5, .float .f64 n6, .string n7, .slice A7 n8.length c7] (0, 0) _ rfl (by exact blk_put8 BW.out) hu35 rfl rfl) rfl ?_
  exact ⟨_, rfl, Kd.R_mono (ok := fun k => True ∧ k ≠ g4) (by refine Kd.R_far8 (g := g4) ?_ (fun _ hk => hk.2) _ _ _ _ _ _ _ _; exact HR2.out) (fun _ _ => trivial), by refine below_set ?_ GE4.out; refine below_set ?_ GE4.out; refine below_set ?_ GE4.out; refine below_set ?_ GE4.out; refine below_set ?_ GE4.out; refine below_set ?_ GE4.out; refine below_set ?_ GE4.out; refine below_set ?_ GE4.out; exact HBW.out⟩

/-- What the door answers of a text of three loads. -/
def impl_Loadavg.f (a0 : ByteArray) : Option (ByteArray × Int × Bool × Int × Int × Nat × ByteArray × List S35 × Int) :=
  if a0.size ≤ 1048576 then (strings_Fields.f a0).bind fun ps => if 3 ≤ ps.length then (strconv_ParseFloat.f (rdOf ByteArray.empty ps 0) 64).bind fun x => (strconv_ParseFloat.f (rdOf ByteArray.empty ps 1) 64).bind fun y => (strconv_ParseFloat.f (rdOf ByteArray.empty ps 2) 64).bind fun z => if x.2 = none ∧ y.2 = none ∧ z.2 = none then (impl_procfsLoadAvg.f ByteArray.empty x.1 y.1 z.1).bind fun n => some (n.1, n.2.1, n.2.2.1, n.2.2.2.1, n.2.2.2.2.1, n.2.2.2.2.2.1, n.2.2.2.2.2.2.1, n.2.2.2.2.2.2.2, 0) else none else none else none
set_option maxHeartbeats 8000000 in
theorem impl_Loadavg.calls (a0 : ByteArray) (n1 : ByteArray) (n2 : Int) (n3 : Bool) (n4 n5 : Int) (n6 : Nat) (n7 : ByteArray) (n8 : List S35) (n9 : Int) (w : World) (h : impl_Loadavg.f a0 = some (n1, n2, n3, n4, n5, n6, n7, n8, n9)) (hTabs : Tabs w := by first | exact hTabs | exact Tabs.below hTabs (by repeat (first | (with_reducible first | exact HB.out | apply below_alloc | apply pw_below_drewN | apply below_drew1 | refine below_set ?_ (Aside0.out (by assumption))) | exact HB.out))) :
    Calls Tryz.prog 14 #[.string a0] w fun e w' =>
      ∃ v7_ : Value, e = .returned (.tuple #[.agg #[.string n1, .int .i64 n2, .bool n3, .int .i64 n4, .int .u64 n5, .float .f64 n6, .string n7, v7_], .int .i64 n9]) ∧ Kd.R k35 35 w' w.heap.size (fun _ => True) v7_ n8 ∧ Below w.heap.size w w' := by
  unfold impl_Loadavg.f at h
  by_cases c1 : a0.size ≤ 1048576
  · rw [if_pos c1] at h
    obtain ⟨ps, hf, h1⟩ := Option.bind_eq_some_iff.1 h
    clear h
    by_cases c2 : 3 ≤ ps.length
    · rw [if_pos c2] at h1
      obtain ⟨⟨x, xe⟩, hx, h2⟩ := Option.bind_eq_some_iff.1 h1
      clear h1
      obtain ⟨⟨y, ye⟩, hy, h3⟩ := Option.bind_eq_some_iff.1 h2
      clear h2
      obtain ⟨⟨z, ze⟩, hz, h4⟩ := Option.bind_eq_some_iff.1 h3
      clear h3
      dsimp only at h4
      by_cases c3 : xe = none ∧ ye = none ∧ ze = none
      · rw [if_pos c3] at h4
        obtain ⟨rfl, rfl, rfl⟩ := c3
        obtain ⟨⟨m1, m2, m3, m4, m5, m6, m7, m8⟩, hm, h5⟩ := Option.bind_eq_some_iff.1 h4
        clear h4
        simp only [Option.some.injEq, Prod.mk.injEq] at h5
        obtain ⟨rfl, rfl, rfl, rfl, rfl, rfl, rfl, rfl, rfl⟩ := h5
        refine door_is a0 _ _ _ _ _ _ _ _ (fun _ w' v => ∃ g, v = .pointer (some ⟨g, 0, none⟩) ∧ w'.heap[g]? = some (.cells #[.float .f64 x, .float .f64 y, .float .f64 z] 66 (0, 0))) w (fun w hT => ?_) (fun w0 w v hp => ?_) hTabs
        · refine (LoadAvg_is a0 ps x y z w c1 hf c2 hx hy hz hT).mono ?_
          rintro e w' ⟨g, rfl, hg, hb⟩
          exact ⟨_, rfl, ⟨g, rfl, hg⟩, hb⟩
        · obtain ⟨g, rfl, hg⟩ := hp
          exact load1_is g x y z _ _ _ _ _ _ _ _ w hg hm
      · rw [if_neg c3] at h4; cases h4
    · rw [if_neg c2] at h1; cases h1
  · rw [if_neg c1] at h; cases h
end Go.Proofs.YtdmpbaanonafbaaGreatDoor.DoorLoad
