/- procfs.parseLoad by hand: three loads are read. -/
import Derived.Test.YtdmpbaanonafbaaGreatDoorFl2
import Derived.Test.YtdmpbaanonafbaaGreatDoorG1
import Derived.LoopN
import Derived.StillTailTactics
import Derived.Tactics
import Derived.Tactics2
namespace Go.Proofs.YtdmpbaanonafbaaGreatDoor.ParseLoad
open Go.RowKit Go.Proofs.YtdmpbaanonafbaaGreatDoorW.PrintWords Go.Proofs.YtdmpbaanonafbaaGreatDoorW.PrintLast Go.Proofs.YtdmpbaanonafbaaGreatDoor.Flt Go.Proofs.YtdmpbaanonafbaaGreatDoor.GivZ Go.Proofs.YtdmpbaanonafbaaGreatDoorW.PrintMore Go.Proofs.YtdmpbaanonafbaaGreatDoor.Fl2
set_option linter.unusedVariables false
set_option linter.unusedSimpArgs false

theorem pf_of (a : ByteArray) (r : Nat) (h : strconv_ParseFloat.f a 64 = some (r, none)) (w : World) (hT : Tabs w) :
    Calls Tryz.prog 156 #[.string a, .int .i64 64] w fun e w' => e = .returned (.tuple #[.float .f64 r, .nilIface]) ∧ w = w' := by
  unfold strconv_ParseFloat.f at h
  by_cases c : (64 : Int) = 64 ∧ 0 < a.size ∧ a.size ≤ 1000000
  · rw [if_pos c] at h
    obtain ⟨_, c3, c4⟩ := c
    obtain ⟨s, hs, h⟩ := Option.bind_eq_some_iff.1 h
    by_cases c5 : s.dig = true
    · rw [if_pos c5] at h
      obtain ⟨v, hv, h⟩ := Option.bind_eq_some_iff.1 h
      obtain ⟨rfl, _⟩ := Prod.mk.inj (Option.some.inj h)
      exact ParseFloat_is a c3 c4 s hs c5 v hv w hT
    · rw [if_neg c5] at h; cases h
  · rw [if_neg c] at h; cases h

section
variable {P : Program} {ops : Array Oper} {o : Oper} {rest : List Oper} {a : Act} {Q : Exit → Act → World → Prop} {W : World}
theorem slice_event (hgd : o.guard = none) {N : Tmp} (_hd : o.dst = some N) {cs : Array Value} {t : TypeId} {n : Nat}
    (hrun : (execOp a.eval o).run P W = .ok (.value (.slice (some ⟨W.heap.size, 0, none⟩) n n)) (W.alloc (.cells cs t (0, 0))))
    (h : ∀ g, g = W.heap.size → ∀ w1, w1.heap[g]? = some (.cells cs t (0, 0)) → Below W.heap.size W w1 → wpList P ops Q rest (a.put o.dst (.slice (some ⟨g, 0, none⟩) n n)) w1) : wpList P ops Q (o :: rest) a W :=
  Kd.event_run hgd hrun (h _ rfl _ (blk_new W _) (below_alloc (Below.refl _ _) _))
end
theorem make3 (w : World) : (Instr.makeSlice 77 (.int .i64 3) (.int .i64 3)).run Tryz.prog w = .ok (.slice (some ⟨w.heap.size, 0, none⟩) 3 3) (w.alloc (.cells #[.float .f64 0, .float .f64 0, .float .f64 0] 32 (0, 0))) := by
  obtain ⟨i, hi, hz⟩ := Option.map_eq_some_iff.1 (show (Tryz.prog.info? 32).map (fun i => (i.zero, i.size, i.bytes)) = some (some (.float .f64 0), 1, 8) by kernel_rfl)
  simp only [Prod.mk.injEq] at hz
  have := run_make (P := Tryz.prog) w 77 32 i (.float .f64 0) Tryz.underlying77 hi hz.1 .i64 .i64 3 3 (by omega) (by omega) (by rw [hz.2.2]; decide) (by omega)
  have hm : madeCells (Value.float .f64 0).cells (Int.toNat 3 * 1) = #[.float .f64 0, .float .f64 0, .float .f64 0] := by kernel_rfl
  rw [this, hz.2.1, hm]
  rfl
set_option maxHeartbeats 8000000 in
set_option maxRecDepth 100000 in
theorem parseLoad_is (A0 : Option Addr) (c0 : Nat) (l0 : List Int) (ps : List ByteArray) (x y z : Nat) (w : World) (hr0 : Kd.C (Kd.int .u8) w A0 l0.length l0) (hc0 : l0.length ≤ c0)
    (hf : strings_Fields.f (strOfNums l0) = some ps) (hlen : 3 ≤ ps.length) (hx : strconv_ParseFloat.f (rdOf ByteArray.empty ps 0) 64 = some (x, none)) (hy : strconv_ParseFloat.f (rdOf ByteArray.empty ps 1) 64 = some (y, none)) (hz : strconv_ParseFloat.f (rdOf ByteArray.empty ps 2) 64 = some (z, none)) (hTabs : Tabs w) :
    Calls Tryz.prog 121 #[.slice A0 l0.length c0] w fun e w' => ∃ g, e = .returned (.tuple #[.pointer (some ⟨g, 0, none⟩), .nilIface]) ∧ w'.heap[g]? = some (.cells #[.float .f64 x, .float .f64 y, .float .f64 z] 66 (0, 0)) ∧ Below w.heap.size w w' := by
  have HF := Lib.hid hf
  have HX := Lib.hid (pf_of _ _ hx)
  have HY := Lib.hid (pf_of _ _ hy)
  have HZ := Lib.hid (pf_of _ _ hz)
  have HT := Lib.hid hTabs
  have hl1 : ¬ ((ps.length : Int) < 3) := by omega
  have hl2 : (3 : Int) ≤ ps.length := by omega
  have HR0 := Aside0.mk hr0
  clear hf hx hy hz hTabs hr0
  have hu66 := Tryz.underlying66
  have HB := Aside0.mk (Below.refl w.heap.size w)
  go_enter Tryz.func121, Tryz.ntmps121
  go_wp2_with (first
    | ((with_reducible refine gate_dst (N := 9) rfl ?_); refine slice_event ?hg (N := 9) ?hd (cs := #[.float .f64 0, .float .f64 0, .float .f64 0]) (t := 32) (n := 3) ?hr ?_; (case hd => rfl); (case hg => rfl); (case hr => simp [execOp, make3, go_sem]); intro g hg w1 hbox hb
       have hcv3 := Kd.C_string (P := Tryz.prog) (A := A0) (c := c0) Tryz.underlying152 Tryz.underlying5 Tryz.underlying9 (Kd.C_below HR0.out hb)
       have HG := Aside0.mk (show w.heap.size ≤ g by rw [hg]; exact Nat.le_refl _)
       have BK := Aside0.mk hbox
       have n0 := Aside0.mk (below_step HB.out hb); clear HB; have HB := n0; clear n0 hb hbox hg)
    | (go_at_call 155; refine (strings_Fields.calls (strOfNums l0) ps _ HF.out (Tabs.below HT.out HB.out)).mono ?_; rintro e w2 ⟨v, rfl, ho, hb⟩; obtain ⟨gp, cp, rfl, hge, hlt, _⟩ := Kd.R_form ho (by omega)
       have hcp : 3 ≤ cp := by have := (Kd.R_reads' ho).2.1; omega
       have hcp2 : (3 : Int) ≤ cp := by omega
       have NE := Aside0.mk (show gp ≠ g by have := blk_lt BK.out; omega)
       have n1 := Aside0.mk (blk_below BK.out hb); clear BK; have BK := n1; clear n1
       have n0 := Aside0.mk (below_step HB.out hb); clear HB; have HB := n0; clear n0 hb hge hlt))
  have hs0 : w2.cell? ⟨gp, 0, none⟩ = some (.string (rdOf ByteArray.empty ps 0)) := (Kd.R_cell (enc := Value.string) (h1 := fun _ => rfl) ByteArray.empty ho 0 (by omega) (by omega)).1
  have hs1 : w2.cell? ⟨gp, 1, none⟩ = some (.string (rdOf ByteArray.empty ps 1)) := (Kd.R_cell (enc := Value.string) (h1 := fun _ => rfl) ByteArray.empty ho 1 (by omega) (by omega)).1
  have hs2 : w2.cell? ⟨gp, 2, none⟩ = some (.string (rdOf ByteArray.empty ps 2)) := (Kd.R_cell (enc := Value.string) (h1 := fun _ => rfl) ByteArray.empty ho 2 (by omega) (by omega)).1
  clear ho
  have hg0 : w2.cell? ⟨g, 0, none⟩ = some (.float .f64 0) := (blk_cell BK.out 0).trans rfl
  have hf0 := blk_frozen BK.out 0
  refine wp_loop_rounds 4 ?_
  rw [rounds_succ]
  go_wp2_with (go_at_call 156; refine (HX.out _ (Tabs.below HT.out HB.out)).mono ?_; rintro e w' ⟨rfl, rfl⟩)
  have BK0 := Aside0.mk (blk_put BK.out 0 (.float .f64 x) (cs' := #[.float .f64 x, .float .f64 0, .float .f64 0]) rfl)
  have HB0 := Aside0.mk (below_set (j := 0) (v := .float .f64 x) HB.out HG.out)
  have ht1 := (cell_far (W := w2) (p := ⟨g, 0, none⟩) (a := ⟨gp, 1, none⟩) NE.out (.float .f64 x)).trans hs1
  have ht2 := (cell_far (W := w2) (p := ⟨g, 0, none⟩) (a := ⟨gp, 2, none⟩) NE.out (.float .f64 x)).trans hs2
  clear hs0
  clear hs1
  clear hs2
  generalize w2.setCell ⟨g, 0, none⟩ (.float .f64 x) = w3 at *
  have hs1 := ht1
  clear ht1
  have hs2 := ht2
  clear ht2
  clear hg0 hf0
  have hg1 : w3.cell? ⟨g, 1, none⟩ = some (.float .f64 0) := (blk_cell BK0.out 1).trans rfl
  have hf1 := blk_frozen BK0.out 1
  rw [rounds_succ]
  go_wp2_with (go_at_call 156; refine (HY.out _ (Tabs.below HT.out HB0.out)).mono ?_; rintro e w' ⟨rfl, rfl⟩)
  have BK1 := Aside0.mk (blk_put BK0.out 1 (.float .f64 y) (cs' := #[.float .f64 x, .float .f64 y, .float .f64 0]) rfl)
  have HB1 := Aside0.mk (below_set (j := 1) (v := .float .f64 y) HB0.out HG.out)
  have ht2 := (cell_far (W := w3) (p := ⟨g, 1, none⟩) (a := ⟨gp, 2, none⟩) NE.out (.float .f64 y)).trans hs2
  clear hs1
  clear hs2
  generalize w3.setCell ⟨g, 1, none⟩ (.float .f64 y) = w4 at *
  have hs2 := ht2
  clear ht2
  clear hg1 hf1
  have hg2 : w4.cell? ⟨g, 2, none⟩ = some (.float .f64 0) := (blk_cell BK1.out 2).trans rfl
  have hf2 := blk_frozen BK1.out 2
  rw [rounds_succ]
  go_wp2_with (go_at_call 156; refine (HZ.out _ (Tabs.below HT.out HB1.out)).mono ?_; rintro e w' ⟨rfl, rfl⟩)
  have BK2 := Aside0.mk (blk_put BK1.out 2 (.float .f64 z) (cs' := #[.float .f64 x, .float .f64 y, .float .f64 z]) rfl)
  have HB2 := Aside0.mk (below_set (j := 2) (v := .float .f64 z) HB1.out HG.out)
  clear hs2
  generalize w4.setCell ⟨g, 2, none⟩ (.float .f64 z) = w5 at *
  clear hg2 hf2
  have hx0 : w5.cell? ⟨g, 0, none⟩ = some (.float .f64 x) := (blk_cell BK2.out 0).trans rfl
  have hx1 : w5.cell? ⟨g, 1, none⟩ = some (.float .f64 y) := (blk_cell BK2.out 1).trans rfl
  have hx2 : w5.cell? ⟨g, 2, none⟩ = some (.float .f64 z) := (blk_cell BK2.out 2).trans rfl
  rw [rounds_succ]
  go_wp2
  go_still_tail 10, (by kernel_rfl)
  change wpList _ _ _ _ _ w5.drew
  have HB3 := Aside0.mk (below_drew HB2.out)
  clear hx0 hx1 hx2 BK BK0 BK1 BK2
  generalize w5.drew = w6 at *
  go_wp2
  go_ret2
  exact ⟨w6.heap.size, rfl, blk_new _ _, below_alloc HB3.out _⟩
end Go.Proofs.YtdmpbaanonafbaaGreatDoor.ParseLoad
