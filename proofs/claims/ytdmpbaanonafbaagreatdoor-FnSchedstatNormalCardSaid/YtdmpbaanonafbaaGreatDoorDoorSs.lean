import Derived.Test.YtdmpbaanonafbaaGreatDoorSsCpu
import Derived.Test.YtdmpbaanonafbaaGreatDoorZ1
import Derived.Test.YtdmpbaanonafbaaGreatDoorG1
import Derived.Test.YtdmpbaanonafbaaGreatDoorGivPW
import Derived.Test.YtdmpbaanonafbaaGreatDoorScanL
import Derived.Deep.LoopGhost
import Derived.Tactics
import Derived.Tactics2
import Derived.Defers
import Derived.WalkSpells
import Derived.Lib.Hide
import Derived.Test.YtdmpbaanonafbaaGreatDoorX1
import Derived.Test.YtdmpbaanonafbaaGreatDoorSq
import Derived.Recover
import Derived.Laws.Pointers
import Derived.Test.YtdmpbaanonafbaaGreatDoorE0
import Derived.Test.YtdmpbaanonafbaaGreatDoorF1
import Derived.Test.YtdmpbaanonafbaaGreatDoorPlz
/- (procfs.FS).Schedstat by hand: a line at a time; a line is a processor's, or it is passed over. -/
namespace Go.Proofs.YtdmpbaanonafbaaGreatDoor.SsFs
open Go.RowKit Go.Proofs.YtdmpbaanonafbaaGreatDoorW.PrintWords Go.Proofs.YtdmpbaanonafbaaGreatDoorW.PrintLast Go.Proofs.YtdmpbaanonafbaaGreatDoor.GivZ Go.Proofs.YtdmpbaanonafbaaGreatDoorW.PrintMore Go.Proofs.YtdmpbaanonafbaaGreatDoor.Scan Go.Proofs.YtdmpbaanonafbaaGreatDoor.ScanL Go.Proofs.YtdmpbaanonafbaaGreatDoor.GivPW Go.Proofs.YtdmpbaanonafbaaGreatDoor.SsCpu Go.Proofs.YtdmpbaanonafbaaGreatDoor.Z Go.Proofs.YtdmpbaanonafbaaGreatDoor.G
set_option linter.unusedVariables false
set_option linter.unusedSimpArgs false
theorem info_pc : (Tryz.prog.info? 172).map (fun i => (i.zero, i.size, i.bytes)) = some (some (.pointer none), 1, 8) := by kernel_rfl
/-- A line that is a processor's. -/
def RowL (l : ByteArray) (c : Cpu) : Prop := ∃ k ps, procfs_zzNumbers.f k l (⟨#[99, 112, 117]⟩ : ByteArray) 10 = some ps ∧ ps.length = 11 ∧ rdOf ByteArray.empty ps 1 = c.f0 ∧ strconv_ParseU.f (rdOf ByteArray.empty ps 8) 10 64 = some (c.f1, none) ∧ strconv_ParseU.f (rdOf ByteArray.empty ps 9) 10 64 = some (c.f2, none) ∧ strconv_ParseU.f (rdOf ByteArray.empty ps 10) 10 64 = some (c.f3, none)
/-- A line, as what is read of it: none: it is passed over. -/
def SsL (l : ByteArray) (o : Option Cpu) : Prop := match o with
  | none => ∃ k, procfs_zzNumbers.f k l (⟨#[99, 112, 117]⟩ : ByteArray) 10 = some []
  | some c => RowL l c
/-- The processors of some lines. -/
def some_ : List (Option Cpu) → List Cpu
  | [] => []
  | none :: l => some_ l
  | some c :: l => c :: some_ l
theorem some_len : ∀ l, (some_ l).length ≤ l.length
  | [] => Nat.le_refl _
  | none :: l => Nat.le_succ_of_le (some_len l)
  | some _ :: l => Nat.succ_le_succ (some_len l)
theorem open_is (a : ByteArray) (w : World) : Calls Tryz.prog 123 #[.string a] w fun e w' => e = .returned (.tuple #[.string a, .nilIface]) ∧ w = w' := by
  go_enter Tryz.func123, Tryz.ntmps123
  go_wp2
  go_ret2
  exact ⟨rfl, rfl⟩
theorem close_is (a : ByteArray) (w : World) : CallsD Tryz.prog 124 #[.string a] .returning w fun e u' w' => e = .returned .nilIface ∧ u' = .returning ∧ w' = w := by
  have h := callsD_of_wp (P := Tryz.prog) (f := 124) (args := #[.string a]) (u := .returning) (w := w) (R := fun e w' => e = .returned .nilIface ∧ w' = w) Tryz.func124 rfl (by
    simp only [Tryz.ntmps124]
    go_simp
    go_wp2
    go_ret
    exact ⟨rfl, rfl⟩)
  refine h.mono ?_
  rintro e u' w' ⟨h1, h2, h3⟩
  exact ⟨h2, h1, h3⟩
/-- What holds while a processor's record is filled. -/
structure Inv (w : World) (g gs gr gp : Nat) (t1 line : ByteArray) (v : Value) (xs : List Cpu) (cs : Array Value) (a1 a8 a9 a10 : ByteArray) (W : World) : Prop where
  hro : Kd.R pcpu 172 W w.heap.size (fun k => (k ≠ g ∧ k ≠ gs) ∧ k ≠ gr) v xs
  hscn : W.heap[g]? = some (scn t1 line)
  hst : W.heap[gs]? = some (.cells #[v] 101 (0, 0))
  hgr : W.heap[gr]? = some (.cells cs 174 (0, 0))
  p1 : W.cell? ⟨gp, 1, none⟩ = some (.string a1)
  p8 : W.cell? ⟨gp, 8, none⟩ = some (.string a8)
  p9 : W.cell? ⟨gp, 9, none⟩ = some (.string a9)
  p10 : W.cell? ⟨gp, 10, none⟩ = some (.string a10)
  hbw : Below w.heap.size w W
  ge : w.heap.size ≤ gr
  ne1 : g ≠ gr
  ne2 : gs ≠ gr
  ne3 : gp ≠ gr
section
variable {w : World} {g gs gr gp : Nat} {t1 line : ByteArray} {v : Value} {xs : List Cpu} {cs : Array Value} {a1 a8 a9 a10 : ByteArray} {W W' : World}
theorem Inv.below (h : Inv w g gs gr gp t1 line v xs cs a1 a8 a9 a10 W) (hb : Below W.heap.size W W') : Inv w g gs gr gp t1 line v xs cs a1 a8 a9 a10 W' :=
  ⟨Kd.R_below h.hro hb, blk_below h.hscn hb, blk_below h.hst hb, blk_below h.hgr hb, pw_cell_below hb h.p1, pw_cell_below hb h.p8, pw_cell_below hb h.p9, pw_cell_below hb h.p10, below_step h.hbw hb, h.ge, h.ne1, h.ne2, h.ne3⟩
theorem Inv.put (h : Inv w g gs gr gp t1 line v xs cs a1 a8 a9 a10 W) (j : Nat) (u : Value) {cs' : Array Value} (e : cs.setIfInBounds j u = cs') : Inv w g gs gr gp t1 line v xs cs' a1 a8 a9 a10 (W.setCell ⟨gr, j, none⟩ u) :=
  ⟨Kd.R_far h.hro (fun _ hk => hk.2) _, blk_far h.hscn h.ne1 _, blk_far h.hst h.ne2 _, blk_put h.hgr j u e, (cell_far (p := ⟨gr, j, none⟩) (a := ⟨gp, 1, none⟩) h.ne3 u).trans h.p1, (cell_far (p := ⟨gr, j, none⟩) (a := ⟨gp, 8, none⟩) h.ne3 u).trans h.p8, (cell_far (p := ⟨gr, j, none⟩) (a := ⟨gp, 9, none⟩) h.ne3 u).trans h.p9, (cell_far (p := ⟨gr, j, none⟩) (a := ⟨gp, 10, none⟩) h.ne3 u).trans h.p10, below_set h.hbw h.ge, h.ge, h.ne1, h.ne2, h.ne3⟩
end
set_option maxHeartbeats 16000000 in
set_option maxRecDepth 100000 in
theorem Fs_is (a : ByteArray) (os : List (Option Cpu)) (w : World) (hr : ScanRun SsL a os) (hl : os.length ≤ 1000000) (hTabs : Tabs w) :
    Calls Tryz.prog 76 #[.agg #[.string a]] w fun e w' => ∃ gs v, e = .returned (.tuple #[.pointer (some ⟨gs, 0, none⟩), .nilIface]) ∧ w'.heap[gs]? = some (.cells #[v] 101 (0, 0)) ∧ Kd.R pcpu 172 w' w.heap.size (fun _ => True) v (some_ os) ∧ Below w.heap.size w w' := by
  have hu62 := Tryz.underlying62
  have huc := Tryz.underlying174
  have hu1 := Tryz.underlying101
  have hneq : ∀ (w : World) (a : Option Addr) (n c : Nat), (binOp .neq 42 (.slice a n c) (.slice none 0 0)).run Tryz.prog w = .ok (.bool (!a.isNone)) w := fun w a n c => run_neq_slice_nil_any w _ _ a n c 0 0 Tryz.underlying42
  have HR := Lib.hid hr
  have HLN := Lib.hid hl
  have HT := Lib.hid hTabs
  clear hr hTabs hl
  have HB := Aside0.mk (Below.refl w.heap.size w)
  go_enter_defers Tryz.func76, Tryz.ntmps76
  go_wp2_with (first
    | ((with_reducible refine gate_dst (N := 1) rfl ?_); refine box_event ?hg (N := 1) ?hd (cs := #[.string a]) (t := 62) ?hr ?_; (case hd => rfl); (case hg => rfl); (case hr => first | (go_simp; done) | (go_simp; rfl)); intro g1 hg w1 hbox hb
       have hc0 : w1.cell? ⟨g1, 0, none⟩ = some (.string a) := (blk_cell hbox 0).trans rfl
       have n0 := Aside0.mk (below_step HB.out hb); clear HB; have HB := n0; clear n0 hb hbox hg)
    | (go_at_call 119; refine (texts_Text_Path.calls a _ _ [(⟨#[115, 99, 104, 101, 100, 115, 116, 97, 116]⟩ : ByteArray)] a _ (Kd.R_reads' (strs_row _ [(⟨#[115, 99, 104, 101, 100, 115, 116, 97, 116]⟩ : ByteArray)] (by decide))).2.2 (by decide) rfl).mono ?_; rintro e w2 ⟨rfl, hb⟩
       obtain ⟨nd, hnd⟩ := hb.out
       have n0 := Aside0.mk (show Below w.heap.size w w2 by rw [hnd]; exact pw_below_drewN (below_alloc HB.out _) nd); clear HB; have HB := n0; clear n0 hb hnd)
    | (go_at_call 123; refine (open_is _ _).mono ?_; rintro e w3 ⟨rfl, rfl⟩)
    | ((with_reducible refine gate_dst (N := 23) rfl ?_); refine box_event ?hg (N := 23) ?hd (cs := #[.slice none 0 0]) (t := 101) ?hr ?_; (case hd => rfl); (case hg => rfl); (case hr => first | (go_simp; done) | (go_simp; rfl)); intro gs hg w4 hbox hb
       have ST := Aside0.mk hbox
       have GS := Aside0.mk (show w.heap.size ≤ gs by rw [hg]; exact below_size HB.out)
       have n0 := Aside0.mk (below_step HB.out hb); clear HB; have HB := n0; clear n0 hb hbox hg)
    | (go_at_call 133; refine (newLines_is _ _).mono ?_; rintro e w5 ⟨g, rfl, hg, hblk, hb⟩
       have BK := Aside0.mk hblk
       have NE := Aside0.mk (show gs ≠ g by rw [hg]; exact Nat.ne_of_lt (blk_lt ST.out))
       have HG := Aside0.mk (show w.heap.size ≤ g by rw [hg]; exact below_size HB.out)
       have n0 := Aside0.mk (blk_below ST.out hb); clear ST; have ST := n0; clear n0
       have n0 := Aside0.mk (below_step HB.out hb); clear HB; have HB := n0; clear n0 hb hblk hg))
  go_loopg [5] a.size (fun kq v5 w' => v5 = .nilIface ∧ ∃ (t1 line : ByteArray) (xs : List Cpu) (ys : List (Option Cpu)) (v : Value), Aside0 (xs ++ some_ ys = some_ os) ∧ Aside0 (xs.length + ys.length ≤ os.length) ∧ Aside0 (ScanRun SsL t1 ys) ∧ Aside0 (t1.size ≤ kq) ∧ Aside0 (w'.heap[g]? = some (scn t1 line)) ∧ Aside0 (w'.heap[gs]? = some (.cells #[v] 101 (0, 0))) ∧ Aside0 (Kd.R pcpu 172 w' w.heap.size (fun k_ => k_ ≠ g ∧ k_ ≠ gs) v xs) ∧ Aside0 (Below w.heap.size w w'))
  case atStart => exact ⟨rfl, _, _, [], os, _, ⟨rfl⟩, ⟨by simp⟩, ⟨HR.out⟩, ⟨Nat.le_refl _⟩, BK, ST, ⟨Kd.R_nil _ _ _ _ _⟩, HB⟩
  case round =>
    obtain ⟨rfl, t1, line, xs, ys, v, hz, hyl, hrun, hk, hblk, hst, hro, hbw⟩ := hrel
    clear HB BK HR ST
    have hrun := hrun.out
    cases hrun with
    | done =>
      go_wp2_with (first
        | (go_at_call 134; refine (scan_no g line _ hblk.out).mono ?_; rintro e w6 ⟨rfl, hb2, hkb, hbl⟩
           have n0 := Aside0.mk (Kd.R_keep hro.out hkb (fun _ h => h.1)); clear hro; have hro := n0; clear n0
           have n0 := Aside0.mk ((hkb.2 gs (blk_lt hst.out) NE.out (by simp)).trans hst.out); clear hst; have hst := n0; clear n0
           have n0 := Aside0.mk hb2; clear hblk; have hblk := n0; clear n0
           have n0 := Aside0.mk (hbl _ hbw.out HG.out); clear hbw; have hbw := n0; clear n0 hb2 hkb hbl))
      refine leaves_cons (f := 124) (args := #[.string a]) (by simp) (by simp [go_sem]) ?_
      refine (close_is a _).mono ?_
      rintro e u' w'' ⟨rfl, rfl, rfl⟩
      simp [Leaves, settle, results, Tryz.results76, go_sem]
      have hz2 := hz.out
      simp only [some_, List.append_nil] at hz2
      subst hz2
      exact ⟨v, hst.out, Kd.R_mono hro.out (fun _ _ => trivial), hbw.out⟩
    | @row _ n o ys' hL0 hP0 hrest0 =>
      have hL := Lib.hid hL0
      have hrest := Lib.hid hrest0
      clear hL0 hrest0
      have hlt0 := Lib.hid (rest_size t1 n hL.out.hne)
      cases o with
      | none =>
        obtain ⟨kz, hz0⟩ := hP0
        have hZ := Lib.hid hz0
        clear hz0
        go_wp2_with (first
          | (go_at_call 134; refine (scan_yes g t1 line n _ hblk.out hL.out.hne hL.out.hn hL.out.hmost hL.out.hbefore hL.out.hend hL.out.hcr hL.out.hsz).mono ?_; rintro e w6 ⟨rfl, hb2, hkb, hbl⟩
             have n0 := Aside0.mk (Kd.R_keep hro.out hkb (fun _ h => h.1)); clear hro; have hro := n0; clear n0
             have n0 := Aside0.mk ((hkb.2 gs (blk_lt hst.out) NE.out (by simp)).trans hst.out); clear hst; have hst := n0; clear n0
             have n0 := Aside0.mk hb2; clear hblk; have hblk := n0; clear n0
             have n0 := Aside0.mk (hbl _ hbw.out HG.out); clear hbw; have hbw := n0; clear n0 hb2 hkb hbl)
          | (go_at_call 136; refine (text_is g _ _ _ hblk.out).mono ?_; rintro e w7 ⟨rfl, rfl⟩)
          | (go_at_call 135; refine (procfs_zzNumbers.calls kz _ _ 10 [] _ hZ.out).mono ?_; rintro e w8 ⟨v8, rfl, ho, hb, hnil⟩
             obtain rfl := hnil rfl
             have n0 := Aside0.mk (Kd.R_below hro.out hb); clear hro; have hro := n0; clear n0
             have n0 := Aside0.mk (blk_below hblk.out hb); clear hblk; have hblk := n0; clear n0
             have n0 := Aside0.mk (blk_below hst.out hb); clear hst; have hst := n0; clear n0
             have n0 := Aside0.mk (below_step hbw.out hb); clear hbw; have hbw := n0; clear n0 hb ho hnil))
        have hlt := hlt0.out
        have hlk := hk.out
        go_roundg ((rest t1 n).size)
        case measure => omega
        case rel =>
          exact ⟨rfl, _, _, xs, ys', v, ⟨hz.out⟩, ⟨by have := hyl.out; rw [List.length_cons] at this; omega⟩, ⟨hrest.out⟩, ⟨Nat.le_refl _⟩, hblk, hst, hro, hbw⟩
      | some c =>
        obtain ⟨kz, ps, hz0, h11, e1, e8, e9, e10⟩ := hP0
        have hZ := Lib.hid hz0
        have E8 := Lib.hid e8
        have E9 := Lib.hid e9
        have E10 := Lib.hid e10
        have E1 := Lib.hid e1
        have hp1 := Aside0.mk (show 0 < ps.length by rw [h11]; decide)
        have hlen := Aside0.mk (show xs.length + 1 ≤ 1000000 by have h1 := hyl.out; rw [List.length_cons] at h1; have := HLN.out; omega)
        clear hz0 e1 e8 e9 e10
        go_wp2_with (first
          | (go_at_call 134; refine (scan_yes g t1 line n _ hblk.out hL.out.hne hL.out.hn hL.out.hmost hL.out.hbefore hL.out.hend hL.out.hcr hL.out.hsz).mono ?_; rintro e w6 ⟨rfl, hb2, hkb, hbl⟩
             have n0 := Aside0.mk (Kd.R_keep hro.out hkb (fun _ h => h.1)); clear hro; have hro := n0; clear n0
             have n0 := Aside0.mk ((hkb.2 gs (blk_lt hst.out) NE.out (by simp)).trans hst.out); clear hst; have hst := n0; clear n0
             have n0 := Aside0.mk hb2; clear hblk; have hblk := n0; clear n0
             have n0 := Aside0.mk (hbl _ hbw.out HG.out); clear hbw; have hbw := n0; clear n0 hb2 hkb hbl)
          | (go_at_call 136; refine (text_is g _ _ _ hblk.out).mono ?_; rintro e w7 ⟨rfl, rfl⟩)
          | (go_at_call 135; refine (procfs_zzNumbers.calls kz _ _ 10 ps _ hZ.out).mono ?_; rintro e w8 ⟨v8, rfl, ho, hb, hnil⟩; obtain ⟨gp, cp, rfl, hge, hlt, hcp⟩ := Kd.R_form ho hp1.out
             have CO := Aside0.mk (Kd.R_reads' ho).2.2
             have GP := Aside0.mk hlt
             have n0 := Aside0.mk (Kd.R_below hro.out hb); clear hro; have hro := n0; clear n0
             have n0 := Aside0.mk (blk_below hblk.out hb); clear hblk; have hblk := n0; clear n0
             have n0 := Aside0.mk (blk_below hst.out hb); clear hst; have hst := n0; clear n0
             have n0 := Aside0.mk (below_step hbw.out hb); clear hbw; have hbw := n0; clear n0 hb ho hnil hge hlt hcp
             rw [h11] at CO ⊢)
          | ((with_reducible refine gate_dst (N := 34) rfl ?_); refine box_event ?hg (N := 34) ?hd (cs := #[.string (⟨#[]⟩ : ByteArray), .int .u64 0, .int .u64 0, .int .u64 0]) (t := 174) ?hr ?_; (case hd => rfl); (case hg => rfl); (case hr => first | (go_simp; done) | (go_simp; rfl)); intro gr hg w9 hbox hb
             obtain ⟨ad1, f1, x1⟩ := Kd.at_string CO.out 1 (by decide) (by decide)
             cases f1
             obtain ⟨ad8, f8, x8⟩ := Kd.at_string CO.out 8 (by decide) (by decide)
             cases f8
             obtain ⟨ad9, f9, x9⟩ := Kd.at_string CO.out 9 (by decide) (by decide)
             cases f9
             obtain ⟨ad10, f10, x10⟩ := Kd.at_string CO.out 10 (by decide) (by decide)
             cases f10
             have hsz8 := hg
             have IV := Aside0.mk (Inv.mk (w := w) (gr := gr) (t1 := rest t1 n) (line := t1.extract 0 n) (a1 := rdOf ByteArray.empty ps 1) (a8 := rdOf ByteArray.empty ps 8) (a9 := rdOf ByteArray.empty ps 9) (a10 := rdOf ByteArray.empty ps 10) (Kd.R_below (Kd.R_elderB hro.out gr (Nat.le_of_eq hg.symm)) hb) (blk_below hblk.out hb) (blk_below hst.out hb) hbox (pw_cell_below hb x1) (pw_cell_below hb x8) (pw_cell_below hb x9) (pw_cell_below hb x10) (below_step hbw.out hb) (by rw [hg]; exact below_size hbw.out) (by rw [hg]; exact Nat.ne_of_lt (blk_lt hblk.out)) (by rw [hg]; exact Nat.ne_of_lt (blk_lt hst.out)) (by rw [hg]; exact Nat.ne_of_lt GP.out))
             have hx1 := IV.out.p1
             have hx8 := IV.out.p8
             have hy0 := blk_frozen IV.out.hgr 0
             have hc0 : w9.cell? ⟨gr, 0, none⟩ = some (.string (⟨#[]⟩ : ByteArray)) := (blk_cell IV.out.hgr 0).trans rfl
             have hn3 := IV.out.ne3
             clear hro hblk hst hbw CO x1 x8 x9 x10 hg hsz8 hbox hb GP))
        refine (strconv_ParseU.calls _ 10 64 c.f1 none _ E8.out).mono ?_
        rintro e w10 ⟨rfl, hb⟩
        try simp only [errW_none]
        have I2 := Aside0.mk ((IV.out.put 0 (.string (rdOf ByteArray.empty ps 1)) rfl).below hb)
        clear IV hx1 hx8 hy0 hc0 hb
        have hx9 := I2.out.p9
        have hy1 := blk_frozen I2.out.hgr 1
        have hc1 : w10.cell? ⟨gr, 1, none⟩ = some (.int .u64 0) := (blk_cell I2.out.hgr 1).trans rfl
        go_wp2_with fail
        refine (strconv_ParseU.calls _ 10 64 c.f2 none _ E9.out).mono ?_
        rintro e w11 ⟨rfl, hb⟩
        try simp only [errW_none]
        have I3 := Aside0.mk ((I2.out.put 1 (.int .u64 c.f1) rfl).below hb)
        clear I2 hx9 hy1 hc1 hb
        have hx10 := I3.out.p10
        have hy2 := blk_frozen I3.out.hgr 2
        have hc2 : w11.cell? ⟨gr, 2, none⟩ = some (.int .u64 0) := (blk_cell I3.out.hgr 2).trans rfl
        go_wp2_with fail
        refine (strconv_ParseU.calls _ 10 64 c.f3 none _ E10.out).mono ?_
        rintro e w12 ⟨rfl, hb⟩
        try simp only [errW_none]
        have I4 := Aside0.mk ((I3.out.put 2 (.int .u64 c.f2) rfl).below hb)
        clear I3 hx10 hy2 hc2 hb
        have hy3 := blk_frozen I4.out.hgr 3
        have hc3 : w12.cell? ⟨gr, 3, none⟩ = some (.int .u64 0) := (blk_cell I4.out.hgr 3).trans rfl
        have hcs : w12.cell? ⟨gs, 0, none⟩ = some v := (blk_cell I4.out.hst 0).trans rfl
        have hys := blk_frozen I4.out.hst 0
        have hn2 := I4.out.ne2
        have hn2' := I4.out.ne2.symm
        have I5 := Aside0.mk (I4.out.put 3 (.int .u64 c.f3) rfl)
        clear I4
        have SZ := Aside0.mk (show (w12.setCell ⟨gr, 3, none⟩ (.int .u64 c.f3)).heap.size = w12.heap.size by simp [World.setCell])
        go_wp2_with (first
          | ((with_reducible refine gate_builtin (b := .append) (xs := #[.tmp 81, .tmp 83]) rfl ?_); at_builtin; refine Kd.R_append pcpu (w0 := w) w.heap.size rfl (.tmp 81) (.tmp 83) 99 172 (.pointer none) 8 rfl Tryz.underlying99 info_pc rfl (by decide) (by omega) v xs c [.pointer (some ⟨gr, 0, none⟩)] (fun k => k ≠ g ∧ k ≠ gs) (fun k => k = gr) rfl (by rw [SZ.out]; rfl) ?aM ?aO ?aF (Kd.R_mono I5.out.hro (fun _ hk => hk.1)) I5.out.hbw (below_size I5.out.hbw) ?aL ?_
             (case aM => exact ⟨gr, rfl, I5.out.ge, rfl, by have := I5.out.hgr; rw [E1.out] at this; exact this⟩); (case aO => rintro k rfl; exact ⟨⟨I5.out.ne1.symm, I5.out.ne2.symm⟩, Kd.R_away I5.out.hro (fun _ hk => hk.2)⟩); (case aF => exact fun k hk => ⟨fun he => by have := blk_lt I5.out.hscn; omega, fun he => by have := blk_lt I5.out.hst; omega⟩); (case aL => have := hlen.out; omega)
             intro v13 w13 ho hb3 hg3 hat
             obtain ⟨A13, c13, e13⟩ := Kd.R_slice ho
             subst e13
             have hblk := Aside0.mk (blk_grown I5.out.hscn hg3 (Kd.R_ne I5.out.hro I5.out.hscn (by decide)))
             have hst := Aside0.mk (blk_grown I5.out.hst hg3 (Kd.R_ne I5.out.hro I5.out.hst (by decide)))
             have hro := Aside0.mk ho
             have hbw := Aside0.mk hb3
             have hcs2 : w13.cell? ⟨gs, 0, none⟩ = some v := (blk_cell hst.out 0).trans rfl
             have hys2 := blk_frozen hst.out 0
             clear I5 SZ hy3 hc3 hcs hys hn2 hn2' ho hb3 hg3 hat))
        have hlt := hlt0.out
        have hlk := hk.out
        go_roundg ((rest t1 n).size)
        case measure => omega
        case rel =>
          exact ⟨rfl, _, _, xs ++ [c], ys', _, ⟨by have := hz.out; rw [List.append_assoc]; exact this⟩, ⟨by have := hyl.out; rw [List.length_cons] at this; rw [List.length_append, List.length_singleton]; omega⟩, ⟨hrest.out⟩, ⟨Nat.le_refl _⟩, ⟨blk_far hblk.out NE.out.symm _⟩, ⟨blk_put hst.out 0 _ rfl⟩, ⟨by have h := hro.out; rw [List.length_append, List.length_singleton] at h; exact Kd.R_far h (fun _ hk => hk.2) _⟩, ⟨below_set hbw.out GS.out⟩⟩
end Go.Proofs.YtdmpbaanonafbaaGreatDoor.SsFs

/- What impl makes of the record behind a pointer, in the print's form. -/
namespace Go.Proofs.YtdmpbaanonafbaaGreatDoor.SsPtr
open Go.RowKit Go.Proofs.YtdmpbaanonafbaaGreatDoor.SsCpu Go.Proofs.YtdmpbaanonafbaaGreatDoorW.PrintWords Go.Proofs.YtdmpbaanonafbaaGreatDoorW.PrintLast Go.Proofs.YtdmpbaanonafbaaGreatDoor.Flt Go.Proofs.YtdmpbaanonafbaaGreatDoor.GivZ Go.Proofs.YtdmpbaanonafbaaGreatDoorW.PrintMore Go.Proofs.YtdmpbaanonafbaaGreatDoor.E Go.Proofs.YtdmpbaanonafbaaGreatDoor.Z Go.Proofs.YtdmpbaanonafbaaGreatDoor.X
attribute [local go_sem] max2_int min2_int max_two min_two max_three min_three max_four min_four
set_option linter.unusedVariables false
set_option linter.unusedSimpArgs false

set_option maxHeartbeats 8000000 in
set_option maxRecDepth 100000 in
theorem sspointer_is (kf g : Nat) (A : Option Addr) (c : Nat) (l : List Cpu) (n1 : ByteArray) (n2 : Int) (n3 : Bool) (n4 n5 : Int) (n6 : Nat) (n7 : ByteArray) (n8 : List S35) (w : World)
    (hL : w.heap[g]? = some (.cells #[.slice A l.length c] 101 (0, 0))) (hC : pcpu.C w A l.length l) (hc : l.length ≤ c) (h : impl_procfsSchedstat.f kf ByteArray.empty l = some (n1, n2, n3, n4, n5, n6, n7, n8)) :
    Calls Tryz.prog 78 #[.string ByteArray.empty, .pointer (some ⟨g, 0, none⟩), .func (.func 79) #[] #[]] w fun e w' => ∃ v7_ : Value, e = .returned (.agg #[.string n1, .int .i64 n2, .bool n3, .int .i64 n4, .int .u64 n5, .float .f64 n6, .string n7, v7_]) ∧ Kd.R k35 35 w' w.heap.size (fun _ => True) v7_ n8 ∧ Below w.heap.size w w' := by
  have hu35 := Tryz.underlying35
  have hu66 := Tryz.underlying101
  have HL := Aside0.mk hL
  have HCC := Aside0.mk hC
  have HCL := Lib.hid hc
  have HH := Aside0.mk h
  clear hL h hC hc
  have HB := Aside0.mk (Below.refl w.heap.size w)
  go_enter Tryz.func78, Tryz.ntmps78
  go_wp2_with (first
    | ((with_reducible refine gate_dst (N := 6) rfl ?_); refine box_event ?hg (N := 6) ?hd (cs := #[.string (⟨#[]⟩ : ByteArray), .int .i64 0, .bool false, .int .i64 0, .int .u64 0, .float .f64 0, .string (⟨#[]⟩ : ByteArray), .slice none 0 0]) (t := 35) ?hr ?_; (case hd => rfl); (case hg => rfl); (case hr => first | (go_simp; done) | (go_simp; rfl)); intro g4 hg w1 hbox hb
       have n1' := Aside0.mk (blk_below HL.out hb); clear HL; have HL := n1'; clear n1'
       have n1' := Aside0.mk (Kd.C_below HCC.out hb); clear HCC; have HCC := n1'; clear n1'
       have hx0 : w1.cell? ⟨g, 0, none⟩ = some (.slice A l.length c) := (blk_cell HL.out 0).trans rfl
       have hy0 := blk_frozen HL.out 0
       have BK4 := Aside0.mk hbox
       have GE4 := Aside0.mk (show w.heap.size ≤ g4 by rw [hg]; exact below_size HB.out)
       have n0 := Aside0.mk (below_step HB.out hb); clear HB; have HB := n0; clear n0 hb hbox hg))
  refine (impl_procfsSchedstat.calls kf ByteArray.empty A c l n1 n2 n3 n4 n5 n6 n7 n8 _ HCC.out HCL.out HH.out).mono ?_
  rintro e w5 ⟨v7, rfl, ho, hb⟩
  have B4 := blk_below BK4.out hb
  have HR2 := Aside0.mk (Kd.R_lower (Kd.R_newB ho BK4.out) (below_size HB.out))
  have HBW := Aside0.mk (below_step HB.out hb)
  obtain ⟨A7, c7, e7⟩ := Kd.R_slice HR2.out
  subst e7
  have xc0 : w5.cell? ⟨g4, 0, none⟩ = some (.string (⟨#[]⟩ : ByteArray)) := (blk_cell B4 0).trans rfl
  have xf0 := blk_frozen B4 0
  have xc1 : w5.cell? ⟨g4, 1, none⟩ = some (.int .i64 0) := (blk_cell B4 1).trans rfl
  have xf1 := blk_frozen B4 1
  have xc2 : w5.cell? ⟨g4, 2, none⟩ = some (.bool false) := (blk_cell B4 2).trans rfl
  have xf2 := blk_frozen B4 2
  have xc3 : w5.cell? ⟨g4, 3, none⟩ = some (.int .i64 0) := (blk_cell B4 3).trans rfl
  have xf3 := blk_frozen B4 3
  have xc4 : w5.cell? ⟨g4, 4, none⟩ = some (.int .u64 0) := (blk_cell B4 4).trans rfl
  have xf4 := blk_frozen B4 4
  have xc5 : w5.cell? ⟨g4, 5, none⟩ = some (.float .f64 0) := (blk_cell B4 5).trans rfl
  have xf5 := blk_frozen B4 5
  have xc6 : w5.cell? ⟨g4, 6, none⟩ = some (.string (⟨#[]⟩ : ByteArray)) := (blk_cell B4 6).trans rfl
  have xf6 := blk_frozen B4 6
  have xc7 : w5.cell? ⟨g4, 7, none⟩ = some (.slice none 0 0) := (blk_cell B4 7).trans rfl
  have xf7 := blk_frozen B4 7
  have BW := Aside0.mk B4
  clear B4 ho hb BK4 HB
  go_wp2
  refine bodyPost_ret (results_cell_row rfl _ _ g4 35 #[.string n1, .int .i64 n2, .bool n3, .int .i64 n4, .int .u64 n5, .float .f64 n6, .string n7, .slice A7 n8.length c7] (0, 0) _ rfl (by exact blk_put8 BW.out) hu35 rfl rfl) rfl ?_
  exact ⟨_, rfl, Kd.R_mono (ok := fun k => True ∧ k ≠ g4) (by refine Kd.R_far8 (g := g4) ?_ (fun _ hk => hk.2) _ _ _ _ _ _ _ _; exact HR2.out) (fun _ _ => trivial), by refine below_set ?_ GE4.out; refine below_set ?_ GE4.out; refine below_set ?_ GE4.out; refine below_set ?_ GE4.out; refine below_set ?_ GE4.out; refine below_set ?_ GE4.out; refine below_set ?_ GE4.out; refine below_set ?_ GE4.out; exact HBW.out⟩

set_option maxHeartbeats 8000000 in
set_option maxRecDepth 100000 in
theorem ss1_is (kf g : Nat) (A : Option Addr) (c : Nat) (l : List Cpu) (n1 : ByteArray) (n2 : Int) (n3 : Bool) (n4 n5 : Int) (n6 : Nat) (n7 : ByteArray) (n8 : List S35) (w : World)
    (hL : w.heap[g]? = some (.cells #[.slice A l.length c] 101 (0, 0))) (hC : pcpu.C w A l.length l) (hc : l.length ≤ c) (h : impl_procfsSchedstat.f kf ByteArray.empty l = some (n1, n2, n3, n4, n5, n6, n7, n8)) :
    Calls Tryz.prog 77 #[.pointer (some ⟨g, 0, none⟩)] w fun e w' => ∃ v7_ : Value, e = .returned (.agg #[.string n1, .int .i64 n2, .bool n3, .int .i64 n4, .int .u64 n5, .float .f64 n6, .string n7, v7_]) ∧ Kd.R k35 35 w' w.heap.size (fun _ => True) v7_ n8 ∧ Below w.heap.size w w' := by
  have hu35 := Tryz.underlying35
  have HL := Aside0.mk hL
  have HCC := Aside0.mk hC
  have HCL := Lib.hid hc
  have HH := Aside0.mk h
  clear hL h hC hc
  have HB := Aside0.mk (Below.refl w.heap.size w)
  go_enter Tryz.func77, Tryz.ntmps77
  go_wp2_with (first
    | ((with_reducible refine gate_dst (N := 2) rfl ?_); refine box_event ?hg (N := 2) ?hd (cs := #[.string (⟨#[]⟩ : ByteArray), .int .i64 0, .bool false, .int .i64 0, .int .u64 0, .float .f64 0, .string (⟨#[]⟩ : ByteArray), .slice none 0 0]) (t := 35) ?hr ?_; (case hd => rfl); (case hg => rfl); (case hr => first | (go_simp; done) | (go_simp; rfl)); intro g4 hg w1 hbox hb
       have n1' := Aside0.mk (blk_below HL.out hb); clear HL; have HL := n1'; clear n1'
       have n1' := Aside0.mk (Kd.C_below HCC.out hb); clear HCC; have HCC := n1'; clear n1'
       have BK4 := Aside0.mk hbox
       have GE4 := Aside0.mk (show w.heap.size ≤ g4 by rw [hg]; exact below_size HB.out)
       have n0 := Aside0.mk (below_step HB.out hb); clear HB; have HB := n0; clear n0 hb hbox hg))
  refine (sspointer_is kf g A c l n1 n2 n3 n4 n5 n6 n7 n8 _ HL.out HCC.out HCL.out HH.out).mono ?_
  rintro e w5 ⟨v7, rfl, ho, hb⟩
  have B4 := blk_below BK4.out hb
  have HR2 := Aside0.mk (Kd.R_lower (Kd.R_newB ho BK4.out) (below_size HB.out))
  have HBW := Aside0.mk (below_step HB.out hb)
  obtain ⟨A7, c7, e7⟩ := Kd.R_slice HR2.out
  subst e7
  have xc0 : w5.cell? ⟨g4, 0, none⟩ = some (.string (⟨#[]⟩ : ByteArray)) := (blk_cell B4 0).trans rfl
  have xf0 := blk_frozen B4 0
  have xc1 : w5.cell? ⟨g4, 1, none⟩ = some (.int .i64 0) := (blk_cell B4 1).trans rfl
  have xf1 := blk_frozen B4 1
  have xc2 : w5.cell? ⟨g4, 2, none⟩ = some (.bool false) := (blk_cell B4 2).trans rfl
  have xf2 := blk_frozen B4 2
  have xc3 : w5.cell? ⟨g4, 3, none⟩ = some (.int .i64 0) := (blk_cell B4 3).trans rfl
  have xf3 := blk_frozen B4 3
  have xc4 : w5.cell? ⟨g4, 4, none⟩ = some (.int .u64 0) := (blk_cell B4 4).trans rfl
  have xf4 := blk_frozen B4 4
  have xc5 : w5.cell? ⟨g4, 5, none⟩ = some (.float .f64 0) := (blk_cell B4 5).trans rfl
  have xf5 := blk_frozen B4 5
  have xc6 : w5.cell? ⟨g4, 6, none⟩ = some (.string (⟨#[]⟩ : ByteArray)) := (blk_cell B4 6).trans rfl
  have xf6 := blk_frozen B4 6
  have xc7 : w5.cell? ⟨g4, 7, none⟩ = some (.slice none 0 0) := (blk_cell B4 7).trans rfl
  have xf7 := blk_frozen B4 7
  have BW := Aside0.mk B4
  clear B4 ho hb BK4 HB
  go_wp2
  refine bodyPost_ret (results_cell_row rfl _ _ g4 35 #[.string n1, .int .i64 n2, .bool n3, .int .i64 n4, .int .u64 n5, .float .f64 n6, .string n7, .slice A7 n8.length c7] (0, 0) _ rfl (by exact blk_put8 BW.out) hu35 rfl rfl) rfl ?_
  exact ⟨_, rfl, Kd.R_mono (ok := fun k => True ∧ k ≠ g4) (by refine Kd.R_far8 (g := g4) ?_ (fun _ hk => hk.2) _ _ _ _ _ _ _ _; exact HR2.out) (fun _ _ => trivial), by refine below_set ?_ GE4.out; refine below_set ?_ GE4.out; refine below_set ?_ GE4.out; refine below_set ?_ GE4.out; refine below_set ?_ GE4.out; refine below_set ?_ GE4.out; refine below_set ?_ GE4.out; refine below_set ?_ GE4.out; exact HBW.out⟩

end Go.Proofs.YtdmpbaanonafbaaGreatDoor.SsPtr

/- impl.Schedstat by hand, in the print's form: the door's defer and recover; what is told: texts that are read without an error. -/
namespace Go.Proofs.YtdmpbaanonafbaaGreatDoor.DoorSs
open Go.RowKit Go.Proofs.YtdmpbaanonafbaaGreatDoorPt Go.Proofs.YtdmpbaanonafbaaGreatDoorW.PrintWords Go.Proofs.YtdmpbaanonafbaaGreatDoorW.PrintLast Go.Proofs.YtdmpbaanonafbaaGreatDoor.Flt Go.Proofs.YtdmpbaanonafbaaGreatDoor.GivZ Go.Proofs.YtdmpbaanonafbaaGreatDoorW.PrintMore Go.Proofs.YtdmpbaanonafbaaGreatDoor.E Go.Proofs.YtdmpbaanonafbaaGreatDoor.G Go.Proofs.YtdmpbaanonafbaaGreatDoor.Z Go.Proofs.YtdmpbaanonafbaaGreatDoor.X Go.Proofs.YtdmpbaanonafbaaGreatDoor.ScanL Go.Proofs.YtdmpbaanonafbaaGreatDoor.SsCpu Go.Proofs.YtdmpbaanonafbaaGreatDoor.SsFs Go.Proofs.YtdmpbaanonafbaaGreatDoor.SsPtr Go.Proofs.YtdmpbaanonafbaaGreatDoor.GivPW
attribute [local go_sem] max2_int min2_int max_two min_two max_three min_three max_four min_four
set_option linter.unusedVariables false
set_option linter.unusedSimpArgs false

/-- A line as what is read of it. -/
def ssNum (ps : List ByteArray) (i : Int) : Option Int := (strconv_ParseU.f (rdOf ByteArray.empty ps i) 10 64).bind fun r => if r.2 = none then some r.1 else none
def ssOf (ps : List ByteArray) : Option (Option Cpu) := if ps = [] then some none else if ps.length = 11 then (ssNum ps 8).bind fun x => (ssNum ps 9).bind fun y => (ssNum ps 10).bind fun z => some (some ⟨rdOf ByteArray.empty ps 1, x, y, z⟩) else none
def ssRow (k : Nat) (l : List UInt8) : Option (Option Cpu) := (procfs_zzNumbers.f k (toB l) (⟨#[99, 112, 117]⟩ : ByteArray) 10).bind ssOf
theorem ssNum_is {ps : List ByteArray} {i v : Int} (h : ssNum ps i = some v) : strconv_ParseU.f (rdOf ByteArray.empty ps i) 10 64 = some (v, none) := by
  unfold ssNum at h
  obtain ⟨⟨r1, r2⟩, hr, h⟩ := Option.bind_eq_some_iff.1 h
  by_cases c : r2 = none
  · subst c
    rw [if_pos rfl] at h
    obtain rfl := Option.some.inj h
    exact hr
  · rw [if_neg c] at h; cases h
theorem ssRow_is (k : Nat) (l : List UInt8) (o : Option Cpu) (h : ssRow k l = some o) : SsL (toB l) o := by
  unfold ssRow at h
  obtain ⟨ps, hp, h⟩ := Option.bind_eq_some_iff.1 h
  unfold ssOf at h
  by_cases c : ps = []
  · rw [if_pos c] at h
    obtain rfl := Option.some.inj h
    subst c
    exact ⟨k, hp⟩
  · rw [if_neg c] at h
    by_cases c2 : ps.length = 11
    · rw [if_pos c2] at h
      obtain ⟨x, hx, h⟩ := Option.bind_eq_some_iff.1 h
      obtain ⟨y, hy, h⟩ := Option.bind_eq_some_iff.1 h
      obtain ⟨z, hz, h⟩ := Option.bind_eq_some_iff.1 h
      obtain rfl := Option.some.inj h
      exact ⟨k, ps, hp, c2, rfl, ssNum_is hx, ssNum_is hy, ssNum_is hz⟩
    · rw [if_neg c2] at h; cases h
theorem mapO_mono {α β : Type} {f g : α → Option β} (h : ∀ x, LeO (f x) (g x)) : ∀ l, LeO (mapO f l) (mapO g l)
  | [] => LeO.refl _
  | x :: l => LeO.bind (h x) fun y => LeO.bind (mapO_mono h l) fun ys => LeO.refl _
theorem runO_mono {β : Type} {f g : List UInt8 → Option β} (h : ∀ x, LeO (f x) (g x)) (l : List UInt8) : LeO (runO f l) (runO g l) := LeO.ite (mapO_mono h _) (LeO.refl _)

set_option maxRecDepth 100000 in
theorem catch_idle (p q : Addr) (w : World) :
    CallsD Tryz.prog 132 #[.pointer (some p), .pointer (some q)] .returning w fun e u' w' => e = .returned (.tuple #[]) ∧ u' = .returning ∧ w' = w := by
  refine callsD_of_wpS Tryz.func132 rfl fun c₀ cs hu => ?_
  apply wpS_seq
  apply wpS_region
  simp [wpOpsS, go_sem, recoverD, hu, Tryz.ntmps132, Exit.thenS]
  refine wpS_cond (t := false) (by simp [Act.eval, Array.replicate]) ?_
  simp only [Bool.false_eq_true, if_false]
  refine wpS_of_wp (wp_skip ?_)
  cases c₀
  simp_all [bodyPostS, results, Tryz.results132]

set_option maxHeartbeats 8000000 in
set_option maxRecDepth 100000 in
theorem tree_is (a0 : ByteArray) (n1 : ByteArray) (n2 : Int) (n3 : Bool) (n4 n5 : Int) (n6 : Nat) (n7 : ByteArray) (n8 : List S35) (PR : World → World → Value → Prop) (w : World)
    (h1 : ∀ w, Tabs w → Calls Tryz.prog 76 #[.agg #[.string a0]] w fun e w' => ∃ v : Value, e = .returned (.tuple #[v, .nilIface]) ∧ PR w w' v ∧ Below w.heap.size w w')
    (h2 : ∀ w0 w v, PR w0 w v → Calls Tryz.prog 77 #[v] w fun e w' => ∃ v7_ : Value, e = .returned (.agg #[.string n1, .int .i64 n2, .bool n3, .int .i64 n4, .int .u64 n5, .float .f64 n6, .string n7, v7_]) ∧ Kd.R k35 35 w' w.heap.size (fun _ => True) v7_ n8 ∧ Below w.heap.size w w') (hTabs : Tabs w) :
    Calls Tryz.prog 75 #[.func (.func 76) #[.agg #[.string a0]] #[], .func (.func 77) #[] #[]] w fun e w' => ∃ v7_ : Value, e = .returned (.tuple #[.agg #[.string n1, .int .i64 n2, .bool n3, .int .i64 n4, .int .u64 n5, .float .f64 n6, .string n7, v7_], .int .i64 0]) ∧ Kd.R k35 35 w' w.heap.size (fun _ => True) v7_ n8 ∧ Below w.heap.size w w' := by
  have hmf : ∀ (fn : Fn) (first cap : Array Value) (w : World), (Instr.makeFunc fn first cap).run Tryz.prog w = .ok (.func fn first cap) w := fun _ _ _ _ => rfl
  have hu35 := Tryz.underlying35
  have HA := Lib.hid h1
  have HA2 := Lib.hid h2
  clear h1 h2
  have HB := Aside0.mk (Below.refl w.heap.size w)
  go_enter_defers Tryz.func75, Tryz.ntmps75
  go_wp2_with (first
    | ((with_reducible refine gate_dst (N := 4) rfl ?_); refine box_event ?hg (N := 4) ?hd (cs := #[.string (⟨#[]⟩ : ByteArray), .int .i64 0, .bool false, .int .i64 0, .int .u64 0, .float .f64 0, .string (⟨#[]⟩ : ByteArray), .slice none 0 0]) (t := 35) ?hr ?_; (case hd => rfl); (case hg => rfl); (case hr => first | (go_simp; done) | (go_simp; rfl)); intro g4 hg w1 hbox hb
       have BK4 := Aside0.mk hbox
       have GE4 := Aside0.mk (show w.heap.size ≤ g4 by rw [hg]; exact below_size HB.out)
       have n0 := Aside0.mk (below_step HB.out hb); clear HB; have HB := n0; clear n0 hb hbox hg)
    | ((with_reducible refine gate_dst (N := 5) rfl ?_); refine box_event ?hg (N := 5) ?hd (cs := #[.int .i64 0]) (t := 3) ?hr ?_; (case hd => rfl); (case hg => rfl); (case hr => first | (go_simp; done) | (go_simp; rfl)); intro g5 hg w2 hbox hb
       have BK5 := Aside0.mk hbox
       have NE := Aside0.mk (show g4 ≠ g5 by rw [hg]; exact Nat.ne_of_lt (blk_lt BK4.out))
       have n1 := Aside0.mk (blk_below BK4.out hb); clear BK4; have BK4 := n1; clear n1
       have GE5 := Aside0.mk (show w.heap.size ≤ g5 by rw [hg]; exact below_size HB.out)
       have n0 := Aside0.mk (below_step HB.out hb); clear HB; have HB := n0; clear n0 hb hbox hg)
    | (go_at_call 76; refine (HA.out _ (Tabs.below hTabs HB.out)).mono ?_; rintro e w3 ⟨vr, rfl, hp, hb⟩
       have HP := Aside0.mk hp
       have n1 := Aside0.mk (blk_below BK4.out hb); clear BK4; have BK4 := n1; clear n1
       have n1 := Aside0.mk (blk_below BK5.out hb); clear BK5; have BK5 := n1; clear n1
       have n0 := Aside0.mk (below_step HB.out hb); clear HB; have HB := n0; clear n0 hb hp))
  refine (HA2.out _ _ _ HP.out).mono ?_
  rintro e w5 ⟨v7, rfl, ho, hb⟩
  have B4 := blk_below BK4.out hb
  have B5 := blk_below BK5.out hb
  have HB5 := below_step HB.out hb
  have HR := Kd.R_newB (Kd.R_newB ho BK4.out) BK5.out
  have HR2 := Aside0.mk (Kd.R_lower HR (below_size HB.out))
  have HBW := Aside0.mk HB5
  obtain ⟨A7, c7, e7⟩ := Kd.R_slice HR2.out
  subst e7
  have hne := NE.out
  have hne2 := NE.out.symm
  have xc0 : w5.cell? ⟨g4, 0, none⟩ = some (.string (⟨#[]⟩ : ByteArray)) := (blk_cell B4 0).trans rfl
  have xf0 := blk_frozen B4 0
  have xc1 : w5.cell? ⟨g4, 1, none⟩ = some (.int .i64 0) := (blk_cell B4 1).trans rfl
  have xf1 := blk_frozen B4 1
  have xc2 : w5.cell? ⟨g4, 2, none⟩ = some (.bool false) := (blk_cell B4 2).trans rfl
  have xf2 := blk_frozen B4 2
  have xc3 : w5.cell? ⟨g4, 3, none⟩ = some (.int .i64 0) := (blk_cell B4 3).trans rfl
  have xf3 := blk_frozen B4 3
  have xc4 : w5.cell? ⟨g4, 4, none⟩ = some (.int .u64 0) := (blk_cell B4 4).trans rfl
  have xf4 := blk_frozen B4 4
  have xc5 : w5.cell? ⟨g4, 5, none⟩ = some (.float .f64 0) := (blk_cell B4 5).trans rfl
  have xf5 := blk_frozen B4 5
  have xc6 : w5.cell? ⟨g4, 6, none⟩ = some (.string (⟨#[]⟩ : ByteArray)) := (blk_cell B4 6).trans rfl
  have xf6 := blk_frozen B4 6
  have xc7 : w5.cell? ⟨g4, 7, none⟩ = some (.slice none 0 0) := (blk_cell B4 7).trans rfl
  have xf7 := blk_frozen B4 7
  have yc0 : w5.cell? ⟨g5, 0, none⟩ = some (.int .i64 0) := (blk_cell B5 0).trans rfl
  have yf0 := blk_frozen B5 0
  clear B4 B5 HR HB5 ho hb BK4 BK5 HB HP
  go_wp2
  refine leaves_cons (f := 132) (args := #[.pointer (some ⟨g4, 0, none⟩), .pointer (some ⟨g5, 0, none⟩)]) (by simp) (by simp [go_sem]) ?_
  refine (catch_idle ⟨g4, 0, none⟩ ⟨g5, 0, none⟩ _).mono ?_
  rintro e u' w'' ⟨rfl, rfl, rfl⟩
  simp [Leaves, settle, results, Tryz.results75, go_sem, xc0, xc1, xc2, xc3, xc4, xc5, xc6, xc7, yc0, hne, hne2]
  refine ⟨Kd.R_mono (ok := fun k => (True ∧ k ≠ g4) ∧ k ≠ g5) (by refine Kd.R_far (p := ⟨g5, 0, none⟩) ?_ (fun _ hk => hk.2) _; refine Kd.R_far8 (g := g4) ?_ (fun _ hk => hk.1.2) _ _ _ _ _ _ _ _; exact HR2.out) (fun _ _ => trivial), by refine below_set ?_ GE5.out; refine below_set ?_ GE4.out; refine below_set ?_ GE4.out; refine below_set ?_ GE4.out; refine below_set ?_ GE4.out; refine below_set ?_ GE4.out; refine below_set ?_ GE4.out; refine below_set ?_ GE4.out; refine below_set ?_ GE4.out; exact HBW.out⟩

set_option maxHeartbeats 8000000 in
set_option maxRecDepth 100000 in
theorem door_is (a0 : ByteArray) (n1 : ByteArray) (n2 : Int) (n3 : Bool) (n4 n5 : Int) (n6 : Nat) (n7 : ByteArray) (n8 : List S35) (PR : World → World → Value → Prop) (w : World)
    (h1 : ∀ w, Tabs w → Calls Tryz.prog 76 #[.agg #[.string a0]] w fun e w' => ∃ v : Value, e = .returned (.tuple #[v, .nilIface]) ∧ PR w w' v ∧ Below w.heap.size w w')
    (h2 : ∀ w0 w v, PR w0 w v → Calls Tryz.prog 77 #[v] w fun e w' => ∃ v7_ : Value, e = .returned (.agg #[.string n1, .int .i64 n2, .bool n3, .int .i64 n4, .int .u64 n5, .float .f64 n6, .string n7, v7_]) ∧ Kd.R k35 35 w' w.heap.size (fun _ => True) v7_ n8 ∧ Below w.heap.size w w') (hTabs : Tabs w) :
    Calls Tryz.prog 23 #[.string a0] w fun e w' => ∃ v7_ : Value, e = .returned (.tuple #[.agg #[.string n1, .int .i64 n2, .bool n3, .int .i64 n4, .int .u64 n5, .float .f64 n6, .string n7, v7_], .int .i64 0]) ∧ Kd.R k35 35 w' w.heap.size (fun _ => True) v7_ n8 ∧ Below w.heap.size w w' := by
  have hmf : ∀ (fn : Fn) (first cap : Array Value) (w : World), (Instr.makeFunc fn first cap).run Tryz.prog w = .ok (.func fn first cap) w := fun _ _ _ _ => rfl
  have hu35 := Tryz.underlying35
  have HA := Lib.hid h1
  have HA2 := Lib.hid h2
  clear h1 h2
  have HB := Aside0.mk (Below.refl w.heap.size w)
  go_enter Tryz.func23, Tryz.ntmps23
  go_wp2_with (first
    | ((with_reducible refine gate_dst (N := 2) rfl ?_); refine box_event ?hg (N := 2) ?hd (cs := #[.string (⟨#[]⟩ : ByteArray), .int .i64 0, .bool false, .int .i64 0, .int .u64 0, .float .f64 0, .string (⟨#[]⟩ : ByteArray), .slice none 0 0]) (t := 35) ?hr ?_; (case hd => rfl); (case hg => rfl); (case hr => first | (go_simp; done) | (go_simp; rfl)); intro g4 hg w1 hbox hb
       have BK4 := Aside0.mk hbox
       have GE4 := Aside0.mk (show w.heap.size ≤ g4 by rw [hg]; exact below_size HB.out)
       have n0 := Aside0.mk (below_step HB.out hb); clear HB; have HB := n0; clear n0 hb hbox hg)
    | (go_at_call 50; refine (F.procfs_TextFS.calls a0 a0 _ rfl).mono ?_; rintro e w2 ⟨rfl, hb⟩
       have n1 := Aside0.mk (blk_below BK4.out hb); clear BK4; have BK4 := n1; clear n1
       have n0 := Aside0.mk (below_step HB.out hb); clear HB; have HB := n0; clear n0 hb))
  refine (tree_is a0 n1 n2 n3 n4 n5 n6 n7 n8 PR _ HA.out HA2.out (Tabs.below hTabs HB.out)).mono ?_
  rintro e w5 ⟨v7, rfl, ho, hb⟩
  have B4 := blk_below BK4.out hb
  have HR2 := Aside0.mk (Kd.R_lower (Kd.R_newB ho BK4.out) (below_size HB.out))
  have HBW := Aside0.mk (below_step HB.out hb)
  obtain ⟨A7, c7, e7⟩ := Kd.R_slice HR2.out
  subst e7
  have xc0 : w5.cell? ⟨g4, 0, none⟩ = some (.string (⟨#[]⟩ : ByteArray)) := (blk_cell B4 0).trans rfl
  have xf0 := blk_frozen B4 0
  have xc1 : w5.cell? ⟨g4, 1, none⟩ = some (.int .i64 0) := (blk_cell B4 1).trans rfl
  have xf1 := blk_frozen B4 1
  have xc2 : w5.cell? ⟨g4, 2, none⟩ = some (.bool false) := (blk_cell B4 2).trans rfl
  have xf2 := blk_frozen B4 2
  have xc3 : w5.cell? ⟨g4, 3, none⟩ = some (.int .i64 0) := (blk_cell B4 3).trans rfl
  have xf3 := blk_frozen B4 3
  have xc4 : w5.cell? ⟨g4, 4, none⟩ = some (.int .u64 0) := (blk_cell B4 4).trans rfl
  have xf4 := blk_frozen B4 4
  have xc5 : w5.cell? ⟨g4, 5, none⟩ = some (.float .f64 0) := (blk_cell B4 5).trans rfl
  have xf5 := blk_frozen B4 5
  have xc6 : w5.cell? ⟨g4, 6, none⟩ = some (.string (⟨#[]⟩ : ByteArray)) := (blk_cell B4 6).trans rfl
  have xf6 := blk_frozen B4 6
  have xc7 : w5.cell? ⟨g4, 7, none⟩ = some (.slice none 0 0) := (blk_cell B4 7).trans rfl
  have xf7 := blk_frozen B4 7
  have BW := Aside0.mk B4
  clear B4 ho hb BK4 HB
  go_wp2
  refine bodyPost_ret (results_ct rfl _ _ g4 35 #[.string n1, .int .i64 n2, .bool n3, .int .i64 n4, .int .u64 n5, .float .f64 n6, .string n7, .slice A7 n8.length c7] (0, 0) _ rfl (by exact blk_put8 BW.out) hu35 rfl rfl) rfl ?_
  exact ⟨_, rfl, Kd.R_mono (ok := fun k => True ∧ k ≠ g4) (by refine Kd.R_far8 (g := g4) ?_ (fun _ hk => hk.2) _ _ _ _ _ _ _ _; exact HR2.out) (fun _ _ => trivial), by refine below_set ?_ GE4.out; refine below_set ?_ GE4.out; refine below_set ?_ GE4.out; refine below_set ?_ GE4.out; refine below_set ?_ GE4.out; refine below_set ?_ GE4.out; refine below_set ?_ GE4.out; refine below_set ?_ GE4.out; exact HBW.out⟩

/-- What the door answers of a text of processors. -/
def impl_Schedstat.f (k : Nat) (a0 : ByteArray) : Option (ByteArray × Int × Bool × Int × Int × Nat × ByteArray × List S35 × Int) :=
  if a0.size ≤ 1048576 then (runO (ssRow k) a0.data.toList).bind fun os => if os.length ≤ 1000000 then (impl_procfsSchedstat.f k ByteArray.empty (some_ os)).bind fun m => some (m.1, m.2.1, m.2.2.1, m.2.2.2.1, m.2.2.2.2.1, m.2.2.2.2.2.1, m.2.2.2.2.2.2.1, m.2.2.2.2.2.2.2, 0) else none else none
theorem impl_Schedstat.mono : ∀ a0 k, LeO (impl_Schedstat.f k a0) (impl_Schedstat.f (k + 1) a0) := fun a0 k =>
  LeO.ite (LeO.bind (runO_mono (fun l => LeO.bind (procfs_zzNumbers.mono (toB l) (⟨#[99, 112, 117]⟩ : ByteArray) 10 k) fun ps => LeO.refl _) _) fun os => LeO.ite (LeO.bind (impl_procfsSchedstat.mono _ _ _) fun m => LeO.refl _) (LeO.refl _)) (LeO.refl _)
set_option maxRecDepth 100000 in
set_option maxHeartbeats 8000000 in
theorem impl_Schedstat.calls (k : Nat) (a0 : ByteArray) (n1 : ByteArray) (n2 : Int) (n3 : Bool) (n4 n5 : Int) (n6 : Nat) (n7 : ByteArray) (n8 : List S35) (n9 : Int) (w : World) (h : impl_Schedstat.f k a0 = some (n1, n2, n3, n4, n5, n6, n7, n8, n9)) (hTabs : Tabs w := by first | exact hTabs | exact Tabs.below hTabs (by repeat (first | (with_reducible first | exact HB.out | apply below_alloc | apply pw_below_drewN | apply below_drew1 | refine below_set ?_ (Aside0.out (by assumption))) | exact HB.out))) :
    Calls Tryz.prog 23 #[.string a0] w fun e w' =>
      ∃ v7_ : Value, e = .returned (.tuple #[.agg #[.string n1, .int .i64 n2, .bool n3, .int .i64 n4, .int .u64 n5, .float .f64 n6, .string n7, v7_], .int .i64 n9]) ∧ Kd.R k35 35 w' w.heap.size (fun _ => True) v7_ n8 ∧ Below w.heap.size w w' := by
  unfold impl_Schedstat.f at h
  by_cases c1 : a0.size ≤ 1048576
  · rw [if_pos c1] at h
    obtain ⟨os, hz, h1⟩ := Option.bind_eq_some_iff.1 h
    clear h
    by_cases c2 : os.length ≤ 1000000
    · rw [if_pos c2] at h1
      obtain ⟨⟨m1, m2, m3, m4, m5, m6, m7, m8⟩, hm, h5⟩ := Option.bind_eq_some_iff.1 h1
      clear h1
      simp only [Option.some.injEq, Prod.mk.injEq] at h5
      obtain ⟨rfl, rfl, rfl, rfl, rfl, rfl, rfl, rfl, rfl⟩ := h5
      have hrun : ScanRun SsL a0 os := by have := runO_scan SsL (ssRow k) (ssRow_is k) _ _ hz; rw [toB_of] at this; exact this
      refine door_is a0 _ _ _ _ _ _ _ _ (fun w0 w' v => ∃ g A c, v = .pointer (some ⟨g, 0, none⟩) ∧ w'.heap[g]? = some (.cells #[.slice A (some_ os).length c] 101 (0, 0)) ∧ pcpu.C w' A (some_ os).length (some_ os) ∧ (some_ os).length ≤ c) w (fun w hT => ?_) (fun w0 w v hp => ?_) hTabs
      · refine (Fs_is a0 os w hrun c2 hT).mono ?_
        rintro e w' ⟨g, v, rfl, hg, hR, hb⟩
        obtain ⟨A, c, rfl, hlc, hC⟩ := Kd.R_reads hR
        exact ⟨_, rfl, ⟨g, A, c, rfl, hg, hC, hlc⟩, hb⟩
      · obtain ⟨g, A, c, rfl, hg, hC, hlc⟩ := hp
        exact ss1_is k g A c (some_ os) _ _ _ _ _ _ _ _ w hg hC hlc hm
    · rw [if_neg c2] at h1; cases h1
  · rw [if_neg c1] at h; cases h
end Go.Proofs.YtdmpbaanonafbaaGreatDoor.DoorSs
