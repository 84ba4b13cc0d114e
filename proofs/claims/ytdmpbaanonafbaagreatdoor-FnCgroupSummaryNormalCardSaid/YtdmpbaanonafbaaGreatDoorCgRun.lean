import Derived.Test.YtdmpbaanonafbaaGreatDoorGivZ
import Derived.Test.YtdmpbaanonafbaaGreatDoorAtoi
import Derived.Tactics
import Derived.Tactics2
import Derived.Lib.Hide
import Derived.Test.YtdmpbaanonafbaaGreatDoorScan
import Derived.Deep.LoopGhost
import Derived.Test.YtdmpbaanonafbaaGreatDoorH1
/- procfs.parseCgroupSummaryString by hand: a line of a name and three numbers. -/
namespace Go.Proofs.YtdmpbaanonafbaaGreatDoor.CgString
open Go.RowKit Go.Proofs.YtdmpbaanonafbaaGreatDoorW.PrintWords Go.Proofs.YtdmpbaanonafbaaGreatDoorW.PrintLast Go.Proofs.YtdmpbaanonafbaaGreatDoor.GivZ Go.Proofs.YtdmpbaanonafbaaGreatDoorW.PrintMore Go.Proofs.YtdmpbaanonafbaaGreatDoor.AtoiOf Go.Proofs.YtdmpbaanonafbaaGreatDoor.GivDec
set_option linter.unusedVariables false
set_option linter.unusedSimpArgs false
/-- A text of a number that Atoi reads. -/
def AtoiIs (t : ByteArray) (v : Nat) : Prop := 0 < t.size ∧ t.size < 19 ∧ decv 0 t.data.toList = some v
theorem atoi_of {t : ByteArray} {v : Nat} (h : AtoiIs t v) (w : World) : Calls Tryz.prog 179 #[.string t] w fun e w' => e = .returned (.tuple #[.int .i64 v, .nilIface]) ∧ Below w.heap.size w w' := sAtoi t h.1 h.2.1 v h.2.2 w
set_option maxHeartbeats 8000000 in
set_option maxRecDepth 100000 in
theorem cgString_is (s : ByteArray) (ps : List ByteArray) (a b c : Nat) (w : World) (hf : strings_Fields.f s = some ps) (hlen : 4 ≤ ps.length)
    (ha : AtoiIs (rdOf ByteArray.empty ps 1) a) (hb : AtoiIs (rdOf ByteArray.empty ps 2) b) (hc : AtoiIs (rdOf ByteArray.empty ps 3) c) (hTabs : Tabs w) :
    Calls Tryz.prog 165 #[.string s] w fun e w' => ∃ g, e = .returned (.tuple #[.pointer (some ⟨g, 0, none⟩), .nilIface]) ∧ w'.heap[g]? = some (.cells #[.string (rdOf ByteArray.empty ps 0), .int .i64 a, .int .i64 b, .int .i64 c] 142 (0, 0)) ∧ Below w.heap.size w w' := by
  have HF := Lib.hid hf
  have HA := Lib.hid ha
  have HBB := Lib.hid hb
  have HC := Lib.hid hc
  have HT := Lib.hid hTabs
  have hl1 : ¬ ((ps.length : Int) < 4) := by omega
  have hl2 : (4 : Int) ≤ ps.length := by omega
  have hu := Tryz.underlying142
  obtain ⟨p0, hp0⟩ : ∃ p0, p0 = rdOf ByteArray.empty ps 0 := ⟨_, rfl⟩
  rw [← hp0]
  have HP0 := Lib.hid hp0
  clear hf ha hb hc hTabs hp0
  have HB := Aside0.mk (Below.refl w.heap.size w)
  go_enter Tryz.func165, Tryz.ntmps165
  go_wp2_with (first
    | (go_at_call 155; refine (strings_Fields.calls s ps _ HF.out (Tabs.below HT.out HB.out)).mono ?_; rintro e w2 ⟨v, rfl, ho, hb⟩; obtain ⟨gp, cp, rfl, hge, hlt, _⟩ := Kd.R_form ho (by omega)
       have hs0 : w2.cell? ⟨gp, 0, none⟩ = some (.string p0) := by rw [HP0.out]; exact (Kd.R_cell (enc := Value.string) (h1 := fun _ => rfl) ByteArray.empty ho 0 (by omega) (by omega)).1
       have hs1 : w2.cell? ⟨gp, 1, none⟩ = some (.string (rdOf ByteArray.empty ps 1)) := (Kd.R_cell (enc := Value.string) (h1 := fun _ => rfl) ByteArray.empty ho 1 (by omega) (by omega)).1
       have hs2 : w2.cell? ⟨gp, 2, none⟩ = some (.string (rdOf ByteArray.empty ps 2)) := (Kd.R_cell (enc := Value.string) (h1 := fun _ => rfl) ByteArray.empty ho 2 (by omega) (by omega)).1
       have hs3 : w2.cell? ⟨gp, 3, none⟩ = some (.string (rdOf ByteArray.empty ps 3)) := (Kd.R_cell (enc := Value.string) (h1 := fun _ => rfl) ByteArray.empty ho 3 (by omega) (by omega)).1
       have LT := Aside0.mk hlt
       have n0 := Aside0.mk (below_step HB.out hb); clear HB; have HB := n0; clear n0 hb hge hlt ho)
    | ((with_reducible refine gate_dst (N := 17) rfl ?_); refine box_event ?hg (N := 17) ?hd (cs := #[.string p0, .int .i64 0, .int .i64 0, .int .i64 0]) (t := 142) ?hr ?_; (case hd => rfl); (case hg => rfl); (case hr => first | (go_simp; done) | (go_simp; rfl)); intro g hg w3 hbox hb
       have NE := Aside0.mk (show gp ≠ g by have := LT.out; omega)
       have BK := Aside0.mk hbox
       have HG := Aside0.mk (show w.heap.size ≤ g by rw [hg]; exact below_size HB.out)
       have ks1 := cell_below hb hs1
       have ks2 := cell_below hb hs2
       have ks3 := cell_below hb hs3
       have hc1 : w3.cell? ⟨g, 1, none⟩ = some (.int .i64 0) := (blk_cell hbox 1).trans rfl
       have hf1 := blk_frozen hbox 1
       have n0 := Aside0.mk (below_step HB.out hb); clear HB; have HB := n0; clear n0 hb hbox hg hs0 hs1 hs2 hs3))
  have ne1 : ¬ gp = g := NE.out
  have ne2 : ¬ g = gp := fun h => NE.out h.symm
  clear hc1 hf1
  refine (atoi_of HA.out _).mono ?_
  rintro e w4 ⟨rfl, hb⟩
  have BK0 := Aside0.mk (blk_below BK.out hb)
  have HB0 := Aside0.mk (below_step HB.out hb)
  have hc1 : w4.cell? ⟨g, 1, none⟩ = some (.int .i64 0) := (blk_cell BK0.out 1).trans rfl
  have hf1 := blk_frozen BK0.out 1
  have ls2 := cell_below hb ks2
  have ls3 := cell_below hb ks3
  clear hb ks1 ks2 ks3
  go_wp2_with fail
  have BK0p := Aside0.mk (blk_put BK0.out 1 (.int .i64 a) (cs' := #[.string p0, .int .i64 a, .int .i64 0, .int .i64 0]) rfl)
  have HB0p := Aside0.mk (below_set (j := 1) (v := .int .i64 a) HB0.out HG.out)
  have ks2 := (cell_far (W := w4) (p := ⟨g, 1, none⟩) (a := ⟨gp, 2, none⟩) NE.out (.int .i64 a)).trans ls2
  have ks3 := (cell_far (W := w4) (p := ⟨g, 1, none⟩) (a := ⟨gp, 3, none⟩) NE.out (.int .i64 a)).trans ls3
  clear hc1 hf1 ls2 ls3
  generalize w4.setCell ⟨g, 1, none⟩ (.int .i64 a) = w5 at *
  refine (atoi_of HBB.out _).mono ?_
  rintro e w6 ⟨rfl, hb⟩
  have BK1 := Aside0.mk (blk_below BK0p.out hb)
  have HB1 := Aside0.mk (below_step HB0p.out hb)
  have hc2 : w6.cell? ⟨g, 2, none⟩ = some (.int .i64 0) := (blk_cell BK1.out 2).trans rfl
  have hf2 := blk_frozen BK1.out 2
  have ls3 := cell_below hb ks3
  clear hb ks2 ks3
  go_wp2_with fail
  have BK1p := Aside0.mk (blk_put BK1.out 2 (.int .i64 b) (cs' := #[.string p0, .int .i64 a, .int .i64 b, .int .i64 0]) rfl)
  have HB1p := Aside0.mk (below_set (j := 2) (v := .int .i64 b) HB1.out HG.out)
  have ks3 := (cell_far (W := w6) (p := ⟨g, 2, none⟩) (a := ⟨gp, 3, none⟩) NE.out (.int .i64 b)).trans ls3
  clear hc2 hf2 ls3
  generalize w6.setCell ⟨g, 2, none⟩ (.int .i64 b) = w7 at *
  refine (atoi_of HC.out _).mono ?_
  rintro e w8 ⟨rfl, hb⟩
  have BK2 := Aside0.mk (blk_below BK1p.out hb)
  have HB2 := Aside0.mk (below_step HB1p.out hb)
  have hc3 : w8.cell? ⟨g, 3, none⟩ = some (.int .i64 0) := (blk_cell BK2.out 3).trans rfl
  have hf3 := blk_frozen BK2.out 3
  clear hb ks3
  go_wp2_with fail
  go_ret2
  exact ⟨g, rfl, blk_put BK2.out 3 (.int .i64 c) rfl, below_set HB2.out HG.out⟩
end Go.Proofs.YtdmpbaanonafbaaGreatDoor.CgString

/- strings.HasPrefix with "#": by hand. -/
namespace Go.Proofs.YtdmpbaanonafbaaGreatDoor.CgHp
open Go.RowKit Go.Proofs.YtdmpbaanonafbaaGreatDoorW.PrintWords Go.Proofs.YtdmpbaanonafbaaGreatDoorW.PrintLast Go.Proofs.YtdmpbaanonafbaaGreatDoor.GivZ Go.Proofs.YtdmpbaanonafbaaGreatDoorW.PrintMore Go.Proofs.YtdmpbaanonafbaaGreatDoor.Scan Go.Proofs.YtdmpbaanonafbaaGreatDoor.CgString Go.Proofs.YtdmpbaanonafbaaGreatDoorPt Go.Proofs.YtdmpbaanonafbaaGreatDoor.GivDec
set_option linter.unusedVariables false
set_option linter.unusedSimpArgs false
set_option maxHeartbeats 4000000 in
set_option maxRecDepth 100000 in
theorem hp_in (t : ByteArray) (b : Bool) (hb : b = (decide (0 < t.size) && ((t.extract 0 1).toList == [35]))) (w : World) :
    Calls Tryz.prog 178 #[.string t, .string ⟨#[35]⟩] w fun e w' => e = .returned (.bool b) ∧ w = w' := by
  go_enter Tryz.func178, Tryz.ntmps178
  go_wp2
  · have h0 : 0 < t.size := by omega
    go_ret
    exact ⟨by simp [hb, h0], rfl⟩
  · have h0 : ¬ 0 < t.size := by omega
    go_ret
    exact ⟨by simp [h0], rfl⟩
set_option maxHeartbeats 4000000 in
set_option maxRecDepth 100000 in
theorem hp_is (t : ByteArray) (b : Bool) (hb : b = (decide (0 < t.size) && ((t.extract 0 1).toList == [35]))) (w : World) :
    Calls Tryz.prog 164 #[.string t, .string ⟨#[35]⟩] w fun e w' => e = .returned (.bool b) ∧ w = w' := by
  go_enter Tryz.func164, Tryz.ntmps164
  go_wp2_with (first
    | (go_at_call 178; refine (hp_in t b hb _).mono ?_; rintro e w2 ⟨rfl, rfl⟩))
  go_ret
  exact ⟨by rw [hb]; rfl, rfl⟩
end Go.Proofs.YtdmpbaanonafbaaGreatDoor.CgHp

/- procfs.parseCgroupSummary by hand: what it reads of a text, line by line. -/
namespace Go.Proofs.YtdmpbaanonafbaaGreatDoor.CgLoop
open Go.RowKit Go.Proofs.YtdmpbaanonafbaaGreatDoorW.PrintWords Go.Proofs.YtdmpbaanonafbaaGreatDoorW.PrintLast Go.Proofs.YtdmpbaanonafbaaGreatDoor.GivZ Go.Proofs.YtdmpbaanonafbaaGreatDoorW.PrintMore Go.Proofs.YtdmpbaanonafbaaGreatDoor.Scan Go.Proofs.YtdmpbaanonafbaaGreatDoor.CgString Go.Proofs.YtdmpbaanonafbaaGreatDoor.CgHp Go.Proofs.YtdmpbaanonafbaaGreatDoor.H Go.Proofs.YtdmpbaanonafbaaGreatDoorPt Go.Proofs.YtdmpbaanonafbaaGreatDoor.GivDec Go.Proofs.YtdmpbaanonafbaaGreatDoor.E
set_option linter.unusedVariables false
set_option linter.unusedSimpArgs false
theorem info_cg : (Tryz.prog.info? 142).map (fun i => (i.zero, i.size, i.bytes)) = some (some (.agg #[.string ⟨#[]⟩, .int .i64 0, .int .i64 0, .int .i64 0]), 4, 40) := by kernel_rfl
structure LineAt (t : ByteArray) (n : Nat) : Prop where
  hne : 0 < t.size
  hn : n ≤ t.size
  hmost : n < 65536
  hbefore : ∀ (i : Nat) (h : i < t.size), i < n → ¬ ((t[i]'h).toNat : Int) = 10
  hend : ∀ h : n < t.size, ((t[n]'h).toNat : Int) = 10
  hcr : ∀ h : n - 1 < t.size, 0 < n → ¬ ((t[n - 1]'h).toNat : Int) = 13
  hsz : t.size ≤ 1000000
def rest (t : ByteArray) (n : Nat) : ByteArray := t.extract (min (n + 1) t.size) t.size
theorem rest_size (t : ByteArray) (n : Nat) (h : 0 < t.size) : (rest t n).size < t.size := by
  unfold rest
  rw [ByteArray.size_extract]
  omega
def hash (l : ByteArray) : Bool := decide (0 < l.size) && ((l.extract 0 1).toList == [35])
inductive CgRun : ByteArray → List S142 → Prop
  | done : CgRun ByteArray.empty []
  | skip {t : ByteArray} {n : Nat} {ys : List S142} : LineAt t n → hash (t.extract 0 n) = true → CgRun (rest t n) ys → CgRun t ys
  | row {t : ByteArray} {n : Nat} {ys : List S142} {ps : List ByteArray} {a b c : Nat} : LineAt t n → hash (t.extract 0 n) = false → strings_Fields.f (t.extract 0 n) = some ps → 4 ≤ ps.length →
      AtoiIs (rdOf ByteArray.empty ps 1) a → AtoiIs (rdOf ByteArray.empty ps 2) b → AtoiIs (rdOf ByteArray.empty ps 3) c → CgRun (rest t n) ys → CgRun t (⟨rdOf ByteArray.empty ps 0, a, b, c⟩ :: ys)
set_option maxHeartbeats 4000000 in
set_option maxRecDepth 100000 in
theorem cgLoop_is (A0 : Option Addr) (c0 : Nat) (l0 : List Int) (zs : List S142) (w : World) (hr0 : Kd.C (Kd.int .u8) w A0 l0.length l0) (hr : CgRun (strOfNums l0) zs) (hl : zs.length ≤ 1000000) (hTabs : Tabs w) :
    Calls Tryz.prog 154 #[.slice A0 l0.length c0] w fun e w' => ∃ v, e = .returned (.tuple #[v, .nilIface]) ∧ Kd.R k142 142 w' w.heap.size (fun _ => True) v zs ∧ Below w.heap.size w w' := by
  have hu := Tryz.underlying142
  have HR := Lib.hid hr
  have HT := Lib.hid hTabs
  have hcv := Kd.C_string (P := Tryz.prog) (A := A0) (c := c0) Tryz.underlying152 Tryz.underlying5 Tryz.underlying60 hr0
  clear hr hTabs hr0
  have HB := Aside0.mk (Below.refl w.heap.size w)
  go_enter Tryz.func154, Tryz.ntmps154
  go_wp2_with (first
    | (go_at_call 133; refine (newLines_is _ _).mono ?_; rintro e w2 ⟨g, rfl, hg, hblk, hb⟩
       have BK := Aside0.mk hblk
       have HG := Aside0.mk (show w.heap.size ≤ g by rw [hg]; exact below_size HB.out)
       have n0 := Aside0.mk (below_step HB.out hb); clear HB; have HB := n0; clear n0 hb hblk hg))
  clear hcv
  go_loopg [4] (strOfNums l0).size (fun kq v4 w' => ∃ (t line : ByteArray) (xs ys : List S142), Aside0 (xs ++ ys = zs) ∧ Aside0 (CgRun t ys) ∧ Aside0 (t.size ≤ kq) ∧ Aside0 (w'.heap[g]? = some (scn t line)) ∧ Aside0 (Kd.R k142 142 w' w.heap.size (fun k_ => k_ ≠ g) v4 xs) ∧ Aside0 (Below w.heap.size w w'))
  case atStart => exact ⟨_, _, [], zs, ⟨rfl⟩, ⟨HR.out⟩, ⟨Nat.le_refl _⟩, BK, ⟨Kd.R_nil _ _ _ _ _⟩, HB⟩
  case round =>
    obtain ⟨t, line, xs, ys, hz, hrun, hk, hblk, hro, hbw⟩ := hrel
    clear HB BK HR
    have hrun := hrun.out
    cases hrun with
    | done =>
      go_wp2_with (first
        | (go_at_call 134; refine (scan_no g line _ hblk.out).mono ?_; rintro e w4 ⟨rfl, hb2, hkb, hbl⟩
           have n0 := Aside0.mk (Kd.R_keep hro.out hkb (fun _ h => h)); clear hro; have hro := n0; clear n0
           have n0 := Aside0.mk hb2; clear hblk; have hblk := n0; clear n0
           have n0 := Aside0.mk (hbl _ hbw.out HG.out); clear hbw; have hbw := n0; clear n0 hb2 hkb hbl)
        | (go_at_call 158; refine (err_is g _ _ _ hblk.out).mono ?_; rintro e w5 ⟨rfl, rfl⟩))
      go_ret2
      refine ⟨_, rfl, Kd.R_mono (by have := hz.out; rw [List.append_nil] at this; rw [← this]; exact hro.out) (fun _ _ => trivial), hbw.out⟩
    | @skip _ n _ hL0 hh0 hrest0 =>
      have hL := Lib.hid hL0
      have hh := Aside0.mk hh0
      have hrest := Lib.hid hrest0
      clear hL0 hh0 hrest0
      go_wp2_with (first
        | (go_at_call 134; refine (scan_yes g t line n _ hblk.out hL.out.hne hL.out.hn hL.out.hmost hL.out.hbefore hL.out.hend hL.out.hcr hL.out.hsz).mono ?_; rintro e w4 ⟨rfl, hb2, hkb, hbl⟩
           have n0 := Aside0.mk (Kd.R_keep hro.out hkb (fun _ h => h)); clear hro; have hro := n0; clear n0
           have n0 := Aside0.mk hb2; clear hblk; have hblk := n0; clear n0
           have n0 := Aside0.mk (hbl _ hbw.out HG.out); clear hbw; have hbw := n0; clear n0 hb2 hkb hbl)
        | (go_at_call 136; refine (text_is g _ _ _ hblk.out).mono ?_; rintro e w5 ⟨rfl, rfl⟩)
        | (go_at_call 164; refine (hp_is _ true hh.out.symm _).mono ?_; rintro e w6 ⟨rfl, rfl⟩))
      have hlt := rest_size t n hL.out.hne
      have hlk := hk.out
      go_roundg ((rest t n).size)
      case measure => omega
      case rel =>
        exact ⟨_, _, xs, ys, hz, ⟨hrest.out⟩, ⟨Nat.le_refl _⟩, hblk, hro, hbw⟩
    | @row _ n zs' ps a b c hL0 hh0 hf0 hp0 ha0 hb0 hc0 hrest0 =>
      have hL := Lib.hid hL0
      have hh := Aside0.mk hh0
      have hf := Lib.hid hf0
      have ha := Lib.hid ha0
      have hb := Lib.hid hb0
      have hc := Lib.hid hc0
      have hp := Lib.hid hp0
      have hrest := Lib.hid hrest0
      have hlen := Aside0.mk (show xs.length + 1 ≤ 1000000 by have := congrArg List.length hz.out; rw [List.length_append, List.length_cons] at this; omega)
      clear hL0 hh0 hf0 hp0 ha0 hb0 hc0 hrest0
      go_wp2_with (first
        | (go_at_call 134; refine (scan_yes g t line n _ hblk.out hL.out.hne hL.out.hn hL.out.hmost hL.out.hbefore hL.out.hend hL.out.hcr hL.out.hsz).mono ?_; rintro e w4 ⟨rfl, hb2, hkb, hbl⟩
           have n0 := Aside0.mk (Kd.R_keep hro.out hkb (fun _ h => h)); clear hro; have hro := n0; clear n0
           have n0 := Aside0.mk hb2; clear hblk; have hblk := n0; clear n0
           have n0 := Aside0.mk (hbl _ hbw.out HG.out); clear hbw; have hbw := n0; clear n0 hb2 hkb hbl)
        | (go_at_call 136; refine (text_is g _ _ _ hblk.out).mono ?_; rintro e w5 ⟨rfl, rfl⟩)
        | (go_at_call 164; refine (hp_is _ false hh.out.symm _).mono ?_; rintro e w6 ⟨rfl, rfl⟩)
        | (go_at_call 165; refine (cgString_is _ ps a b c _ hf.out hp.out ha.out hb.out hc.out (Tabs.below HT.out hbw.out)).mono ?_; rintro e w7 ⟨gp, rfl, hgp, hb3⟩
           have hs0 : w7.cell? ⟨gp, 0, none⟩ = some (.string (rdOf ByteArray.empty ps 0)) := (blk_cell hgp 0).trans rfl
           have hs1 : w7.cell? ⟨gp, 1, none⟩ = some (.int .i64 a) := (blk_cell hgp 1).trans rfl
           have hs2 : w7.cell? ⟨gp, 2, none⟩ = some (.int .i64 b) := (blk_cell hgp 2).trans rfl
           have hs3 : w7.cell? ⟨gp, 3, none⟩ = some (.int .i64 c) := (blk_cell hgp 3).trans rfl
           have n0 := Aside0.mk (Kd.R_below hro.out hb3); clear hro; have hro := n0; clear n0
           have n0 := Aside0.mk (blk_below hblk.out hb3); clear hblk; have hblk := n0; clear n0
           have n0 := Aside0.mk (below_step hbw.out hb3); clear hbw; have hbw := n0; clear n0 hb3 hgp)
        | ((with_reducible refine gate_builtin (b := .append) (xs := #[.tmp 27, .tmp 31]) rfl ?_); at_builtin; refine Kd.R_append k142 (w0 := w) w.heap.size rfl (.tmp 27) (.tmp 31) 138 142 (.agg #[.string ⟨#[]⟩, .int .i64 0, .int .i64 0, .int .i64 0]) 40 rfl Tryz.underlying138 info_cg rfl (by decide) (by omega) u4 xs (⟨rdOf ByteArray.empty ps 0, a, b, c⟩ : S142) [.string (rdOf ByteArray.empty ps 0), .int .i64 a, .int .i64 b, .int .i64 c] (fun k_ => k_ ≠ g) (fun _ => False) rfl rfl (k142_mkM _ _ _ _) (fun _ hk => hk.elim) ?aF hro.out hbw.out (below_size hbw.out) ?aL ?_
           (case aF => exact (fun k hk he => by have := blk_lt hblk.out; omega)); (case aL => have := hlen.out; omega)
           intro v8 w8 ho hb3 hg3 hat
           have n0 := Aside0.mk ho
           have n1 := Aside0.mk (blk_grown hblk.out hg3 (Kd.R_ne hro.out hblk.out (by decide)))
           have n2 := Aside0.mk hb3; clear hbw hblk hro; have hbw := n2; have hblk := n1; have hro := n0; clear n0 n1 n2 ho hb3 hg3 hat))
      have hlt := rest_size t n hL.out.hne
      have hlk := hk.out
      go_roundg ((rest t n).size)
      case measure => omega
      case rel =>
        exact ⟨_, _, xs ++ [⟨rdOf ByteArray.empty ps 0, a, b, c⟩], zs', ⟨by have := hz.out; rw [List.append_assoc]; exact this⟩, ⟨hrest.out⟩, ⟨Nat.le_refl _⟩, hblk, hro, hbw⟩
end Go.Proofs.YtdmpbaanonafbaaGreatDoor.CgLoop

/- What procfs.parseCgroupSummary reads of a text, as a function on its bytes. -/
namespace Go.Proofs.YtdmpbaanonafbaaGreatDoor.CgLoop
open Go.RowKit Go.Proofs.YtdmpbaanonafbaaGreatDoorW.PrintWords Go.Proofs.YtdmpbaanonafbaaGreatDoorW.PrintLast Go.Proofs.YtdmpbaanonafbaaGreatDoor.GivZ Go.Proofs.YtdmpbaanonafbaaGreatDoorW.PrintMore Go.Proofs.YtdmpbaanonafbaaGreatDoor.Scan Go.Proofs.YtdmpbaanonafbaaGreatDoor.CgString Go.Proofs.YtdmpbaanonafbaaGreatDoor.CgHp Go.Proofs.YtdmpbaanonafbaaGreatDoor.H Go.Proofs.YtdmpbaanonafbaaGreatDoorPt Go.Proofs.YtdmpbaanonafbaaGreatDoor.GivDec Go.Proofs.YtdmpbaanonafbaaGreatDoor.E
set_option linter.unusedVariables false
set_option linter.unusedSimpArgs false
theorem lineAt_app (p r : List UInt8) (hp : ∀ b ∈ p, b ≠ 10) (hr : r = [] ∨ ∃ r', r = 10 :: r') (hne : p ++ r ≠ []) (h1 : p.length < 65536) (h2 : (p ++ r).length ≤ 1000000) (h3 : p.getLast? ≠ some 13) :
    LineAt ⟨(p ++ r).toArray⟩ p.length := by
  have hs : (⟨(p ++ r).toArray⟩ : ByteArray).size = p.length + r.length := by simp [ByteArray.size]
  have hg : ∀ (i : Nat) (h : i < (⟨(p ++ r).toArray⟩ : ByteArray).size), (⟨(p ++ r).toArray⟩ : ByteArray)[i]'h = (p ++ r)[i]'(by rw [hs] at h; rw [List.length_append]; exact h) := fun i h => rfl
  refine ⟨?_, by omega, h1, fun i h hi => ?_, fun h => ?_, fun h h0 => ?_, by rw [hs]; rw [List.length_append] at h2; exact h2⟩
  · have := List.length_pos_iff.2 hne
    rw [List.length_append] at this
    omega
  · rw [hg, List.getElem_append_left hi]
    intro he
    refine hp _ (List.getElem_mem hi) ?_
    apply UInt8.toNat_inj.1
    exact Int.ofNat.inj he
  · rw [hg, List.getElem_append_right (Nat.le_refl _)]
    rcases hr with rfl | ⟨r', rfl⟩
    · rw [hs] at h; simp at h
    · simp
  · have hlt : p.length - 1 < p.length := by omega
    rw [hg, List.getElem_append_left hlt]
    intro he
    apply h3
    rw [List.getLast?_eq_getElem?, List.getElem?_eq_getElem hlt]
    congr 1
    apply UInt8.toNat_inj.1
    exact Int.ofNat.inj he
def atoiV (t : ByteArray) : Option Nat := if 0 < t.size ∧ t.size < 19 then decv 0 t.data.toList else none
theorem atoiV_is {t : ByteArray} {v : Nat} (h : atoiV t = some v) : AtoiIs t v := by
  unfold atoiV at h
  by_cases c : 0 < t.size ∧ t.size < 19
  · rw [if_pos c] at h; exact ⟨c.1, c.2, h⟩
  · rw [if_neg c] at h; cases h
def upto (l : List UInt8) : List UInt8 := l.takeWhile (fun b => b != 10)
theorem upto_spec (l : List UInt8) : (∀ b ∈ upto l, b ≠ 10) ∧ ∃ r, l = upto l ++ r ∧ (r = [] ∨ ∃ r', r = 10 :: r') := by
  unfold upto
  induction l with
  | nil => exact ⟨fun _ h => (List.not_mem_nil h).elim, [], rfl, .inl rfl⟩
  | cons a l ih =>
    by_cases c : a = 10
    · subst c
      exact ⟨fun _ h => by simp at h, 10 :: l, by simp, .inr ⟨l, rfl⟩⟩
    · rw [List.takeWhile_cons_of_pos (by simpa using c)]
      refine ⟨fun b hb => ?_, ?_⟩
      · rcases List.mem_cons.1 hb with rfl | hb
        · exact c
        · exact ih.1 b hb
      · obtain ⟨r, hr, h2⟩ := ih.2
        exact ⟨r, by rw [List.cons_append, ← hr], h2⟩
theorem upto_app (p r : List UInt8) (hp : ∀ b ∈ p, b ≠ 10) : upto (p ++ 10 :: r) = p := by
  unfold upto
  induction p with
  | nil => simp
  | cons a p ih =>
    rw [List.cons_append, List.takeWhile_cons_of_pos (by simpa using hp a List.mem_cons_self), ih (fun b hb => hp b (List.mem_cons_of_mem _ hb))]
def cgRun : Nat → List UInt8 → Option (List S142)
  | 0, _ => none
  | k + 1, l => if l = [] then some [] else if (upto l).length < 65536 ∧ l.length ≤ 1000000 ∧ (upto l).getLast? ≠ some 13 then
      if hash ⟨(upto l).toArray⟩ = true then cgRun k (l.drop ((upto l).length + 1))
      else (strings_Fields.f ⟨(upto l).toArray⟩).bind fun ps => if 4 ≤ ps.length then (atoiV (rdOf ByteArray.empty ps 1)).bind fun a => (atoiV (rdOf ByteArray.empty ps 2)).bind fun b => (atoiV (rdOf ByteArray.empty ps 3)).bind fun c =>
        (cgRun k (l.drop ((upto l).length + 1))).bind fun zs => some (⟨rdOf ByteArray.empty ps 0, a, b, c⟩ :: zs) else none
    else none
theorem ext_app (p r : List UInt8) : (⟨(p ++ r).toArray⟩ : ByteArray).extract 0 p.length = ⟨p.toArray⟩ := by
  apply ByteArray.ext
  rw [ByteArray.data_extract]
  simp
theorem rest_app (p r : List UInt8) : rest ⟨(p ++ r).toArray⟩ p.length = ⟨((p ++ r).drop (p.length + 1)).toArray⟩ := by
  unfold rest
  have hs : (⟨(p ++ r).toArray⟩ : ByteArray).size = (p ++ r).length := by simp [ByteArray.size]
  apply ByteArray.ext
  rw [ByteArray.data_extract, hs]
  apply Array.toList_inj.1
  simp only [Array.toList_extract, List.extract_eq_take_drop]
  rw [show (p ++ r).length - min (p.length + 1) (p ++ r).length = ((p ++ r).drop (min (p.length + 1) (p ++ r).length)).length by rw [List.length_drop], List.take_length]
  by_cases c : p.length + 1 ≤ (p ++ r).length
  · rw [Nat.min_eq_left c]
  · rw [Nat.min_eq_right (by omega), List.drop_eq_nil_of_le (Nat.le_refl _), List.drop_eq_nil_of_le (by omega)]
theorem cg_sound : ∀ (k : Nat) (l : List UInt8) (zs : List S142), cgRun k l = some zs → CgRun ⟨l.toArray⟩ zs
  | 0, _, _, h => by simp [cgRun] at h
  | k + 1, l, zs, h => by
    unfold cgRun at h
    by_cases c0 : l = []
    · subst c0
      rw [if_pos rfl] at h
      cases h
      exact .done
    · rw [if_neg c0] at h
      obtain ⟨hp, r, hl, hr⟩ := upto_spec l
      by_cases c1 : (upto l).length < 65536 ∧ l.length ≤ 1000000 ∧ (upto l).getLast? ≠ some 13
      · rw [if_pos c1] at h
        obtain ⟨b1, b2, b3⟩ := c1
        generalize upto l = p at h hp hl b1 b3
        subst hl
        have HL := lineAt_app p r hp hr c0 b1 b2 b3
        by_cases c2 : hash ⟨p.toArray⟩ = true
        · rw [if_pos c2] at h
          refine .skip HL (by rw [ext_app]; exact c2) ?_
          rw [rest_app]
          exact cg_sound k _ _ h
        · rw [if_neg c2] at h
          obtain ⟨ps, e1, h⟩ := Option.bind_eq_some_iff.1 h
          by_cases c3 : 4 ≤ ps.length
          · rw [if_pos c3] at h
            obtain ⟨a, e2, h⟩ := Option.bind_eq_some_iff.1 h
            obtain ⟨b, e3, h⟩ := Option.bind_eq_some_iff.1 h
            obtain ⟨c, e4, h⟩ := Option.bind_eq_some_iff.1 h
            obtain ⟨ys, e5, h⟩ := Option.bind_eq_some_iff.1 h
            cases h
            refine .row HL (by rw [ext_app]; simpa using c2) (by rw [ext_app]; exact e1) c3 (atoiV_is e2) (atoiV_is e3) (atoiV_is e4) ?_
            rw [rest_app]
            exact cg_sound k _ _ e5
          · rw [if_neg c3] at h; cases h
      · rw [if_neg c1] at h; cases h
end Go.Proofs.YtdmpbaanonafbaaGreatDoor.CgLoop
