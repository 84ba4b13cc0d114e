import Derived.Test.YtdmpbaanonafbaaGreatDoorB1
import Derived.Test.YtdmpbaanonafbaaGreatDoorParseLoad
import Derived.Test.YtdmpbaanonafbaaGreatDoorScanL
import Derived.Test.YtdmpbaanonafbaaGreatDoorG1
import Derived.Deep.LoopGhost
import Derived.Deep.OwnRows
import Derived.Tactics
import Derived.Tactics2
import Derived.Defers
import Derived.Lib.Hide
import Derived.Test.YtdmpbaanonafbaaGreatDoorB2
import Derived.Test.YtdmpbaanonafbaaGreatDoorE0
import Derived.Test.YtdmpbaanonafbaaGreatDoorF1
import Derived.Test.YtdmpbaanonafbaaGreatDoorPlz
import Derived.Test.YtdmpbaanonafbaaGreatDoorSq
import Derived.Recover
import Derived.Laws.Pointers
/- procfs.parseBuddyInfo and (FS).BuddyInfo by hand: lines of a node, a zone and numbers, all as many. -/
namespace Go.Proofs.YtdmpbaanonafbaaGreatDoor.BdLoop
open Go.RowKit Go.Proofs.YtdmpbaanonafbaaGreatDoorW.PrintWords Go.Proofs.YtdmpbaanonafbaaGreatDoorW.PrintLast Go.Proofs.YtdmpbaanonafbaaGreatDoor.GivZ Go.Proofs.YtdmpbaanonafbaaGreatDoorW.PrintMore Go.Proofs.YtdmpbaanonafbaaGreatDoor.Scan Go.Proofs.YtdmpbaanonafbaaGreatDoor.ScanL Go.Proofs.YtdmpbaanonafbaaGreatDoor.Fl2 Go.Proofs.YtdmpbaanonafbaaGreatDoor.ParseLoad Go.Proofs.YtdmpbaanonafbaaGreatDoor.B Go.Proofs.YtdmpbaanonafbaaGreatDoor.G
set_option linter.unusedVariables false
set_option linter.unusedSimpArgs false
theorem info_bd : (Tryz.prog.info? 79).map (fun i => (i.zero, i.size, i.bytes)) = some (some (.agg #[.string (⟨#[]⟩ : ByteArray), .string (⟨#[]⟩ : ByteArray), .slice none 0 0]), 3, 56) := by kernel_rfl
theorem info_fl : (Tryz.prog.info? 32).map (fun i => (i.zero, i.size, i.bytes)) = some (some (.float .f64 0), 1, 8) := by kernel_rfl
/-- A line of so many numbers, as a row. -/
def BdL (N : Nat) (l : ByteArray) (r : S79) : Prop := ∃ ps, strings_Fields.f l = some ps ∧ ps.length = N + 4 ∧ strings_TrimSuffix.f (rdOf ByteArray.empty ps 1) (⟨#[44]⟩ : ByteArray) = some r.f0 ∧ strings_TrimSuffix.f (rdOf ByteArray.empty ps 3) (⟨#[44]⟩ : ByteArray) = some r.f1 ∧ r.f2.length = N ∧ ∀ i : Nat, i < N → strconv_ParseFloat.f (rdOf ByteArray.empty ps ((i + 4 : Nat) : Int)) 64 = some (r.f2.getD i 0, none)
/-- The numbers so far, and noughts behind them. -/
def fill (vs : List Nat) (i N : Nat) : List Nat := vs.take i ++ List.replicate (N - i) 0
theorem fill_len {vs : List Nat} {i N : Nat} (h : vs.length = N) (hi : i ≤ N) : (fill vs i N).length = N := by
  unfold fill
  rw [List.length_append, List.length_take, List.length_replicate]
  omega
theorem fill_set {vs : List Nat} {i N : Nat} (h : vs.length = N) (hi : i < N) : (fill vs i N).set i (vs.getD i 0) = fill vs (i + 1) N := by
  unfold fill
  have h1 : (vs.take i).length = i := by rw [List.length_take]; omega
  rw [List.set_append_right _ _ (by omega), h1, Nat.sub_self]
  obtain ⟨m, hm⟩ : ∃ m, N - i = m + 1 := ⟨N - i - 1, by omega⟩
  rw [hm, List.replicate_succ, List.set_cons_zero, show N - (i + 1) = m by omega, List.take_add_one, List.getElem?_eq_getElem (by omega), List.getD_eq_getElem?_getD, List.getElem?_eq_getElem (by omega)]
  simp only [Option.toList_some, Option.getD_some, List.append_assoc, List.singleton_append]
theorem fill_full {vs : List Nat} {N : Nat} (h : vs.length = N) : fill vs N N = vs := by
  unfold fill
  rw [Nat.sub_self, List.replicate_zero, List.append_nil, List.take_of_length_le (by omega)]
theorem fill_zero (vs : List Nat) (N : Nat) : fill vs 0 N = List.replicate N 0 := by
  unfold fill
  rw [List.take_zero, Nat.sub_zero, List.nil_append]
theorem make_fl (n : Nat) (hn : n ≤ 1000000) (w : World) : (Instr.makeSlice 77 (.int .i64 (n : Int)) (.int .i64 (n : Int))).run Tryz.prog w = .ok (.slice (some ⟨w.heap.size, 0, none⟩) n n) (w.alloc (.cells (madeCells #[.float .f64 0] n) 32 (0, 0))) :=
  run_make_row' 77 32 (.float .f64 0) 8 Tryz.underlying77 info_fl rfl .i64 .i64 n (by omega) (by omega) w
theorem made_fl (W : World) (base n : Nat) (vs : List Nat) (hb : base ≤ W.heap.size) (hn : n ≤ 1000000) : Kd.flt.R 32 (W.alloc (.cells (madeCells #[.float .f64 0] n) 32 (0, 0))) base (fun k => k = W.heap.size) (.slice (some ⟨W.heap.size, 0, none⟩) n n) (fill vs 0 n) := by
  rw [fill_zero]
  have h := World.ownsRow_lit (base := base) (e := 32) (size := 1) W (madeCells #[.float .f64 0] n) n hb (by unfold maxLen; omega) (by simp [size_madeCells])
  have hl : (madeCells #[Value.float .f64 0] n).toList = encs (Value.float .f64) (List.replicate n 0) := by
    apply List.ext_getElem
    · simp [encs, madeCells]
    · intro i h1 h2
      simp [encs, madeCells, Nat.mod_one]
  rw [hl] at h
  refine Kd.R_of_own (by rw [List.length_replicate]; exact h) ?_
  intro k hk
  simp [Value.ownBlock] at hk
  omega
section
variable {P : Program} {ops : Array Oper} {o : Oper} {rest : List Oper} {a : Act} {Q : Exit → Act → World → Prop} {W : World}
theorem make_event (hgd : o.guard = none) {N : Tmp} (_hd : o.dst = some N) {cs : Array Value} {t : TypeId} {n : Nat}
    (hrun : (execOp a.eval o).run P W = .ok (.value (.slice (some ⟨W.heap.size, 0, none⟩) n n)) (W.alloc (.cells cs t (0, 0))))
    (h : ∀ g, g = W.heap.size → ∀ w1, w1 = W.alloc (.cells cs t (0, 0)) → Below W.heap.size W w1 → wpList P ops Q rest (a.put o.dst (.slice (some ⟨g, 0, none⟩) n n)) w1) : wpList P ops Q (o :: rest) a W :=
  Kd.event_run hgd hrun (h _ rfl _ rfl (below_alloc (Below.refl _ _) _))
end
set_option maxHeartbeats 16000000 in
set_option maxRecDepth 100000 in
theorem bdLoop_is (N : Nat) (t : ByteArray) (zs : List S79) (w : World) (hr : ScanRun (BdL N) t zs) (hl : zs.length ≤ 1000000) (hN : N ≤ 1000000) (hN1 : 0 < N) (hTabs : Tabs w) :
    Calls Tryz.prog 125 #[.string t] w fun e w' => ∃ v, e = .returned (.tuple #[v, .nilIface]) ∧ Kd.R k79 79 w' w.heap.size (fun _ => True) v zs ∧ Below w.heap.size w w' := by
  have hu := Tryz.underlying79
  have HR := Lib.hid hr
  have HT := Lib.hid hTabs
  have HN := Lib.hid hN
  have HLZ := Lib.hid hl
  have HN1 := Lib.hid hN1
  have hbn : decide ((N : Int) = -1) = false := decide_eq_false (by omega)
  clear hr hTabs hl hN hN1
  have HB := Aside0.mk (Below.refl w.heap.size w)
  go_enter Tryz.func125, Tryz.ntmps125
  go_wp2_with (first
    | ((with_reducible refine gate_dst (N := 15) rfl ?_); refine Kd.R_lit k79 (w0 := w) w.heap.size 79 ?hg (N := 15) ?hd (xs := []) (inner := []) (ok := fun _ => True) (okp := fun _ => False) ?hr ?hp (fun _ _ => trivial) trivial HB.out (below_size HB.out) (by simp) ?_; (case hd => rfl); (case hg => rfl); (case hr => first | (go_simp; done) | (go_simp; rfl)); (case hp => exact ⟨rfl, fun j p hj => by simp at hj⟩)
       intro v15 w1 ho hb3 hg3 hat
       have HO := Aside0.mk ho
       have n0 := Aside0.mk hb3; clear HB; have HB := n0; clear n0 ho hb3 hg3 hat)
    | (go_at_call 133; refine (newLines_is _ _).mono ?_; rintro e w2 ⟨g, rfl, hg, hblk, hb⟩
       have BK := Aside0.mk hblk
       have HG := Aside0.mk (show w.heap.size ≤ g by rw [hg]; exact below_size HB.out)
       have n0 := Aside0.mk (Kd.R_mono (ok' := fun k => k ≠ g) (Kd.R_below (Kd.R_elderB HO.out g (Nat.le_of_eq hg.symm)) hb) (fun _ h => h.2)); clear HO; have HO := n0; clear n0
       have n0' := Aside0.mk (below_step HB.out hb); clear HB; have HB := n0'; clear n0' hb hblk hg))
  go_loopg [4, 6] t.size (fun kq v4 v6 w' => ∃ (t1 line : ByteArray) (xs ys : List S79) (b : Int), v6 = .int .i64 b ∧ Aside0 (b = -1 ∨ b = N) ∧ Aside0 (xs ++ ys = zs) ∧ Aside0 (ScanRun (BdL N) t1 ys) ∧ Aside0 (t1.size ≤ kq) ∧ Aside0 (w'.heap[g]? = some (scn t1 line)) ∧ Aside0 (Kd.R k79 79 w' w.heap.size (fun k_ => k_ ≠ g) v4 xs) ∧ Aside0 (Below w.heap.size w w'))
  case atStart => exact ⟨_, _, [], zs, -1, rfl, ⟨.inl rfl⟩, ⟨rfl⟩, ⟨HR.out⟩, ⟨Nat.le_refl _⟩, BK, HO, HB⟩
  case round =>
    obtain ⟨t1, line, xs, ys, b, rfl, hbb, hz, hrun, hk, hblk, hro, hbw⟩ := hrel
    clear HB BK HR HO
    have hrun := hrun.out
    cases hrun with
    | done =>
      go_wp2_with (first
        | (go_at_call 134; refine (scan_no g line _ hblk.out).mono ?_; rintro e w4 ⟨rfl, hb2, hkb, hbl⟩
           have n0 := Aside0.mk (Kd.R_keep hro.out hkb (fun _ h => h)); clear hro; have hro := n0; clear n0
           have n0 := Aside0.mk hb2; clear hblk; have hblk := n0; clear n0
           have n0 := Aside0.mk (hbl _ hbw.out HG.out); clear hbw; have hbw := n0; clear n0 hb2 hkb hbl)
        | (go_at_call 158; refine (err_is g _ _ _ hblk.out).mono ?_; rintro e w5 ⟨rfl, rfl⟩))
      go_ret2
      refine ⟨_, rfl, Kd.R_mono (by have := hz.out; rw [List.append_nil] at this; rw [← this]; exact hro.out) (fun _ _ => trivial), hbw.out⟩
    | @row _ n r zs' hL0 hP0 hrest0 =>
      obtain ⟨ps, hf0, hl0, ha0, hb0, hlen0, hv0⟩ := hP0
      have hL := Lib.hid hL0
      have hf := Lib.hid hf0
      have hT1 := Lib.hid ha0
      have hT3 := Lib.hid hb0
      have hV := Lib.hid hv0
      have hVL := Lib.hid hlen0
      have hrest := Lib.hid hrest0
      have hlt0 := Lib.hid (rest_size t1 n hL0.hne)
      have hp1 := Aside0.mk (show 0 < ps.length by omega)
      have hlen := Aside0.mk (show xs.length + 1 ≤ 1000000 by have h1 := congrArg List.length hz.out; have := HLZ.out; rw [List.length_append, List.length_cons] at h1; omega)
      have c4 : decide ((ps.length : Int) < 4) = false := decide_eq_false (by omega)
      have q1 : (1 : Int) < (ps.length : Int) := by omega
      have q3 : (3 : Int) < (ps.length : Int) := by omega
      have q4 : (4 : Int) ≤ (ps.length : Int) := by omega
      have hsub : ps.length - 4 = N := by omega
      have HPL := Lib.hid hl0
      clear hL0 hf0 ha0 hb0 hv0 hrest0 hl0 hlen0
      go_wp2_with (first
        | (go_at_call 134; refine (scan_yes g t1 line n _ hblk.out hL.out.hne hL.out.hn hL.out.hmost hL.out.hbefore hL.out.hend hL.out.hcr hL.out.hsz).mono ?_; rintro e w4 ⟨rfl, hb2, hkb, hbl⟩
           have n0 := Aside0.mk (Kd.R_keep hro.out hkb (fun _ h => h)); clear hro; have hro := n0; clear n0
           have n0 := Aside0.mk hb2; clear hblk; have hblk := n0; clear n0
           have n0 := Aside0.mk (hbl _ hbw.out HG.out); clear hbw; have hbw := n0; clear n0 hb2 hkb hbl)
        | (go_at_call 136; refine (text_is g _ _ _ hblk.out).mono ?_; rintro e w5 ⟨rfl, rfl⟩)
        | (go_at_call 155; refine (strings_Fields.calls _ ps _ hf.out (Tabs.below HT.out hbw.out)).mono ?_; rintro e w6 ⟨v, rfl, ho, hb⟩; obtain ⟨gp, cp, rfl, hge, hlt, hcx⟩ := Kd.R_form ho hp1.out
           have hcp : (ps.length : Int) ≤ cp := by have := (Kd.R_reads' ho).2.1; omega
           have hcp4 : (4 : Int) ≤ cp := by omega
           have hcpn : ps.length ≤ cp := by omega
           have CO := Aside0.mk (Kd.R_reads' ho).2.2
           have n0 := Aside0.mk (Kd.R_below hro.out hb); clear hro; have hro := n0; clear n0
           have n0 := Aside0.mk (blk_below hblk.out hb); clear hblk; have hblk := n0; clear n0
           have n0 := Aside0.mk (below_step hbw.out hb); clear hbw; have hbw := n0; clear n0 hb ho hge hlt hcx
           have hx1 : w6.cell? ⟨gp, 1, none⟩ = some (.string (rdOf ByteArray.empty ps 1)) := (by obtain ⟨ad, e1, x⟩ := Kd.at_string CO.out 1 (by omega) (by omega); cases e1; exact x)))
      refine (strings_TrimSuffix.calls (rdOf ByteArray.empty ps 1) (⟨#[44]⟩ : ByteArray) _ _ hT1.out).mono ?_
      rintro e w7 ⟨rfl, ⟨nd, hnd⟩⟩
      have hb := (show Below w6.heap.size w6 w7 by rw [hnd]; exact pw_below_drewN (Below.refl _ _) nd)
      have n0 := Aside0.mk (Kd.R_below hro.out hb); clear hro; have hro := n0; clear n0
      have n0 := Aside0.mk (blk_below hblk.out hb); clear hblk; have hblk := n0; clear n0
      have n0 := Aside0.mk (Kd.C_below CO.out hb); clear CO; have CO := n0; clear n0
      have n0 := Aside0.mk (below_step hbw.out hb); clear hbw; have hbw := n0; clear n0 hb hnd hx1
      have hx3 : w7.cell? ⟨gp, 3, none⟩ = some (.string (rdOf ByteArray.empty ps 3)) := (by obtain ⟨ad, e1, x⟩ := Kd.at_string CO.out 3 (by omega) (by omega); cases e1; exact x)
      go_wp2_with fail
      refine (strings_TrimSuffix.calls (rdOf ByteArray.empty ps 3) (⟨#[44]⟩ : ByteArray) _ _ hT3.out).mono ?_
      rintro e w8 ⟨rfl, ⟨nd, hnd⟩⟩
      have hb := (show Below w7.heap.size w7 w8 by rw [hnd]; exact pw_below_drewN (Below.refl _ _) nd)
      have n0 := Aside0.mk (Kd.R_below hro.out hb); clear hro; have hro := n0; clear n0
      have n0 := Aside0.mk (blk_below hblk.out hb); clear hblk; have hblk := n0; clear n0
      have n0 := Aside0.mk (Kd.C_below CO.out hb); clear CO; have CO := n0; clear n0
      have n0 := Aside0.mk (below_step hbw.out hb); clear hbw; have hbw := n0; clear n0 hb hnd hx3
      have hc4 : ¬ cp = 4 := by have := HPL.out; have := HN1.out; omega
      have C8 := Aside0.mk (Below.refl w8.heap.size w8)
      rcases hbb.out with hb1 | hb1
      all_goals subst hb1
      all_goals go_wp2_with (first
        | ((with_reducible refine gate_dst (N := 47) rfl ?_); refine make_event ?hg (N := 47) ?hd (cs := madeCells #[.float .f64 0] N) (t := 32) (n := N) ?hr ?_; (case hd => rfl); (case hg => rfl); (case hr => simp [execOp, make_fl N HN.out, go_sem]); intro gz hgz w9 hw9 hb
           have RZ := Aside0.mk (show Kd.flt.R 32 w9 w.heap.size (fun k => k = gz) (.slice (some ⟨gz, 0, none⟩) N N) (fill r.f2 0 N) by rw [hw9, hgz]; exact made_fl w8 w.heap.size N r.f2 (below_size hbw.out) HN.out)
           have GE := Aside0.mk (show w8.heap.size ≤ gz by rw [hgz]; exact Nat.le_refl _)
           have C9 := Aside0.mk (below_step C8.out hb)
           clear hb hw9 hgz C8))
      all_goals (
        go_loopg [7, 49] (N + 1) (fun kq v7 v49 w' => v7 = .nilIface ∧ ∃ i : Nat, v49 = .int .i64 (i : Int) ∧ Aside0 (i ≤ N) ∧ Aside0 (N + 1 - i ≤ kq) ∧ Aside0 (Kd.flt.R 32 w' w.heap.size (fun k => k = gz) (.slice (some ⟨gz, 0, none⟩) N N) (fill r.f2 i N)) ∧ Aside0 (Below w8.heap.size w8 w'))
        case atStart => exact ⟨rfl, 0, rfl, ⟨Nat.zero_le _⟩, ⟨by omega⟩, RZ, C9⟩
        case round =>
          obtain ⟨rfl, i, rfl, hi0, hk2, rz, cw⟩ := hrel
          clear RZ C9
          have hi := hi0.out
          by_cases hlt : i < N
          · have hp := Lib.hid (hV.out i hlt)
            obtain ⟨jj, hjj⟩ : ∃ jj : Nat, jj = i + 4 := ⟨_, rfl⟩
            have hx0 : wr.cell? ⟨gp, jj, none⟩ = some (.string (rdOf ByteArray.empty ps ((i + 4 : Nat) : Int))) := by
              obtain ⟨ad, e1, x⟩ := Kd.at_string (Kd.C_below CO.out cw.out) ((i + 4 : Nat) : Int) (by omega) (by have := HPL.out; omega)
              cases e1
              rw [Int.toNat_natCast] at x
              rw [hjj]
              simpa [Addr.add] using x
            have hw0 : IntKind.i64.wrap ((i : Int) + 4) = (jj : Int) := by have := HN.out; rw [IntKind.wrap_i64]; omega
            have hw1 : IntKind.i64.wrap ((i : Int) + 1) = ((i + 1 : Nat) : Int) := by have := HN.out; rw [IntKind.wrap_i64]; omega
            have hj1 : (jj : Int) < (ps.length : Int) := by have := HPL.out; omega
            have hln := fill_len (vs := r.f2) (i := i) hVL.out hi
            have hz0 := Kd.R_cell (enc := Value.float .f64) (h1 := fun _ => rfl) (0 : Nat) (show Kd.flt.R 32 wr w.heap.size (fun k => k = gz) (.slice (some ⟨gz, 0, none⟩) (fill r.f2 i N).length N) (fill r.f2 i N) by rw [hln]; exact rz.out) (i : Int) (by omega) (by rw [hln]; omega)
            rw [Int.toNat_natCast] at hz0
            have hy0 := hz0.1
            have hy1 := hz0.2
            have hdl : decide ((i : Int) < (N : Int)) = true := decide_eq_true (by omega)
            have hdi : (i : Int) < (N : Int) := by omega
            have NH := Aside0.mk hln
            clear hz0 hjj hln
            go_wp2_with (first
              | (go_at_call 156; refine (pf_of _ _ hp.out _ (Tabs.below HT.out (below_step hbw.out cw.out))).mono ?_; rintro e w10 ⟨rfl, rfl⟩))
            have hlk := hk2.out
            go_roundg (N - i)
            case measure => omega
            case rel =>
              refine ⟨rfl, i + 1, rfl, ⟨by omega⟩, ⟨by omega⟩, ⟨?_⟩, ⟨below_set cw.out GE.out⟩⟩
              have h := (Kd.R_put (enc := Value.float .f64) (h1 := fun _ => rfl) (show Kd.flt.R 32 wr w.heap.size (fun k => k = gz) (.slice (some ⟨gz, 0, none⟩) (fill r.f2 i N).length N) (fill r.f2 i N) by rw [NH.out]; exact rz.out) (i : Int) (r.f2.getD i 0)).1
              rw [Int.toNat_natCast, fill_set hVL.out hlt, NH.out] at h
              exact h
          · have hin : i = N := by omega
            subst hin
            have hdl : decide ((i : Int) < (i : Int)) = false := decide_eq_false (by omega)
            rw [fill_full hVL.out] at rz
            have hro2 := Aside0.mk (Kd.R_below hro.out cw.out)
            have hblk2 := Aside0.mk (blk_below hblk.out cw.out)
            have hbw2 := Aside0.mk (below_step hbw.out cw.out)
            have NE := Aside0.mk (show ∀ k, u4.ownBlock = some k → k ≠ gz from fun k hk => by have := Kd.R_lt hro.out k hk; have := GE.out; omega)
            have NG := Aside0.mk (show gz ≠ g by have := blk_lt hblk.out; have := GE.out; omega)
            clear hro hblk hbw cw
            go_wp2_with (first
              | ((with_reducible refine gate_builtin (b := .append) (xs := #[.tmp 68, .tmp 73]) rfl ?_); at_builtin; refine Kd.R_append k79 (w0 := w) w.heap.size rfl (.tmp 68) (.tmp 73) 74 79 (.agg #[.string (⟨#[]⟩ : ByteArray), .string (⟨#[]⟩ : ByteArray), .slice none 0 0]) 56 rfl Tryz.underlying74 info_bd rfl (by decide) (by omega) u4 xs r [.string r.f0, .string r.f1, .slice (some ⟨gz, 0, none⟩) i i] (fun k_ => k_ ≠ g) (fun k => k = gz) rfl (by first | rfl | (go_simp; done)) (k79_mkM _ _ _ r rz.out) ?aO ?aF hro2.out hbw2.out (below_size hbw2.out) ?aL ?_
                 (case aO => rintro k rfl; exact ⟨NG.out, fun he => NE.out k he.symm rfl⟩); (case aF => exact (fun k hk he => by have := blk_lt hblk2.out; omega)); (case aL => have := hlen.out; omega)
                 intro v8 w18 ho hb3 hg3 hat
                 have hro := Aside0.mk ho
                 have hblk := Aside0.mk (blk_grown hblk2.out hg3 (Kd.R_ne hro2.out hblk2.out (by decide)))
                 have hbw := Aside0.mk hb3
                 clear hro2 hblk2 hbw2 ho hb3 hg3 hat))
            have hlt2 := hlt0.out
            have hlk := hk.out
            go_roundg ((rest t1 n).size)
            case measure => omega
            case rel =>
              exact ⟨_, _, xs ++ [r], zs', _, rfl, ⟨.inr rfl⟩, ⟨by have := hz.out; rw [List.append_assoc]; exact this⟩, ⟨hrest.out⟩, ⟨Nat.le_refl _⟩, hblk, hro, hbw⟩)
end Go.Proofs.YtdmpbaanonafbaaGreatDoor.BdLoop

/- impl.Buddyinfo by hand, in the print's form: the door's defer and recover; what is told: texts that are read without an error. -/
namespace Go.Proofs.YtdmpbaanonafbaaGreatDoor.DoorBd
open Go.RowKit Go.Proofs.YtdmpbaanonafbaaGreatDoorPt Go.Proofs.YtdmpbaanonafbaaGreatDoorW.PrintWords Go.Proofs.YtdmpbaanonafbaaGreatDoorW.PrintLast Go.Proofs.YtdmpbaanonafbaaGreatDoor.Flt Go.Proofs.YtdmpbaanonafbaaGreatDoor.GivZ Go.Proofs.YtdmpbaanonafbaaGreatDoorW.PrintMore Go.Proofs.YtdmpbaanonafbaaGreatDoor.E Go.Proofs.YtdmpbaanonafbaaGreatDoor.G Go.Proofs.YtdmpbaanonafbaaGreatDoor.B Go.Proofs.YtdmpbaanonafbaaGreatDoor.ScanL Go.Proofs.YtdmpbaanonafbaaGreatDoor.BdLoop Go.Proofs.YtdmpbaanonafbaaGreatDoor.Fl2
attribute [local go_sem] max2_int min2_int max_two min_two max_three min_three max_four min_four
set_option linter.unusedVariables false
set_option linter.unusedSimpArgs false

/-- A line of numbers as a row. -/
def flOf (p : ByteArray) : Option Nat := (strconv_ParseFloat.f p 64).bind fun r => if r.2 = none then some r.1 else none
def bdRow (l : List UInt8) : Option S79 := (strings_Fields.f (toB l)).bind fun ps => if 5 ≤ ps.length then (strings_TrimSuffix.f (rdOf ByteArray.empty ps 1) (⟨#[44]⟩ : ByteArray)).bind fun a => (strings_TrimSuffix.f (rdOf ByteArray.empty ps 3) (⟨#[44]⟩ : ByteArray)).bind fun b => (mapO flOf (ps.drop 4)).bind fun vs => some ⟨a, b, vs⟩ else none
/-- How many numbers the rows have. -/
def width : List S79 → Nat
  | [] => 1
  | z :: _ => z.f2.length
theorem flOf_is {p : ByteArray} {v : Nat} (h : flOf p = some v) : strconv_ParseFloat.f p 64 = some (v, none) := by
  unfold flOf at h
  obtain ⟨⟨r1, r2⟩, hr, h⟩ := Option.bind_eq_some_iff.1 h
  by_cases c : r2 = none
  · subst c
    rw [if_pos rfl] at h
    obtain rfl := Option.some.inj h
    exact hr
  · rw [if_neg c] at h; cases h
theorem bdRow_is (l : List UInt8) (z : S79) (h : bdRow l = some z) : BdL z.f2.length (toB l) z := by
  unfold bdRow at h
  obtain ⟨ps, hp, h⟩ := Option.bind_eq_some_iff.1 h
  by_cases c : 5 ≤ ps.length
  · rw [if_pos c] at h
    obtain ⟨a, ha, h⟩ := Option.bind_eq_some_iff.1 h
    obtain ⟨b, hb, h⟩ := Option.bind_eq_some_iff.1 h
    obtain ⟨vs, hv, h⟩ := Option.bind_eq_some_iff.1 h
    obtain rfl := Option.some.inj h
    have h2 := mapO_all2 _ _ hv
    have hl := all2_len _ _ h2
    rw [List.length_drop] at hl
    refine ⟨ps, hp, ?_, ha, hb, rfl, fun i hi => ?_⟩
    · show ps.length = vs.length + 4
      omega
    · have hi' : i < vs.length := hi
      have h3 := flOf_is (all2_get ByteArray.empty (0 : Nat) _ _ h2 i (by rw [List.length_drop]; omega))
      have e : (ps.drop 4).getD i ByteArray.empty = rdOf ByteArray.empty ps ((i + 4 : Nat) : Int) := by
        unfold rdOf
        rw [Int.toNat_natCast, List.getD_eq_getElem?_getD, List.getD_eq_getElem?_getD, List.getElem?_drop, Nat.add_comm]
      rw [e] at h3
      exact h3
  · rw [if_neg c] at h; cases h
theorem scan_width {N : Nat} : ∀ {t : ByteArray} {zs : List S79}, ScanRun (fun l z => BdL z.f2.length l z) t zs → (∀ z ∈ zs, z.f2.length = N) → ScanRun (BdL N) t zs := by
  intro t zs h
  induction h with
  | done => exact fun _ => .done
  | row hl hp _ ih => exact fun hz => .row hl (by have e := hz _ List.mem_cons_self; rw [e] at hp; exact hp) (ih fun z h => hz z (List.mem_cons_of_mem _ h))
theorem open_is (a : ByteArray) (w : World) : Calls Tryz.prog 123 #[.string a] w fun e w' => e = .returned (.tuple #[.string a, .nilIface]) ∧ w = w' := by
  go_enter Tryz.func123, Tryz.ntmps123
  go_wp2
  go_ret2
  exact ⟨rfl, rfl⟩
theorem close_is (a : ByteArray) (w : World) : CallsD Tryz.prog 124 #[.string a] .returning w fun e u' w' => e = .returned .nilIface ∧ u' = .returning ∧ w' = w := by
  have h := callsD_of_wp (P := Tryz.prog) (f := 124) (args := #[.string a]) (u := .returning) (w := w) (R := fun e w' => e = .returned .nilIface ∧ w' = w) Tryz.func124 rfl (by
    simp only [Tryz.ntmps124]
    go_simp
    go_wp2
    go_ret
    exact ⟨rfl, rfl⟩)
  refine h.mono ?_
  rintro e u' w' ⟨h1, h2, h3⟩
  exact ⟨h2, h1, h3⟩
set_option maxHeartbeats 8000000 in
set_option maxRecDepth 100000 in
theorem Fs_is (N : Nat) (a : ByteArray) (zs : List S79) (w : World) (hr : ScanRun (BdL N) a zs) (hl : zs.length ≤ 1000000) (hN : N ≤ 1000000) (hN1 : 0 < N) (hTabs : Tabs w) :
    Calls Tryz.prog 61 #[.agg #[.string a]] w fun e w' => ∃ v, e = .returned (.tuple #[v, .nilIface]) ∧ Kd.R k79 79 w' w.heap.size (fun _ => True) v zs ∧ Below w.heap.size w w' := by
  have HR := Lib.hid hr
  have HLN := Lib.hid hl
  have HN := Lib.hid hN
  have HN1 := Lib.hid hN1
  have HT := Lib.hid hTabs
  have hu62 := Tryz.underlying62
  clear hr hl hTabs hN hN1
  have HB := Aside0.mk (Below.refl w.heap.size w)
  go_enter_defers Tryz.func61, Tryz.ntmps61
  go_wp2_with (first
    | ((with_reducible refine gate_dst (N := 1) rfl ?_); refine box_event ?hg (N := 1) ?hd (cs := #[.string a]) (t := 62) ?hr ?_; (case hd => rfl); (case hg => rfl); (case hr => first | (go_simp; done) | (go_simp; rfl)); intro g1 hg w1 hbox hb
       have hc0 : w1.cell? ⟨g1, 0, none⟩ = some (.string a) := (blk_cell hbox 0).trans rfl
       have n0 := Aside0.mk (below_step HB.out hb); clear HB; have HB := n0; clear n0 hb hbox hg)
    | (go_at_call 119; refine (texts_Text_Path.calls a _ _ [(⟨#[98, 117, 100, 100, 121, 105, 110, 102, 111]⟩ : ByteArray)] a _ (Kd.R_reads' (strs_row _ [(⟨#[98, 117, 100, 100, 121, 105, 110, 102, 111]⟩ : ByteArray)] (by decide))).2.2 (by decide) rfl).mono ?_; rintro e w2 ⟨rfl, hb⟩
       obtain ⟨nd, hnd⟩ := hb.out
       have n0 := Aside0.mk (show Below w.heap.size w w2 by rw [hnd]; exact pw_below_drewN (below_alloc HB.out _) nd); clear HB; have HB := n0; clear n0 hb hnd)
    | (go_at_call 123; refine (open_is _ _).mono ?_; rintro e w3 ⟨rfl, rfl⟩)
    | (go_at_call 125; refine (bdLoop_is N _ zs _ HR.out HLN.out HN.out HN1.out (Tabs.below HT.out HB.out)).mono ?_; rintro e w4 ⟨v, rfl, ho, hb⟩
       have HL := Aside0.mk (Kd.R_lower ho (below_size HB.out))
       have n0 := Aside0.mk (below_step HB.out hb); clear HB; have HB := n0; clear n0 ho hb))
  refine leaves_cons (f := 124) (args := #[.string a]) (by simp) (by simp [go_sem]) ?_
  refine (close_is a _).mono ?_
  rintro e u' w'' ⟨rfl, rfl, rfl⟩
  simp [Leaves, settle, results, Tryz.results61, go_sem]
  exact ⟨HL.out, HB.out⟩


set_option maxRecDepth 100000 in
theorem catch_idle (p q : Addr) (w : World) :
    CallsD Tryz.prog 122 #[.pointer (some p), .pointer (some q)] .returning w fun e u' w' => e = .returned (.tuple #[]) ∧ u' = .returning ∧ w' = w := by
  refine callsD_of_wpS Tryz.func122 rfl fun c₀ cs hu => ?_
  apply wpS_seq
  apply wpS_region
  simp [wpOpsS, go_sem, recoverD, hu, Tryz.ntmps122, Exit.thenS]
  refine wpS_cond (t := false) (by simp [Act.eval, Array.replicate]) ?_
  simp only [Bool.false_eq_true, if_false]
  refine wpS_of_wp (wp_skip ?_)
  cases c₀
  simp_all [bodyPostS, results, Tryz.results122]

set_option maxHeartbeats 8000000 in
set_option maxRecDepth 100000 in
theorem tree_is (a0 : ByteArray) (n1 : ByteArray) (n2 : Int) (n3 : Bool) (n4 n5 : Int) (n6 : Nat) (n7 : ByteArray) (n8 : List S35) (PR : World → World → Value → Prop) (w : World)
    (h1 : ∀ w, Tabs w → Calls Tryz.prog 61 #[.agg #[.string a0]] w fun e w' => ∃ v : Value, e = .returned (.tuple #[v, .nilIface]) ∧ PR w w' v ∧ Below w.heap.size w w')
    (h2 : ∀ w0 w v, PR w0 w v → Calls Tryz.prog 62 #[v] w fun e w' => ∃ v7_ : Value, e = .returned (.agg #[.string n1, .int .i64 n2, .bool n3, .int .i64 n4, .int .u64 n5, .float .f64 n6, .string n7, v7_]) ∧ Kd.R k35 35 w' w.heap.size (fun _ => True) v7_ n8 ∧ Below w.heap.size w w') (hTabs : Tabs w) :
    Calls Tryz.prog 60 #[.func (.func 61) #[.agg #[.string a0]] #[], .func (.func 62) #[] #[]] w fun e w' => ∃ v7_ : Value, e = .returned (.tuple #[.agg #[.string n1, .int .i64 n2, .bool n3, .int .i64 n4, .int .u64 n5, .float .f64 n6, .string n7, v7_], .int .i64 0]) ∧ Kd.R k35 35 w' w.heap.size (fun _ => True) v7_ n8 ∧ Below w.heap.size w w' := by
  have hmf : ∀ (fn : Fn) (first cap : Array Value) (w : World), (Instr.makeFunc fn first cap).run Tryz.prog w = .ok (.func fn first cap) w := fun _ _ _ _ => rfl
  have hu35 := Tryz.underlying35
  have HA := Lib.hid h1
  have HA2 := Lib.hid h2
  clear h1 h2
  have HB := Aside0.mk (Below.refl w.heap.size w)
  go_enter_defers Tryz.func60, Tryz.ntmps60
  go_wp2_with (first
    | ((with_reducible refine gate_dst (N := 4) rfl ?_); refine box_event ?hg (N := 4) ?hd (cs := #[.string (⟨#[]⟩ : ByteArray), .int .i64 0, .bool false, .int .i64 0, .int .u64 0, .float .f64 0, .string (⟨#[]⟩ : ByteArray), .slice none 0 0]) (t := 35) ?hr ?_; (case hd => rfl); (case hg => rfl); (case hr => first | (go_simp; done) | (go_simp; rfl)); intro g4 hg w1 hbox hb
       have BK4 := Aside0.mk hbox
       have GE4 := Aside0.mk (show w.heap.size ≤ g4 by rw [hg]; exact below_size HB.out)
       have n0 := Aside0.mk (below_step HB.out hb); clear HB; have HB := n0; clear n0 hb hbox hg)
    | ((with_reducible refine gate_dst (N := 5) rfl ?_); refine box_event ?hg (N := 5) ?hd (cs := #[.int .i64 0]) (t := 3) ?hr ?_; (case hd => rfl); (case hg => rfl); (case hr => first | (go_simp; done) | (go_simp; rfl)); intro g5 hg w2 hbox hb
       have BK5 := Aside0.mk hbox
       have NE := Aside0.mk (show g4 ≠ g5 by rw [hg]; exact Nat.ne_of_lt (blk_lt BK4.out))
       have n1 := Aside0.mk (blk_below BK4.out hb); clear BK4; have BK4 := n1; clear n1
       have GE5 := Aside0.mk (show w.heap.size ≤ g5 by rw [hg]; exact below_size HB.out)
       have n0 := Aside0.mk (below_step HB.out hb); clear HB; have HB := n0; clear n0 hb hbox hg)
    | (go_at_call 61; refine (HA.out _ (Tabs.below hTabs HB.out)).mono ?_; rintro e w3 ⟨vr, rfl, hp, hb⟩
       have HP := Aside0.mk hp
       have n1 := Aside0.mk (blk_below BK4.out hb); clear BK4; have BK4 := n1; clear n1
       have n1 := Aside0.mk (blk_below BK5.out hb); clear BK5; have BK5 := n1; clear n1
       have n0 := Aside0.mk (below_step HB.out hb); clear HB; have HB := n0; clear n0 hb hp))
  refine (HA2.out _ _ _ HP.out).mono ?_
  rintro e w5 ⟨v7, rfl, ho, hb⟩
  have B4 := blk_below BK4.out hb
  have B5 := blk_below BK5.out hb
  have HB5 := below_step HB.out hb
  have HR := Kd.R_newB (Kd.R_newB ho BK4.out) BK5.out
  have HR2 := Aside0.mk (Kd.R_lower HR (below_size HB.out))
  have HBW := Aside0.mk HB5
  obtain ⟨A7, c7, e7⟩ := Kd.R_slice HR2.out
  subst e7
  have hne := NE.out
  have hne2 := NE.out.symm
  have xc0 : w5.cell? ⟨g4, 0, none⟩ = some (.string (⟨#[]⟩ : ByteArray)) := (blk_cell B4 0).trans rfl
  have xf0 := blk_frozen B4 0
  have xc1 : w5.cell? ⟨g4, 1, none⟩ = some (.int .i64 0) := (blk_cell B4 1).trans rfl
  have xf1 := blk_frozen B4 1
  have xc2 : w5.cell? ⟨g4, 2, none⟩ = some (.bool false) := (blk_cell B4 2).trans rfl
  have xf2 := blk_frozen B4 2
  have xc3 : w5.cell? ⟨g4, 3, none⟩ = some (.int .i64 0) := (blk_cell B4 3).trans rfl
  have xf3 := blk_frozen B4 3
  have xc4 : w5.cell? ⟨g4, 4, none⟩ = some (.int .u64 0) := (blk_cell B4 4).trans rfl
  have xf4 := blk_frozen B4 4
  have xc5 : w5.cell? ⟨g4, 5, none⟩ = some (.float .f64 0) := (blk_cell B4 5).trans rfl
  have xf5 := blk_frozen B4 5
  have xc6 : w5.cell? ⟨g4, 6, none⟩ = some (.string (⟨#[]⟩ : ByteArray)) := (blk_cell B4 6).trans rfl
  have xf6 := blk_frozen B4 6
  have xc7 : w5.cell? ⟨g4, 7, none⟩ = some (.slice none 0 0) := (blk_cell B4 7).trans rfl
  have xf7 := blk_frozen B4 7
  have yc0 : w5.cell? ⟨g5, 0, none⟩ = some (.int .i64 0) := (blk_cell B5 0).trans rfl
  have yf0 := blk_frozen B5 0
  clear B4 B5 HR HB5 ho hb BK4 BK5 HB HP
  go_wp2
  refine leaves_cons (f := 122) (args := #[.pointer (some ⟨g4, 0, none⟩), .pointer (some ⟨g5, 0, none⟩)]) (by simp) (by simp [go_sem]) ?_
  refine (catch_idle ⟨g4, 0, none⟩ ⟨g5, 0, none⟩ _).mono ?_
  rintro e u' w'' ⟨rfl, rfl, rfl⟩
  simp [Leaves, settle, results, Tryz.results60, go_sem, xc0, xc1, xc2, xc3, xc4, xc5, xc6, xc7, yc0, hne, hne2]
  refine ⟨Kd.R_mono (ok := fun k => (True ∧ k ≠ g4) ∧ k ≠ g5) (by refine Kd.R_far (p := ⟨g5, 0, none⟩) ?_ (fun _ hk => hk.2) _; refine Kd.R_far8 (g := g4) ?_ (fun _ hk => hk.1.2) _ _ _ _ _ _ _ _; exact HR2.out) (fun _ _ => trivial), by refine below_set ?_ GE5.out; refine below_set ?_ GE4.out; refine below_set ?_ GE4.out; refine below_set ?_ GE4.out; refine below_set ?_ GE4.out; refine below_set ?_ GE4.out; refine below_set ?_ GE4.out; refine below_set ?_ GE4.out; refine below_set ?_ GE4.out; exact HBW.out⟩

set_option maxHeartbeats 8000000 in
set_option maxRecDepth 100000 in
theorem door_is (a0 : ByteArray) (n1 : ByteArray) (n2 : Int) (n3 : Bool) (n4 n5 : Int) (n6 : Nat) (n7 : ByteArray) (n8 : List S35) (PR : World → World → Value → Prop) (w : World)
    (h1 : ∀ w, Tabs w → Calls Tryz.prog 61 #[.agg #[.string a0]] w fun e w' => ∃ v : Value, e = .returned (.tuple #[v, .nilIface]) ∧ PR w w' v ∧ Below w.heap.size w w')
    (h2 : ∀ w0 w v, PR w0 w v → Calls Tryz.prog 62 #[v] w fun e w' => ∃ v7_ : Value, e = .returned (.agg #[.string n1, .int .i64 n2, .bool n3, .int .i64 n4, .int .u64 n5, .float .f64 n6, .string n7, v7_]) ∧ Kd.R k35 35 w' w.heap.size (fun _ => True) v7_ n8 ∧ Below w.heap.size w w') (hTabs : Tabs w) :
    Calls Tryz.prog 17 #[.string a0] w fun e w' => ∃ v7_ : Value, e = .returned (.tuple #[.agg #[.string n1, .int .i64 n2, .bool n3, .int .i64 n4, .int .u64 n5, .float .f64 n6, .string n7, v7_], .int .i64 0]) ∧ Kd.R k35 35 w' w.heap.size (fun _ => True) v7_ n8 ∧ Below w.heap.size w w' := by
  have hmf : ∀ (fn : Fn) (first cap : Array Value) (w : World), (Instr.makeFunc fn first cap).run Tryz.prog w = .ok (.func fn first cap) w := fun _ _ _ _ => rfl
  have hu35 := Tryz.underlying35
  have HA := Lib.hid h1
  have HA2 := Lib.hid h2
  clear h1 h2
  have HB := Aside0.mk (Below.refl w.heap.size w)
  go_enter Tryz.func17, Tryz.ntmps17
  go_wp2_with (first
    | ((with_reducible refine gate_dst (N := 2) rfl ?_); refine box_event ?hg (N := 2) ?hd (cs := #[.string (⟨#[]⟩ : ByteArray), .int .i64 0, .bool false, .int .i64 0, .int .u64 0, .float .f64 0, .string (⟨#[]⟩ : ByteArray), .slice none 0 0]) (t := 35) ?hr ?_; (case hd => rfl); (case hg => rfl); (case hr => first | (go_simp; done) | (go_simp; rfl)); intro g4 hg w1 hbox hb
       have BK4 := Aside0.mk hbox
       have GE4 := Aside0.mk (show w.heap.size ≤ g4 by rw [hg]; exact below_size HB.out)
       have n0 := Aside0.mk (below_step HB.out hb); clear HB; have HB := n0; clear n0 hb hbox hg)
    | (go_at_call 50; refine (F.procfs_TextFS.calls a0 a0 _ rfl).mono ?_; rintro e w2 ⟨rfl, hb⟩
       have n1 := Aside0.mk (blk_below BK4.out hb); clear BK4; have BK4 := n1; clear n1
       have n0 := Aside0.mk (below_step HB.out hb); clear HB; have HB := n0; clear n0 hb))
  refine (tree_is a0 n1 n2 n3 n4 n5 n6 n7 n8 PR _ HA.out HA2.out (Tabs.below hTabs HB.out)).mono ?_
  rintro e w5 ⟨v7, rfl, ho, hb⟩
  have B4 := blk_below BK4.out hb
  have HR2 := Aside0.mk (Kd.R_lower (Kd.R_newB ho BK4.out) (below_size HB.out))
  have HBW := Aside0.mk (below_step HB.out hb)
  obtain ⟨A7, c7, e7⟩ := Kd.R_slice HR2.out
  subst e7
  have xc0 : w5.cell? ⟨g4, 0, none⟩ = some (.string (⟨#[]⟩ : ByteArray)) := (blk_cell B4 0).trans rfl
  have xf0 := blk_frozen B4 0
  have xc1 : w5.cell? ⟨g4, 1, none⟩ = some (.int .i64 0) := (blk_cell B4 1).trans rfl
  have xf1 := blk_frozen B4 1
  have xc2 : w5.cell? ⟨g4, 2, none⟩ = some (.bool false) := (blk_cell B4 2).trans rfl
  have xf2 := blk_frozen B4 2
  have xc3 : w5.cell? ⟨g4, 3, none⟩ = some (.int .i64 0) := (blk_cell B4 3).trans rfl
  have xf3 := blk_frozen B4 3
  have xc4 : w5.cell? ⟨g4, 4, none⟩ = some (.int .u64 0) := (blk_cell B4 4).trans rfl
  have xf4 := blk_frozen B4 4
  have xc5 : w5.cell? ⟨g4, 5, none⟩ = some (.float .f64 0) := (blk_cell B4 5).trans rfl
  have xf5 := blk_frozen B4 5
  have xc6 : w5.cell? ⟨g4, 6, none⟩ = some (.string (⟨#[]⟩ : ByteArray)) := (blk_cell B4 6).trans rfl
  have xf6 := blk_frozen B4 6
  have xc7 : w5.cell? ⟨g4, 7, none⟩ = some (.slice none 0 0) := (blk_cell B4 7).trans rfl
  have xf7 := blk_frozen B4 7
  have BW := Aside0.mk B4
  clear B4 ho hb BK4 HB
  go_wp2
  refine bodyPost_ret (results_ct rfl _ _ g4 35 #[.string n1, .int .i64 n2, .bool n3, .int .i64 n4, .int .u64 n5, .float .f64 n6, .string n7, .slice A7 n8.length c7] (0, 0) _ rfl (by exact blk_put8 BW.out) hu35 rfl rfl) rfl ?_
  exact ⟨_, rfl, Kd.R_mono (ok := fun k => True ∧ k ≠ g4) (by refine Kd.R_far8 (g := g4) ?_ (fun _ hk => hk.2) _ _ _ _ _ _ _ _; exact HR2.out) (fun _ _ => trivial), by refine below_set ?_ GE4.out; refine below_set ?_ GE4.out; refine below_set ?_ GE4.out; refine below_set ?_ GE4.out; refine below_set ?_ GE4.out; refine below_set ?_ GE4.out; refine below_set ?_ GE4.out; refine below_set ?_ GE4.out; exact HBW.out⟩

/-- What the door answers of a text of nodes' zones. -/
def impl_Buddyinfo.f (k : Nat) (a0 : ByteArray) : Option (ByteArray × Int × Bool × Int × Int × Nat × ByteArray × List S35 × Int) :=
  if a0.size ≤ 1048576 then (runO bdRow a0.data.toList).bind fun zs => if zs.length ≤ 1000000 ∧ (zs.all fun z => z.f2.length == width zs) = true ∧ 0 < width zs ∧ width zs ≤ 1000000 then (impl_Buddyinfo_1.f k zs).bind fun m => some (m.1, m.2.1, m.2.2.1, m.2.2.2.1, m.2.2.2.2.1, m.2.2.2.2.2.1, m.2.2.2.2.2.2.1, m.2.2.2.2.2.2.2, 0) else none else none
theorem impl_Buddyinfo.mono : ∀ a0 k, LeO (impl_Buddyinfo.f k a0) (impl_Buddyinfo.f (k + 1) a0) := fun a0 k =>
  LeO.ite (LeO.bind (LeO.refl _) fun zs => LeO.ite (LeO.bind (impl_Buddyinfo_1.mono _ _) fun m => LeO.refl _) (LeO.refl _)) (LeO.refl _)
set_option maxRecDepth 100000 in
set_option maxHeartbeats 8000000 in
theorem impl_Buddyinfo.calls (k : Nat) (a0 : ByteArray) (n1 : ByteArray) (n2 : Int) (n3 : Bool) (n4 n5 : Int) (n6 : Nat) (n7 : ByteArray) (n8 : List S35) (n9 : Int) (w : World) (h : impl_Buddyinfo.f k a0 = some (n1, n2, n3, n4, n5, n6, n7, n8, n9)) (hTabs : Tabs w := by first | exact hTabs | exact Tabs.below hTabs (by repeat (first | (with_reducible first | exact HB.out | apply below_alloc | apply pw_below_drewN | apply below_drew1 | refine below_set ?_ (Aside0.out (by assumption))) | exact HB.out))) :
    Calls Tryz.prog 17 #[.string a0] w fun e w' =>
      ∃ v7_ : Value, e = .returned (.tuple #[.agg #[.string n1, .int .i64 n2, .bool n3, .int .i64 n4, .int .u64 n5, .float .f64 n6, .string n7, v7_], .int .i64 n9]) ∧ Kd.R k35 35 w' w.heap.size (fun _ => True) v7_ n8 ∧ Below w.heap.size w w' := by
  unfold impl_Buddyinfo.f at h
  by_cases c1 : a0.size ≤ 1048576
  · rw [if_pos c1] at h
    obtain ⟨zs, hz, h1⟩ := Option.bind_eq_some_iff.1 h
    clear h
    by_cases c2 : zs.length ≤ 1000000 ∧ (zs.all fun z => z.f2.length == width zs) = true ∧ 0 < width zs ∧ width zs ≤ 1000000
    · rw [if_pos c2] at h1
      obtain ⟨⟨m1, m2, m3, m4, m5, m6, m7, m8⟩, hm, h5⟩ := Option.bind_eq_some_iff.1 h1
      clear h1
      simp only [Option.some.injEq, Prod.mk.injEq] at h5
      obtain ⟨rfl, rfl, rfl, rfl, rfl, rfl, rfl, rfl, rfl⟩ := h5
      have hrun : ScanRun (fun l z => BdL z.f2.length l z) a0 zs := by have := runO_scan (fun l z => BdL z.f2.length l z) bdRow bdRow_is _ _ hz; rw [toB_of] at this; exact this
      have hrun2 := scan_width (N := width zs) hrun (fun z hz => by have := List.all_eq_true.1 c2.2.1 z hz; simpa using this)
      refine door_is a0 _ _ _ _ _ _ _ _ (fun w0 w' v => Kd.R k79 79 w' w0.heap.size (fun _ => True) v zs) w (fun w hT => Fs_is (width zs) a0 zs w hrun2 c2.1 c2.2.2.2 c2.2.2.1 hT) (fun w0 w v hp => ?_) hTabs
      obtain ⟨A, c, rfl⟩ := Kd.R_slice hp
      exact impl_Buddyinfo_1.calls k A c zs _ _ _ _ _ _ _ _ w (Kd.R_reads' hp).2.2 (Kd.R_reads' hp).2.1 hm
    · rw [if_neg c2] at h1; cases h1
  · rw [if_neg c1] at h; cases h
end Go.Proofs.YtdmpbaanonafbaaGreatDoor.DoorBd
