import Derived.Test.YtdmpbaanonafbaaGreatDoorGivZ
import Derived.Test.YtdmpbaanonafbaaGreatDoorPlain
import Derived.Tactics
import Derived.Tactics2
import Derived.Deep.QuietTactic
import Derived.BigQuiet
import Derived.Lib.Hide
import Derived.Test.YtdmpbaanonafbaaGreatDoorGivPW
import Derived.Deep.LoopGhost
import Derived.Test.YtdmpbaanonafbaaGreatDoorT1
/- texts.Lines by hand: a line at a time, of texts whose lines are short and do not end with a carriage return. -/
namespace Go.Proofs.YtdmpbaanonafbaaGreatDoor.Scan
open Go.RowKit Go.Proofs.YtdmpbaanonafbaaGreatDoorW.PrintWords Go.Proofs.YtdmpbaanonafbaaGreatDoorW.PrintLast Go.Proofs.YtdmpbaanonafbaaGreatDoor.GivZ Go.Proofs.YtdmpbaanonafbaaGreatDoorW.PrintMore Go.Proofs.YtdmpbaanonafbaaGreatDoorPt
set_option linter.unusedVariables false
set_option linter.unusedSimpArgs false
/-- A scanner's cells. -/
def scnM (m : Nat) (t line : ByteArray) : Obj := .cells #[.string t, .string line, .int .i64 m, .nilIface] 196 (0, 0)
def scn (t line : ByteArray) : Obj := scnM 65536 t line
set_option maxHeartbeats 4000000 in
set_option maxRecDepth 100000 in
theorem newLines_is (t : ByteArray) (w : World) : Calls Tryz.prog 133 #[.string t] w fun e w' => ∃ g, e = .returned (.pointer (some ⟨g, 0, none⟩)) ∧ g = w.heap.size ∧ w'.heap[g]? = some (scn t ByteArray.empty) ∧ Below w.heap.size w w' := by
  have hu := Tryz.underlying196
  go_enter Tryz.func133, Tryz.ntmps133
  go_wp2
  go_ret
  exact ⟨w.heap.size, rfl, rfl, blk_new _ _, below_alloc (Below.refl _ _) _⟩
set_option maxHeartbeats 8000000 in
set_option maxRecDepth 100000 in
theorem scan_no (g : Nat) (line : ByteArray) (w : World) (hb : w.heap[g]? = some (scn ByteArray.empty line)) :
    Calls Tryz.prog 134 #[.pointer (some ⟨g, 0, none⟩)] w fun e w' => e = .returned (.bool false) ∧ w'.heap[g]? = some (scn ByteArray.empty ByteArray.empty) ∧ KeepBut w w' g none ∧ (∀ w0 : World, Below w0.heap.size w0 w → w0.heap.size ≤ g → Below w0.heap.size w0 w') := by
  have hu := Tryz.underlying196
  have hc0 : w.cell? ⟨g, 0, none⟩ = some (.string ByteArray.empty) := (blk_cell hb 0).trans rfl
  have hc1 : w.cell? ⟨g, 1, none⟩ = some (.string line) := (blk_cell hb 1).trans rfl
  have hc3 : w.cell? ⟨g, 3, none⟩ = some .nilIface := (blk_cell hb 3).trans rfl
  have hf1 := blk_frozen hb 1
  have HB := Aside0.mk hb
  clear hb
  go_enter Tryz.func134, Tryz.ntmps134
  go_wp2
  go_ret
  exact ⟨rfl, blk_put HB.out 1 _ rfl, (KeepBut.refl w g none).set_ 1 _, fun w0 h hg => below_set h hg⟩
theorem keep_put {w : World} {g : Nat} {t l m e : Value} {T : TypeId} (h : w.heap[g]? = some (.cells #[t, l, m, e] T (0, 0))) (u : Value) : (w.setCell ⟨g, 1, none⟩ u).heap[g]? = some (.cells #[t, u, m, e] T (0, 0)) := blk_put h 1 u rfl
set_option maxHeartbeats 16000000 in
set_option maxRecDepth 100000 in
theorem scan_yesM (m g : Nat) (t line : ByteArray) (n : Nat) (w : World) (hb : w.heap[g]? = some (scnM m t line)) (hne : 0 < t.size) (hn : n ≤ t.size) (hmost : n < m) (hbefore : ∀ (i : Nat) (h : i < t.size), i < n → ¬ ((t[i]'h).toNat : Int) = 10)
    (hend : ∀ h : n < t.size, ((t[n]'h).toNat : Int) = 10) (hcr : ∀ h : n - 1 < t.size, 0 < n → ¬ ((t[n - 1]'h).toNat : Int) = 13) (hsz : t.size ≤ 1000000) :
    Calls Tryz.prog 134 #[.pointer (some ⟨g, 0, none⟩)] w fun e w' => e = .returned (.bool true) ∧ w'.heap[g]? = some (scnM m (t.extract (min (n + 1) t.size) t.size) (t.extract 0 n)) ∧ KeepBut w w' g none ∧ (∀ w0 : World, Below w0.heap.size w0 w → w0.heap.size ≤ g → Below w0.heap.size w0 w') := by
  have hu := Tryz.underlying196
  have hc0 : w.cell? ⟨g, 0, none⟩ = some (.string t) := (blk_cell hb 0).trans rfl
  have hc1 : w.cell? ⟨g, 1, none⟩ = some (.string line) := (blk_cell hb 1).trans rfl
  have hc2 : w.cell? ⟨g, 2, none⟩ = some (.int .i64 m) := (blk_cell hb 2).trans rfl
  have hc3 : w.cell? ⟨g, 3, none⟩ = some .nilIface := (blk_cell hb 3).trans rfl
  have hf1 := blk_frozen hb 1
  have hf0 := blk_frozen hb 0
  have HB := Aside0.mk hb
  have hne2 : ¬ (t.toList = []) := by
    rw [Lib.toList_data]
    intro h
    have := len_data t
    rw [h] at this
    simp at this
    omega
  have hne3 : t.toList.isEmpty = false := by
    cases h : t.toList with
    | nil => exact absurd h hne2
    | cons _ _ => rfl
  have HBE := Lib.hid hbefore
  have HEN := Lib.hid hend
  have HCR := Lib.hid hcr
  clear hb hbefore hend hcr
  go_enter Tryz.func134, Tryz.ntmps134
  go_wp2
  go_loop [3] (fun v3 => ∃ k : Nat, v3 = .int .i64 k ∧ k ≤ n) (fun v3 => n - (intOf v3).toNat)
  case atStart => exact ⟨0, rfl, by omega⟩
  case round =>
    obtain ⟨k, rfl, hk⟩ := hrel
    by_cases hkn : k < n
    · have hkt : k < t.size := by omega
      have hx := HBE.out k hkt hkn
      go_wp2
      exact ⟨⟨k + 1, rfl, by omega⟩, by simp [intOf]; omega⟩
    · obtain rfl : k = n := by omega
      by_cases hlt : k < t.size
      · have hx := HEN.out hlt
        go_wp2
        obtain ⟨W, hW⟩ : ∃ W, W = (((w.setCell ⟨g, 1, none⟩ (.string (⟨#[]⟩ : ByteArray))).setCell ⟨g, 1, none⟩ (.string (t.extract 0 k))).setCell ⟨g, 0, none⟩ (.string (t.extract (k + 1) t.size))) := ⟨_, rfl⟩
        have hbW := Aside0.mk (show W.heap[g]? = some (scnM m (t.extract (min (k + 1) t.size) t.size) (t.extract 0 k)) by rw [hW, show min (k + 1) t.size = k + 1 by omega]; exact blk_put (cs := #[.string t, .string (t.extract 0 k), .int .i64 m, .nilIface]) (keep_put (keep_put HB.out _) _) 0 _ rfl)
        have hkW := Aside0.mk (show KeepBut w W g none by rw [hW]; exact (((KeepBut.refl w g none).set_ 1 _).set_ 1 _).set_ 0 _)
        have hBel := Aside0.mk (show ∀ w0 : World, Below w0.heap.size w0 w → w0.heap.size ≤ g → Below w0.heap.size w0 W by rw [hW]; exact fun w0 h hg => below_set (below_set (below_set h hg) hg) hg)
        rw [← hW]
        clear hW hc0 hc1 hc2 hc3 hf1 hf0
        have hl : W.cell? ⟨g, 1, none⟩ = some (.string (t.extract 0 k)) := (blk_cell hbW.out 1).trans rfl
        have hsl : (t.extract 0 k).size = k := by rw [Lib.size_eq, Lib.extract_data]; simp; omega
        have hg := Lib.hid (fun (h : k - 1 < (t.extract 0 k).size) (h0 : 0 < k) => show ¬ (((t.extract 0 k)[k - 1]'h).toNat : Int) = 13 by
          have h2 := HCR.out (by omega) h0
          have e : (t.extract 0 k)[k - 1]'h = t[k - 1]'(by omega) := by simp [ByteArray.getElem_extract]
          rw [e]; exact h2)
        generalize hR : t.extract (min (k + 1) t.size) t.size = R at hbW
        generalize hN : t.extract 0 k = ln at hbW hl hsl hg ⊢
        have HR := Lib.hid hR
        have HN := Lib.hid hN
        clear HBE HEN HCR hR hN
        by_cases k0 : k = 0
        · have hsz0 : ln.size = 0 := by omega
          have hx0 : decide ((0 : Int) < (ln.size : Int)) = false := decide_eq_false (by omega)
          try clear hx
          clear hsl hg k0 hk hkn hlt
          go_quiet (fail)
          all_goals (go_wp2)
          all_goals (go_ret; exact ⟨rfl, by rw [HR.out, HN.out]; exact hbW.out, hkW.out, fun w0 h hg => pw_below_drewN (hBel.out w0 h hg) _⟩)
        · obtain ⟨j, hj0⟩ : ∃ j, k = j + 1 := ⟨k - 1, by omega⟩
          have hj : j < ln.size := by omega
          have h13 : ¬ ((ln[j]'hj).toNat : Int) = 13 := by
            have e : k - 1 = j := by omega
            have := hg.out (by omega) (by omega)
            simp only [e] at this
            exact this
          have hsz1 : ln.size = j + 1 := by omega
          have hx0 : decide ((0 : Int) < (ln.size : Int)) = true := decide_eq_true (by omega)
          try clear hx
          have hx1 : decide (0 < ln.size) = true := decide_eq_true (by omega)
          have hjb : (j : Int) < 1000000 := by omega
          have hw0 : IntKind.i64.wrap ((j : Int) + 1 - 1) = (j : Int) := by rw [IntKind.wrap_i64]; omega
          have hw1 : IntKind.i64.wrap (((j + 1 : Nat) : Int) - 1) = (j : Int) := by rw [IntKind.wrap_i64]; omega
          have hw2 : IntKind.i64.wrap ((ln.size : Int) - 1) = (j : Int) := by rw [IntKind.wrap_i64]; omega
          have hj0' : (0 : Int) ≤ j := by omega
          have hj1 : (j : Int) < ln.size := by omega
          clear hsl hg k0 hj0 hk hkn hlt hsz1 hjb
          go_quiet (fail)
          all_goals (go_wp2)
          all_goals (go_ret; exact ⟨rfl, by rw [HR.out, HN.out]; exact hbW.out, hkW.out, fun w0 h hg => pw_below_drewN (hBel.out w0 h hg) _⟩)
      · go_wp2
        obtain ⟨W, hW⟩ : ∃ W, W = (((w.setCell ⟨g, 1, none⟩ (.string (⟨#[]⟩ : ByteArray))).setCell ⟨g, 1, none⟩ (.string (t.extract 0 k))).setCell ⟨g, 0, none⟩ (.string (t.extract k t.size))) := ⟨_, rfl⟩
        have hbW := Aside0.mk (show W.heap[g]? = some (scnM m (t.extract (min (k + 1) t.size) t.size) (t.extract 0 k)) by rw [hW, show min (k + 1) t.size = k by omega]; exact blk_put (cs := #[.string t, .string (t.extract 0 k), .int .i64 m, .nilIface]) (keep_put (keep_put HB.out _) _) 0 _ rfl)
        have hkW := Aside0.mk (show KeepBut w W g none by rw [hW]; exact (((KeepBut.refl w g none).set_ 1 _).set_ 1 _).set_ 0 _)
        have hBel := Aside0.mk (show ∀ w0 : World, Below w0.heap.size w0 w → w0.heap.size ≤ g → Below w0.heap.size w0 W by rw [hW]; exact fun w0 h hg => below_set (below_set (below_set h hg) hg) hg)
        rw [← hW]
        clear hW hc0 hc1 hc2 hc3 hf1 hf0
        have hl : W.cell? ⟨g, 1, none⟩ = some (.string (t.extract 0 k)) := (blk_cell hbW.out 1).trans rfl
        have hsl : (t.extract 0 k).size = k := by rw [Lib.size_eq, Lib.extract_data]; simp; omega
        have hg := Lib.hid (fun (h : k - 1 < (t.extract 0 k).size) (h0 : 0 < k) => show ¬ (((t.extract 0 k)[k - 1]'h).toNat : Int) = 13 by
          have h2 := HCR.out (by omega) h0
          have e : (t.extract 0 k)[k - 1]'h = t[k - 1]'(by omega) := by simp [ByteArray.getElem_extract]
          rw [e]; exact h2)
        generalize hR : t.extract (min (k + 1) t.size) t.size = R at hbW
        generalize hN : t.extract 0 k = ln at hbW hl hsl hg ⊢
        have HR := Lib.hid hR
        have HN := Lib.hid hN
        clear HBE HEN HCR hR hN
        by_cases k0 : k = 0
        · have hsz0 : ln.size = 0 := by omega
          have hx0 : decide ((0 : Int) < (ln.size : Int)) = false := decide_eq_false (by omega)
          try clear hx
          clear hsl hg k0 hk hkn hlt
          go_quiet (fail)
          all_goals (go_wp2)
          all_goals (go_ret; exact ⟨rfl, by rw [HR.out, HN.out]; exact hbW.out, hkW.out, fun w0 h hg => pw_below_drewN (hBel.out w0 h hg) _⟩)
        · obtain ⟨j, hj0⟩ : ∃ j, k = j + 1 := ⟨k - 1, by omega⟩
          have hj : j < ln.size := by omega
          have h13 : ¬ ((ln[j]'hj).toNat : Int) = 13 := by
            have e : k - 1 = j := by omega
            have := hg.out (by omega) (by omega)
            simp only [e] at this
            exact this
          have hsz1 : ln.size = j + 1 := by omega
          have hx0 : decide ((0 : Int) < (ln.size : Int)) = true := decide_eq_true (by omega)
          try clear hx
          have hx1 : decide (0 < ln.size) = true := decide_eq_true (by omega)
          have hjb : (j : Int) < 1000000 := by omega
          have hw0 : IntKind.i64.wrap ((j : Int) + 1 - 1) = (j : Int) := by rw [IntKind.wrap_i64]; omega
          have hw1 : IntKind.i64.wrap (((j + 1 : Nat) : Int) - 1) = (j : Int) := by rw [IntKind.wrap_i64]; omega
          have hw2 : IntKind.i64.wrap ((ln.size : Int) - 1) = (j : Int) := by rw [IntKind.wrap_i64]; omega
          have hj0' : (0 : Int) ≤ j := by omega
          have hj1 : (j : Int) < ln.size := by omega
          clear hsl hg k0 hj0 hk hkn hlt hsz1 hjb
          go_quiet (fail)
          all_goals (go_wp2)
          all_goals (go_ret; exact ⟨rfl, by rw [HR.out, HN.out]; exact hbW.out, hkW.out, fun w0 h hg => pw_below_drewN (hBel.out w0 h hg) _⟩)
theorem scan_yes (g : Nat) (t line : ByteArray) (n : Nat) (w : World) (hb : w.heap[g]? = some (scn t line)) (hne : 0 < t.size) (hn : n ≤ t.size) (hmost : n < 65536) (hbefore : ∀ (i : Nat) (h : i < t.size), i < n → ¬ ((t[i]'h).toNat : Int) = 10)
    (hend : ∀ h : n < t.size, ((t[n]'h).toNat : Int) = 10) (hcr : ∀ h : n - 1 < t.size, 0 < n → ¬ ((t[n - 1]'h).toNat : Int) = 13) (hsz : t.size ≤ 1000000) :
    Calls Tryz.prog 134 #[.pointer (some ⟨g, 0, none⟩)] w fun e w' => e = .returned (.bool true) ∧ w'.heap[g]? = some (scn (t.extract (min (n + 1) t.size) t.size) (t.extract 0 n)) ∧ KeepBut w w' g none ∧ (∀ w0 : World, Below w0.heap.size w0 w → w0.heap.size ≤ g → Below w0.heap.size w0 w') :=
  scan_yesM 65536 g t line n w hb hne hn hmost hbefore hend hcr hsz
set_option maxRecDepth 100000 in
theorem text_is (g : Nat) (t line : ByteArray) (w : World) (hb : w.heap[g]? = some (scn t line)) :
    Calls Tryz.prog 136 #[.pointer (some ⟨g, 0, none⟩)] w fun e w' => e = .returned (.string line) ∧ w = w' := by
  have hu := Tryz.underlying196
  have hc1 : w.cell? ⟨g, 1, none⟩ = some (.string line) := (blk_cell hb 1).trans rfl
  clear hb
  go_enter Tryz.func136, Tryz.ntmps136
  go_wp2
  go_ret
  exact ⟨rfl, rfl⟩
end Go.Proofs.YtdmpbaanonafbaaGreatDoor.Scan

/- procfs.parseHexUint32s by hand: words of hexadecimal digits are read as numbers of 32 bits. -/
namespace Go.Proofs.YtdmpbaanonafbaaGreatDoor.Hex32
open Go.RowKit Go.Proofs.YtdmpbaanonafbaaGreatDoorW.PrintWords Go.Proofs.YtdmpbaanonafbaaGreatDoorW.PrintLast Go.Proofs.YtdmpbaanonafbaaGreatDoor.GivZ Go.Proofs.YtdmpbaanonafbaaGreatDoorW.PrintMore Go.Proofs.YtdmpbaanonafbaaGreatDoor.GivPW
set_option linter.unusedVariables false
set_option linter.unusedSimpArgs false
theorem info_u32 : (Tryz.prog.info? 121).map (fun i => (i.zero, i.size, i.bytes)) = some (some (.int .u32 0), 1, 4) := by kernel_rfl
theorem make_cap (n : Nat) (hn : n ≤ 1000000) (w : World) : (Instr.makeSlice 200 (.int .i64 0) (.int .i64 (n : Int))).run Tryz.prog w = .ok (.slice (some ⟨w.heap.size, 0, none⟩) 0 n) (w.alloc (.cells (madeCells #[.int .u32 0] n) 121 (0, 0))) := by
  obtain ⟨i, hi, hz⟩ := Option.map_eq_some_iff.1 info_u32
  simp only [Prod.mk.injEq] at hz
  have := run_make (P := Tryz.prog) w 200 121 i (.int .u32 0) Tryz.underlying200 hi hz.1 .i64 .i64 0 n (by omega) (by omega) (by rw [hz.2.2]; omega) (by omega)
  rw [this, hz.2.1]
  simp [Value.cells]
theorem made_R (w : World) (n : Nat) (hn : n ≤ 1000000) : Kd.R (Kd.int .u32) 121 (w.alloc (.cells (madeCells #[.int .u32 0] n) 121 (0, 0))) w.heap.size (fun _ => True) (.slice (some ⟨w.heap.size, 0, none⟩) 0 n) [] := by
  refine ⟨fun _ _ => trivial, [], ⟨by rfl, .inr ⟨w.heap.size, n, madeCells #[.int .u32 0] n, rfl, Nat.le_refl _, ?_, by simp, by unfold maxLen; omega, ?_, ?_⟩⟩, by rfl, ?_⟩
  · show (w.heap.push _)[w.heap.size]? = _
    simp
  · simp [size_madeCells, Kd.int, Kd.scalar]
  · simp
  · intro j p hp
    simp at hp
section
variable {P : Program} {ops : Array Oper} {o : Oper} {rest : List Oper} {a : Act} {Q : Exit → Act → World → Prop} {W : World}
theorem make_event (hgd : o.guard = none) {N : Tmp} (_hd : o.dst = some N) {cs : Array Value} {t : TypeId} {n : Nat}
    (hrun : (execOp a.eval o).run P W = .ok (.value (.slice (some ⟨W.heap.size, 0, none⟩) 0 n)) (W.alloc (.cells cs t (0, 0))))
    (h : ∀ g, g = W.heap.size → ∀ w1, w1 = W.alloc (.cells cs t (0, 0)) → Below W.heap.size W w1 → wpList P ops Q rest (a.put o.dst (.slice (some ⟨g, 0, none⟩) 0 n)) w1) : wpList P ops Q (o :: rest) a W :=
  Kd.event_run hgd hrun (h _ rfl _ rfl (below_alloc (Below.refl _ _) _))
end
set_option maxHeartbeats 8000000 in
set_option maxRecDepth 100000 in
theorem parseHex_is (A0 : Option Addr) (c0 : Nat) (ps : List ByteArray) (vs : List Int) (w : World) (hr0 : Kd.C Kd.string w A0 ps.length ps) (hn : ps.length ≤ 1000) (hl : vs.length = ps.length)
    (h : ∀ i : Nat, i < ps.length → strconv_ParseU.f (rdOf ByteArray.empty ps (i : Int)) 16 32 = some (vs.getD i 0, none) ∧ 0 ≤ vs.getD i 0 ∧ vs.getD i 0 ≤ 4294967295) :
    Calls Tryz.prog 162 #[.slice A0 ps.length c0] w fun e w' => ∃ v, e = .returned (.tuple #[v, .nilIface]) ∧ Kd.R (Kd.int .u32) 121 w' w.heap.size (fun _ => True) v vs ∧ Below w.heap.size w w' := by
  have HR0 := Aside0.mk hr0
  have H := Lib.hid h
  have HL := Aside0.mk hl
  clear hr0 h hl
  have HB := Aside0.mk (Below.refl w.heap.size w)
  go_enter Tryz.func162, Tryz.ntmps162
  go_wp2_with (first
    | ((with_reducible refine gate_dst (N := 11) rfl ?_); refine make_event ?hg (N := 11) ?hd (cs := madeCells #[.int .u32 0] ps.length) (t := 121) (n := ps.length) ?hr ?_; (case hd => rfl); (case hg => rfl); (case hr => simp [execOp, make_cap ps.length (by omega), go_sem]); intro g hg w1 hw1 hb
       have HO := Aside0.mk (show Kd.R (Kd.int .u32) 121 w1 w.heap.size (fun _ => True) (.slice (some ⟨g, 0, none⟩) 0 ps.length) [] by rw [hw1, hg]; exact made_R w ps.length (by omega))
       have n0 := Aside0.mk (below_step HB.out hb); clear HB; have HB := n0; clear n0 hb hw1 hg))
  go_loopg [4, 14] (ps.length + 1) (fun kq v4 v14 w' => ∃ (i : Nat), v14 = .int .i64 (i : Int) ∧ Aside0 (i ≤ ps.length) ∧ Aside0 (ps.length + 1 - i ≤ kq) ∧ Aside0 (Kd.R (Kd.int .u32) 121 w' w.heap.size (fun _ => True) v4 (vs.take i)) ∧ Aside0 (Below w.heap.size w w'))
  case atStart => exact ⟨0, rfl, ⟨Nat.zero_le _⟩, ⟨by omega⟩, ⟨by rw [List.take_zero]; exact HO.out⟩, HB⟩
  case round =>
    obtain ⟨i, rfl, hi0, hk, hro, hbw⟩ := hrel
    clear HB HO
    have hi := hi0.out
    by_cases hlt : i < ps.length
    · have hx := H.out i hlt
      have P1 := Aside0.mk hx.1
      have hx1 := hx.2.1
      have hx2 := hx.2.2
      have htake : vs.take (i + 1) = vs.take i ++ [vs.getD i 0] := by
        have hlv : i < vs.length := by rw [HL.out]; exact hlt
        rw [List.take_add_one, List.getElem?_eq_getElem hlv, List.getD_eq_getElem?_getD, List.getElem?_eq_getElem hlv]
        rfl
      have TK := Aside0.mk htake
      clear hx htake
      obtain ⟨u, hu⟩ : ∃ u, u = vs.getD i 0 := ⟨_, rfl⟩
      rw [← hu] at hx1 hx2
      have P2 := Aside0.mk (show strconv_ParseU.f (rdOf ByteArray.empty ps (i : Int)) 16 32 = some (u, none) by rw [hu]; exact P1.out)
      have TK2 := Aside0.mk (show vs.take (i + 1) = vs.take i ++ [u] by rw [hu]; exact TK.out)
      have hwr : IntKind.u32.wrap u = u := by rw [IntKind.wrap_u32]; omega
      clear hu P1 TK
      have p1 : (0 : Int) ≤ (i : Int) := by omega
      have p2 : (i : Int) < (ps.length : Int) := by omega
      obtain ⟨ad, e1, hx0⟩ := Kd.at_string HR0.out (i : Int) p1 p2
      cases e1
      rw [Int.toNat_natCast] at hx0
      replace hx0 := (hbw.out.cell (World.block_lt_of_cell? w _ hx0)).trans hx0
      have LT := Aside0.mk hlt
      clear hlt
      go_wp2_with (first
        | (go_at_call 137; refine (strconv_ParseU.calls _ 16 32 u none _ P2.out).mono ?_; rintro e w4 ⟨rfl, hb⟩
           try simp only [errW_none]
           have n0 := Aside0.mk (Kd.R_below hro.out hb); clear hro; have hro := n0; clear n0
           have n0 := Aside0.mk (below_step hbw.out hb); clear hbw; have hbw := n0; clear n0 hb)
        | ((with_reducible refine gate_builtin (b := .append) (xs := #[.tmp 26, .tmp 29]) rfl ?_); at_builtin; refine Kd.R_append (Kd.int .u32) (w0 := w) w.heap.size rfl (.tmp 26) (.tmp 29) 200 121 (.int .u32 0) 4 rfl Tryz.underlying200 info_u32 rfl (by decide) (by omega) u4 (vs.take i) u [.int .u32 u] (fun _ => True) (fun _ => False) rfl rfl (by exact rfl) (fun _ hk => hk.elim) (fun _ _ => trivial) hro.out hbw.out (below_size hbw.out) ?aL ?_
           (case aL => have := LT.out; have := List.length_take_le i vs; omega)
           intro v8 w8 ho hb3 hg3 hat
           rw [← TK2.out] at ho
           have n0 := Aside0.mk ho
           have n2 := Aside0.mk hb3; clear hbw hro; have hbw := n2; have hro := n0; clear n0 n2 ho hb3 hg3 hat))
      have hlk := hk.out
      have hlt := LT.out
      go_roundg (ps.length - i)
      case measure => omega
      case rel => exact ⟨i + 1, by first | rfl | (congr 1; omega), ⟨by omega⟩, ⟨by omega⟩, hro, hbw⟩
    · have hh : i = ps.length := by omega
      have hfull : vs.take i = vs := by rw [List.take_of_length_le]; rw [HL.out]; omega
      rw [hfull] at hro
      clear hfull
      go_wp2
      go_ret2
      exact ⟨_, rfl, hro.out, hbw.out⟩
end Go.Proofs.YtdmpbaanonafbaaGreatDoor.Hex32

/- texts.Lines by hand: a whole text, line by line, as the reference cuts it. -/
set_option linter.unusedVariables false
set_option linter.unusedSimpArgs false
namespace Go.Proofs.YtdmpbaanonafbaaGreatDoor.ScanL
open Go.RowKit Go.Proofs.YtdmpbaanonafbaaGreatDoorW.PrintWords Go.Proofs.YtdmpbaanonafbaaGreatDoorW.PrintLast Go.Proofs.YtdmpbaanonafbaaGreatDoor.GivZ Go.Proofs.YtdmpbaanonafbaaGreatDoor.Scan Go.Proofs.YtdmpbaanonafbaaGreatDoorPt
structure LineAt (t : ByteArray) (n : Nat) : Prop where
  hne : 0 < t.size
  hn : n ≤ t.size
  hmost : n < 65536
  hbefore : ∀ (i : Nat) (h : i < t.size), i < n → ¬ ((t[i]'h).toNat : Int) = 10
  hend : ∀ h : n < t.size, ((t[n]'h).toNat : Int) = 10
  hcr : ∀ h : n - 1 < t.size, 0 < n → ¬ ((t[n - 1]'h).toNat : Int) = 13
  hsz : t.size ≤ 1000000
def rest (t : ByteArray) (n : Nat) : ByteArray := t.extract (min (n + 1) t.size) t.size
theorem rest_size (t : ByteArray) (n : Nat) (h : 0 < t.size) : (rest t n).size < t.size := by
  unfold rest
  rw [ByteArray.size_extract]
  omega
/-- What is read of a text, a line at a time. -/
inductive ScanRun {β : Type} (P : ByteArray → β → Prop) : ByteArray → List β → Prop
  | done : ScanRun P ByteArray.empty []
  | row {t : ByteArray} {n : Nat} {b : β} {ys : List β} : LineAt t n → P (t.extract 0 n) b → ScanRun P (rest t n) ys → ScanRun P t (b :: ys)
/-- Two lists, one by one. -/
def all2 {α β : Type} (P : α → β → Prop) : List α → List β → Prop
  | [], [] => True
  | x :: xs, y :: ys => P x y ∧ all2 P xs ys
  | _, _ => False
theorem all2_len {α β : Type} {P : α → β → Prop} : ∀ (xs : List α) (ys : List β), all2 P xs ys → xs.length = ys.length
  | [], [], _ => rfl
  | x :: xs, y :: ys, h => by simp [all2_len xs ys h.2]
  | [], _ :: _, h => h.elim
  | _ :: _, [], h => h.elim
theorem all2_mono {α β : Type} {P Q : α → β → Prop} : ∀ (xs : List α) (ys : List β), (∀ x ∈ xs, ∀ y ∈ ys, P x y → Q x y) → all2 P xs ys → all2 Q xs ys
  | [], [], _, _ => trivial
  | x :: xs, y :: ys, h, h2 => ⟨h x List.mem_cons_self y List.mem_cons_self h2.1, all2_mono xs ys (fun a ha b hb => h a (List.mem_cons_of_mem _ ha) b (List.mem_cons_of_mem _ hb)) h2.2⟩
  | [], _ :: _, _, h => h.elim
  | _ :: _, [], _, h => h.elim
theorem all2_snoc {α β : Type} {P : α → β → Prop} : ∀ (xs : List α) (ys : List β) (x : α) (y : β), all2 P xs ys → P x y → all2 P (xs ++ [x]) (ys ++ [y])
  | [], [], x, y, h, h2 => ⟨h2, trivial⟩
  | a :: xs, b :: ys, x, y, h, h2 => ⟨h.1, all2_snoc xs ys x y h.2 h2⟩
  | [], _ :: _, _, _, h, _ => h.elim
  | _ :: _, [], _, _, h, _ => h.elim
theorem lineAt_app (p r : List UInt8) (hp : ∀ b ∈ p, b ≠ 10) (hr : r = [] ∨ ∃ r', r = 10 :: r') (hne : p ++ r ≠ []) (h1 : p.length < 65536) (h2 : (p ++ r).length ≤ 1000000) (h3 : p.getLast? ≠ some 13) :
    LineAt (toB (p ++ r)) p.length := by
  have hs : (⟨(p ++ r).toArray⟩ : ByteArray).size = p.length + r.length := by simp [ByteArray.size]
  have hg : ∀ (i : Nat) (h : i < (⟨(p ++ r).toArray⟩ : ByteArray).size), (⟨(p ++ r).toArray⟩ : ByteArray)[i]'h = (p ++ r)[i]'(by rw [hs] at h; rw [List.length_append]; exact h) := fun i h => rfl
  unfold toB
  refine ⟨?_, by omega, h1, fun i h hi => ?_, fun h => ?_, fun h h0 => ?_, by rw [hs]; rw [List.length_append] at h2; exact h2⟩
  · have := List.length_pos_iff.2 hne
    rw [List.length_append] at this
    omega
  · rw [hg, List.getElem_append_left hi]
    intro he
    refine hp _ (List.getElem_mem hi) ?_
    apply UInt8.toNat_inj.1
    exact Int.ofNat.inj he
  · rw [hg, List.getElem_append_right (Nat.le_refl _)]
    rcases hr with rfl | ⟨r', rfl⟩
    · rw [hs] at h; simp at h
    · simp
  · have hlt : p.length - 1 < p.length := by omega
    rw [hg, List.getElem_append_left hlt]
    intro he
    apply h3
    rw [List.getLast?_eq_getElem?, List.getElem?_eq_getElem hlt]
    congr 1
    apply UInt8.toNat_inj.1
    exact Int.ofNat.inj he
theorem ext_app (p r : List UInt8) : (toB (p ++ r)).extract 0 p.length = toB p := by
  unfold toB
  apply ByteArray.ext
  rw [ByteArray.data_extract]
  simp
theorem rest_app (p r : List UInt8) : rest (toB (p ++ r)) p.length = toB ((p ++ r).drop (p.length + 1)) := by
  unfold rest toB
  have hs : (⟨(p ++ r).toArray⟩ : ByteArray).size = (p ++ r).length := by simp [ByteArray.size]
  apply ByteArray.ext
  rw [ByteArray.data_extract, hs]
  apply Array.toList_inj.1
  simp only [Array.toList_extract, List.extract_eq_take_drop]
  rw [show (p ++ r).length - min (p.length + 1) (p ++ r).length = ((p ++ r).drop (min (p.length + 1) (p ++ r).length)).length by rw [List.length_drop], List.take_length]
  by_cases c : p.length + 1 ≤ (p ++ r).length
  · rw [Nat.min_eq_left c]
  · rw [Nat.min_eq_right (by omega), List.drop_eq_nil_of_le (Nat.le_refl _), List.drop_eq_nil_of_le (by omega)]
theorem cut (l : List UInt8) : ∃ p r, l = p ++ r ∧ (∀ b ∈ p, b ≠ 10) ∧ (r = [] ∨ ∃ r', r = 10 :: r') := by
  induction l with
  | nil => exact ⟨[], [], rfl, fun _ h => (List.not_mem_nil h).elim, .inl rfl⟩
  | cons a l ih =>
    by_cases c : a = 10
    · exact ⟨[], a :: l, rfl, fun _ h => (List.not_mem_nil h).elim, .inr ⟨l, by rw [c]⟩⟩
    · obtain ⟨p, r, rfl, hp, hr⟩ := ih
      refine ⟨a :: p, r, rfl, fun b hb => ?_, hr⟩
      rcases List.mem_cons.1 hb with rfl | hb
      · exact c
      · exact hp b hb
theorem linesGo_app : ∀ (p cur r : List UInt8), (∀ b ∈ p, b ≠ 10) → linesGo cur (p ++ 10 :: r) = (cur ++ p) :: linesGo [] r
  | [], cur, r, _ => by rw [List.nil_append, linesGo, if_pos rfl, List.append_nil]
  | a :: p, cur, r, h => by
    rw [List.cons_append, linesGo, if_neg (h a List.mem_cons_self), linesGo_app p (cur ++ [a]) r (fun b hb => h b (List.mem_cons_of_mem _ hb))]
    simp
theorem linesGo_end : ∀ (p cur : List UInt8), (∀ b ∈ p, b ≠ 10) → cur ++ p ≠ [] → linesGo cur p = [cur ++ p]
  | [], cur, _, h => by
    rw [List.append_nil] at h ⊢
    rw [linesGo, if_neg (by simpa using h)]
  | a :: p, cur, h, h2 => by
    rw [linesGo, if_neg (h a List.mem_cons_self), linesGo_end p (cur ++ [a]) (fun b hb => h b (List.mem_cons_of_mem _ hb)) (by simp)]
    simp
/-- Lines, each with its line feed, are cut into these lines. -/
theorem lines_flat : ∀ (ls : List (List UInt8)), (∀ x ∈ ls, ∀ b ∈ x, b ≠ 10) → linesL (ls.flatMap fun x => x ++ [10]) = ls
  | [], _ => rfl
  | x :: ls, h => by
    have ih := lines_flat ls (fun y hy => h y (List.mem_cons_of_mem _ hy))
    unfold linesL at ih ⊢
    rw [List.flatMap_cons, List.append_assoc, List.singleton_append, linesGo_app x [] _ (h x List.mem_cons_self), ih]
    rfl
theorem scan_of {β : Type} (P : ByteArray → β → Prop) : ∀ (m : Nat) (l : List UInt8) (zs : List β), l.length = m → l.length ≤ 1000000 → (∀ x ∈ linesL l, x.length < 65536 ∧ x.getLast? ≠ some 13) → all2 (fun x b => P (toB x) b) (linesL l) zs → ScanRun P (toB l) zs := by
  intro m
  induction m using Nat.strongRecOn with
  | _ m ih =>
    intro l zs hm hl hx ha
    by_cases c0 : l = []
    · subst c0
      cases zs with
      | nil => rw [toB_nil]; exact .done
      | cons z zs => exact ha.elim
    · obtain ⟨p, r, rfl, hp, hr⟩ := cut l
      have hdrop : (p ++ r).drop (p.length + 1) = r.drop 1 := by rw [← List.drop_drop, List.drop_left]
      have hls : linesL (p ++ r) = p :: linesL (r.drop 1) := by
        unfold linesL
        rcases hr with rfl | ⟨r', rfl⟩
        · rw [List.append_nil] at c0 ⊢
          rw [linesGo_end p [] hp (by simpa using c0)]
          rfl
        · rw [linesGo_app p [] r' hp]
          rfl
      rw [hls] at hx ha
      obtain ⟨h1, h3⟩ := hx p List.mem_cons_self
      cases zs with
      | nil => exact ha.elim
      | cons z zs =>
        obtain ⟨hz, ha⟩ := ha
        refine .row (lineAt_app p r hp hr c0 h1 hl h3) (by rw [ext_app]; exact hz) ?_
        rw [rest_app, hdrop]
        have hle : (r.drop 1).length < m := by
          have := List.length_pos_iff.2 c0
          rw [List.length_append] at this hm
          rw [List.length_drop]
          rcases hr with rfl | ⟨r', rfl⟩
          · simp at this ⊢; omega
          · simp at hm ⊢; omega
        exact ih _ hle (r.drop 1) zs rfl (by omega) (fun x hx2 => hx x (List.mem_cons_of_mem _ hx2)) ha
/-- A function on each of a list; none where one answers none. -/
def mapO {α β : Type} (f : α → Option β) : List α → Option (List β)
  | [] => some []
  | x :: xs => (f x).bind fun y => (mapO f xs).bind fun ys => some (y :: ys)
theorem mapO_all2 {α β : Type} {f : α → Option β} : ∀ (xs : List α) (ys : List β), mapO f xs = some ys → all2 (fun x y => f x = some y) xs ys
  | [], ys, h => by
    obtain rfl := Option.some.inj h
    trivial
  | x :: xs, ys, h => by
    rw [mapO] at h
    obtain ⟨y, hy, h⟩ := Option.bind_eq_some_iff.1 h
    obtain ⟨zs, hz, h⟩ := Option.bind_eq_some_iff.1 h
    obtain rfl := Option.some.inj h
    exact ⟨hy, mapO_all2 xs zs hz⟩
theorem mapO_of {α β : Type} {f : α → Option β} : ∀ (xs : List α) (ys : List β), all2 (fun x y => f x = some y) xs ys → mapO f xs = some ys
  | [], [], _ => rfl
  | x :: xs, y :: ys, h => by rw [mapO, h.1, mapO_of xs ys h.2]; rfl
  | [], _ :: _, h => h.elim
  | _ :: _, [], h => h.elim
theorem all2_get {α β : Type} {P : α → β → Prop} (a : α) (b : β) : ∀ (xs : List α) (ys : List β), all2 P xs ys → ∀ i, i < xs.length → P (xs.getD i a) (ys.getD i b)
  | [], _, _, i, h => by simp at h
  | x :: xs, y :: ys, h, 0, _ => by simpa using h.1
  | x :: xs, y :: ys, h, i + 1, hi => by simpa using all2_get a b xs ys h.2 i (by simpa using hi)
  | _ :: _, [], h, _, _ => h.elim
/-- A text's lines are short, and none ends with a carriage return. -/
def fits (l : List UInt8) : Bool := decide (l.length ≤ 1000000) && (linesL l).all fun x => decide (x.length < 65536) && (x.getLast? != some 13)
/-- What is read of a text, a line at a time, as a function. -/
def runO {β : Type} (row : List UInt8 → Option β) (l : List UInt8) : Option (List β) := if fits l = true then mapO row (linesL l) else none
theorem fits_lines {l : List UInt8} (h : fits l = true) : l.length ≤ 1000000 ∧ ∀ x ∈ linesL l, x.length < 65536 ∧ x.getLast? ≠ some 13 := by
  unfold fits at h
  rw [Bool.and_eq_true] at h
  refine ⟨by simpa using h.1, fun x hx => ?_⟩
  have := List.all_eq_true.1 h.2 x hx
  simpa using this
theorem fits_of {l : List UInt8} (h1 : l.length ≤ 1000000) (h2 : ∀ x ∈ linesL l, x.length < 65536 ∧ x.getLast? ≠ some 13) : fits l = true := by
  unfold fits
  rw [Bool.and_eq_true]
  refine ⟨by simpa using h1, List.all_eq_true.2 fun x hx => ?_⟩
  have := h2 x hx
  simpa using this
theorem runO_scan {β : Type} (P : ByteArray → β → Prop) (row : List UInt8 → Option β) (hrow : ∀ x b, row x = some b → P (toB x) b) (l : List UInt8) (zs : List β) (h : runO row l = some zs) : ScanRun P (toB l) zs := by
  unfold runO at h
  by_cases c : fits l = true
  · rw [if_pos c] at h
    obtain ⟨h1, h2⟩ := fits_lines c
    exact scan_of P l.length l zs rfl h1 h2 (all2_mono _ _ (fun x _ b _ h => hrow x b h) (mapO_all2 _ _ h))
  · rw [if_neg c] at h; cases h
end Go.Proofs.YtdmpbaanonafbaaGreatDoor.ScanL

/- procfs.parseSoftnet by hand: what it reads of a text, line by line. -/
namespace Go.Proofs.YtdmpbaanonafbaaGreatDoor.SnLoop
open Go.RowKit Go.Proofs.YtdmpbaanonafbaaGreatDoorW.PrintWords Go.Proofs.YtdmpbaanonafbaaGreatDoorW.PrintLast Go.Proofs.YtdmpbaanonafbaaGreatDoor.GivZ Go.Proofs.YtdmpbaanonafbaaGreatDoorW.PrintMore Go.Proofs.YtdmpbaanonafbaaGreatDoor.Scan Go.Proofs.YtdmpbaanonafbaaGreatDoor.ScanL Go.Proofs.YtdmpbaanonafbaaGreatDoor.GivPW Go.Proofs.YtdmpbaanonafbaaGreatDoor.Hex32 Go.Proofs.YtdmpbaanonafbaaGreatDoor.T
set_option linter.unusedVariables false
set_option linter.unusedSimpArgs false
theorem info_sn : (Tryz.prog.info? 123).map (fun i => (i.zero, i.size, i.bytes)) = some (some (.agg #[.int .u32 0, .int .u32 0, .int .u32 0, .int .u32 0, .int .u32 0, .int .u32 0, .int .u32 0, .int .u32 0, .int .i64 0]), 9, 40) := by kernel_rfl
def gd (vs : List Int) (i : Nat) : Int := vs.getD i 0
def rowS (n : Nat) (vs : List Int) : S123 := ⟨gd vs 0, gd vs 1, gd vs 2, gd vs 8, gd vs 9, gd vs 10, gd vs 11, gd vs 12, n⟩
structure Words (ps : List ByteArray) (vs : List Int) : Prop where
  h13 : 13 ≤ ps.length
  hmax : ps.length ≤ 1000
  hlen : vs.length = ps.length
  hval : ∀ i : Nat, i < ps.length → strconv_ParseU.f (rdOf ByteArray.empty ps (i : Int)) 16 32 = some (vs.getD i 0, none) ∧ 0 ≤ vs.getD i 0 ∧ vs.getD i 0 ≤ 4294967295
def SnLine (l : ByteArray) (z : S123) : Prop := ∃ ps vs, strings_Fields.f l = some ps ∧ Words ps vs ∧ z = rowS ps.length vs
theorem hex_at (gp lo hi cp : Nat) (ps : List ByteArray) (vs : List Int) (hW : Words ps vs) (w0 w : World) (CO : Kd.C Kd.string w0 (some ⟨gp, 0, none⟩) ps.length ps) (HM : Below w0.heap.size w0 w) (h1 : lo < hi) (h2 : hi ≤ ps.length) (m : Nat) (hm : m = hi - lo) {c : Nat} :
    Calls Tryz.prog 162 #[.slice (some ⟨gp, lo, none⟩) m c] w fun e w' => ∃ gu cu, e = .returned (.tuple #[.slice (some ⟨gu, 0, none⟩) m cu, .nilIface]) ∧ w.heap.size ≤ gu ∧ (∀ j : Nat, j < m → w'.cell? ⟨gu, j, none⟩ = some (.int .u32 (gd vs (lo + j)))) ∧ Below w.heap.size w w' := by
  subst hm
  have hc := Kd.C_mid (c := ps.length + 1) (Kd.C_below CO HM) (Nat.le_of_lt h1) h2 (by omega)
  rw [if_neg (by omega)] at hc
  have hlen : ((ps.take hi).drop lo).length = hi - lo := by rw [List.length_drop, List.length_take]; omega
  have hvl := hW.hlen
  have hlenv : ((vs.take hi).drop lo).length = hi - lo := by rw [List.length_drop, List.length_take]; omega
  have ha : (some (⟨gp, 0, none⟩ : Addr)).map (·.add (lo * Kd.string.sz)) = some ⟨gp, lo, none⟩ := by
    show some ((⟨gp, 0, none⟩ : Addr).add (lo * 1)) = _
    rw [Nat.mul_one, add_plain]
  rw [ha] at hc
  have hgp : ∀ j, j < hi - lo → ((ps.take hi).drop lo).getD j ByteArray.empty = ps.getD (lo + j) ByteArray.empty := by
    intro j hj
    rw [List.getD_eq_getElem?_getD, List.getD_eq_getElem?_getD, List.getElem?_drop, List.getElem?_take, if_pos (by omega)]
  have hgv : ∀ j, j < hi - lo → ((vs.take hi).drop lo).getD j 0 = vs.getD (lo + j) 0 := by
    intro j hj
    rw [List.getD_eq_getElem?_getD, List.getD_eq_getElem?_getD, List.getElem?_drop, List.getElem?_take, if_pos (by omega)]
  have H := parseHex_is (some ⟨gp, lo, none⟩) c ((ps.take hi).drop lo) ((vs.take hi).drop lo) w hc (by have := hW.hmax; omega) (by rw [hlen, hlenv]) (fun i hi2 => by
    rw [hlen] at hi2
    have := hW.hval (lo + i) (by omega)
    rw [hgv i hi2]
    unfold rdOf at this ⊢
    rw [Int.toNat_natCast] at this ⊢
    rw [hgp i hi2]
    exact this)
  rw [hlen] at H
  refine H.mono ?_
  rintro e w' ⟨v, rfl, ho, hb⟩
  obtain ⟨gu, cu, rfl, hge, hlt, _⟩ := Kd.R_form ho (by omega)
  rw [hlenv]
  refine ⟨gu, cu, rfl, hge, fun j hj => ?_, hb⟩
  have := (Kd.R_cell (enc := Value.int .u32) (h1 := fun _ => rfl) (0 : Int) ho (j : Int) (by omega) (by omega)).1
  unfold rdOf at this
  rw [Int.toNat_natCast, hgv j hj] at this
  exact this
set_option maxHeartbeats 8000000 in
set_option maxRecDepth 100000 in
theorem snLoop_is (t : ByteArray) (zs : List S123) (w : World) (hr : ScanRun SnLine t zs) (hl : zs.length ≤ 1000000) (hTabs : Tabs w) :
    Calls Tryz.prog 148 #[.string t] w fun e w' => ∃ v, e = .returned (.tuple #[v, .nilIface]) ∧ Kd.R k123 123 w' w.heap.size (fun _ => True) v zs ∧ Below w.heap.size w w' := by
  have hu := Tryz.underlying123
  have HR := Lib.hid hr
  have HT := Lib.hid hTabs
  clear hr hTabs
  have HB := Aside0.mk (Below.refl w.heap.size w)
  go_enter Tryz.func148, Tryz.ntmps148
  go_wp2_with (first
    | (go_at_call 133; refine (newLines_is _ _).mono ?_; rintro e w2 ⟨g, rfl, hg, hblk, hb⟩
       have BK := Aside0.mk hblk
       have HG := Aside0.mk (show w.heap.size ≤ g by rw [hg]; exact below_size HB.out)
       have n0 := Aside0.mk (below_step HB.out hb); clear HB; have HB := n0; clear n0 hb hblk hg))
  go_loopg [5, 6] t.size (fun kq v5 v6 w' => ∃ (t line : ByteArray) (xs ys : List S123) (i : Nat), v6 = .int .i64 (i : Int) ∧ Aside0 (xs.length = i) ∧ Aside0 (xs ++ ys = zs) ∧ Aside0 (ScanRun SnLine t ys) ∧ Aside0 (t.size ≤ kq) ∧ Aside0 (w'.heap[g]? = some (scn t line)) ∧ Aside0 (Kd.R k123 123 w' w.heap.size (fun k_ => k_ ≠ g) v5 xs) ∧ Aside0 (Below w.heap.size w w'))
  case atStart => exact ⟨_, _, [], zs, 0, rfl, ⟨rfl⟩, ⟨rfl⟩, ⟨HR.out⟩, ⟨Nat.le_refl _⟩, BK, ⟨Kd.R_nil _ _ _ _ _⟩, HB⟩
  case round =>
    obtain ⟨t, line, xs, ys, i, rfl, hxl, hz, hrun, hk, hblk, hro, hbw⟩ := hrel
    clear HB BK HR
    have hrun := hrun.out
    cases hrun with
    | done =>
      go_wp2_with (first
        | (go_at_call 134; refine (scan_no g line _ hblk.out).mono ?_; rintro e w4 ⟨rfl, hb2, hkb, hbl⟩
           have n0 := Aside0.mk (Kd.R_keep hro.out hkb (fun _ h => h)); clear hro; have hro := n0; clear n0
           have n0 := Aside0.mk hb2; clear hblk; have hblk := n0; clear n0
           have n0 := Aside0.mk (hbl _ hbw.out HG.out); clear hbw; have hbw := n0; clear n0 hb2 hkb hbl))
      go_ret2
      refine ⟨_, rfl, Kd.R_mono (by have := hz.out; rw [List.append_nil] at this; rw [← this]; exact hro.out) (fun _ _ => trivial), hbw.out⟩
    | @row _ n b zs' hL0 hP0 hrest0 =>
      obtain ⟨ps, vs, hf0, hW0, rfl⟩ := hP0
      have hL := Lib.hid hL0
      have hf := Lib.hid hf0
      have hW := Lib.hid hW0
      have hrest := Lib.hid hrest0
      have hl1 : ¬ ((ps.length : Int) < 9) := by have := hW0.h13; omega
      have hl9 : (9 : Int) ≤ ps.length := by have := hW0.h13; omega
      have hl10 : (10 : Int) ≤ ps.length := by have := hW0.h13; omega
      have hl11 : (11 : Int) ≤ ps.length := by have := hW0.h13; omega
      have hl13 : (13 : Int) ≤ ps.length := by have := hW0.h13; omega
      have hlen := Aside0.mk (show xs.length + 1 ≤ 1000000 by have := congrArg List.length hz.out; rw [List.length_append, List.length_cons] at this; omega)
      clear hL0 hf0 hW0 hrest0
      go_wp2_with (first
        | (go_at_call 134; refine (scan_yes g t line n _ hblk.out hL.out.hne hL.out.hn hL.out.hmost hL.out.hbefore hL.out.hend hL.out.hcr hL.out.hsz).mono ?_; rintro e w4 ⟨rfl, hb2, hkb, hbl⟩
           have n0 := Aside0.mk (Kd.R_keep hro.out hkb (fun _ h => h)); clear hro; have hro := n0; clear n0
           have n0 := Aside0.mk hb2; clear hblk; have hblk := n0; clear n0
           have n0 := Aside0.mk (hbl _ hbw.out HG.out); clear hbw; have hbw := n0; clear n0 hb2 hkb hbl)
        | (go_at_call 136; refine (text_is g _ _ _ hblk.out).mono ?_; rintro e w5 ⟨rfl, rfl⟩)
        | (go_at_call 155; refine (strings_Fields.calls _ ps _ hf.out (Tabs.below HT.out hbw.out)).mono ?_; rintro e w6 ⟨v, rfl, ho, hb⟩; obtain ⟨gp, cp, rfl, hge, hlt, hcp⟩ := Kd.R_form ho (by omega)
           have CO := Aside0.mk (Kd.R_reads' ho).2.2
           have CP := Aside0.mk (Kd.R_reads' ho).2.1
           have n0 := Aside0.mk (Kd.R_below hro.out hb); clear hro; have hro := n0; clear n0
           have n0 := Aside0.mk (blk_below hblk.out hb); clear hblk; have hblk := n0; clear n0
           have n0 := Aside0.mk (below_step hbw.out hb); clear hbw; have hbw := n0; clear n0 hb
           have HM := Aside0.mk (Below.refl w6.heap.size w6)
           have LT := Aside0.mk hlt
           have hq9 : (9 : Int) ≤ (cp : Int) := by have := CP.out; omega
           have hq10 : (10 : Int) ≤ (cp : Int) := by have := CP.out; omega
           have hq11 : (11 : Int) ≤ (cp : Int) := by have := CP.out; omega
           have hq13 : (13 : Int) ≤ (cp : Int) := by have := CP.out; omega
           clear ho hge hlt)
        | ((with_reducible refine gate_dst (N := 9) rfl ?_); refine box_event ?hg (N := 9) ?hd (cs := #[.int .u32 0, .int .u32 0, .int .u32 0, .int .u32 0, .int .u32 0, .int .u32 0, .int .u32 0, .int .u32 0, .int .i64 0]) (t := 123) ?hr ?_; (case hd => rfl); (case hg => rfl); (case hr => first | (go_simp; done) | (go_simp; rfl)); intro g9 hg w7 hbox hb
           have NE := Aside0.mk (show gp ≠ g9 by have := LT.out; omega)
           have GE := Aside0.mk (show w6.heap.size ≤ g9 by rw [hg]; exact below_size HM.out)
           have BK := Aside0.mk hbox
           have xc0 : w7.cell? ⟨g9, 0, none⟩ = some (.int .u32 0) := (blk_cell hbox 0).trans rfl
           have xf0 := blk_frozen hbox 0
           have xc1 : w7.cell? ⟨g9, 1, none⟩ = some (.int .u32 0) := (blk_cell hbox 1).trans rfl
           have xf1 := blk_frozen hbox 1
           have xc2 : w7.cell? ⟨g9, 2, none⟩ = some (.int .u32 0) := (blk_cell hbox 2).trans rfl
           have xf2 := blk_frozen hbox 2
           have xc3 : w7.cell? ⟨g9, 3, none⟩ = some (.int .u32 0) := (blk_cell hbox 3).trans rfl
           have xf3 := blk_frozen hbox 3
           have xc4 : w7.cell? ⟨g9, 4, none⟩ = some (.int .u32 0) := (blk_cell hbox 4).trans rfl
           have xf4 := blk_frozen hbox 4
           have xc5 : w7.cell? ⟨g9, 5, none⟩ = some (.int .u32 0) := (blk_cell hbox 5).trans rfl
           have xf5 := blk_frozen hbox 5
           have xc6 : w7.cell? ⟨g9, 6, none⟩ = some (.int .u32 0) := (blk_cell hbox 6).trans rfl
           have xf6 := blk_frozen hbox 6
           have xc7 : w7.cell? ⟨g9, 7, none⟩ = some (.int .u32 0) := (blk_cell hbox 7).trans rfl
           have xf7 := blk_frozen hbox 7
           have xc8 : w7.cell? ⟨g9, 8, none⟩ = some (.int .i64 0) := (blk_cell hbox 8).trans rfl
           have xf8 := blk_frozen hbox 8
           have n0 := Aside0.mk (below_step HM.out hb); clear HM; have HM := n0; clear n0 hb hbox hg))
      have BKn := Aside0.mk (show ((World.setCell (World.setCell (World.setCell (World.setCell (World.setCell (World.setCell (World.setCell (World.setCell (World.setCell w7 ⟨g9, 0, none⟩ (.int .u32 0)) ⟨g9, 1, none⟩ (.int .u32 0)) ⟨g9, 2, none⟩ (.int .u32 0)) ⟨g9, 3, none⟩ (.int .u32 0)) ⟨g9, 4, none⟩ (.int .u32 0)) ⟨g9, 5, none⟩ (.int .u32 0)) ⟨g9, 6, none⟩ (.int .u32 0)) ⟨g9, 7, none⟩ (.int .u32 0)) ⟨g9, 8, none⟩ (.int .i64 0))).heap[g9]? = some (.cells #[(.int .u32 0), (.int .u32 0), (.int .u32 0), (.int .u32 0), (.int .u32 0), (.int .u32 0), (.int .u32 0), (.int .u32 0), (.int .i64 0)] 123 (0, 0)) by refine blk_put (cs := #[(.int .u32 0), (.int .u32 0), (.int .u32 0), (.int .u32 0), (.int .u32 0), (.int .u32 0), (.int .u32 0), (.int .u32 0), .int .i64 0]) ?_ 8 _ rfl; refine blk_put (cs := #[(.int .u32 0), (.int .u32 0), (.int .u32 0), (.int .u32 0), (.int .u32 0), (.int .u32 0), (.int .u32 0), .int .u32 0, .int .i64 0]) ?_ 7 _ rfl; refine blk_put (cs := #[(.int .u32 0), (.int .u32 0), (.int .u32 0), (.int .u32 0), (.int .u32 0), (.int .u32 0), .int .u32 0, .int .u32 0, .int .i64 0]) ?_ 6 _ rfl; refine blk_put (cs := #[(.int .u32 0), (.int .u32 0), (.int .u32 0), (.int .u32 0), (.int .u32 0), .int .u32 0, .int .u32 0, .int .u32 0, .int .i64 0]) ?_ 5 _ rfl; refine blk_put (cs := #[(.int .u32 0), (.int .u32 0), (.int .u32 0), (.int .u32 0), .int .u32 0, .int .u32 0, .int .u32 0, .int .u32 0, .int .i64 0]) ?_ 4 _ rfl; refine blk_put (cs := #[(.int .u32 0), (.int .u32 0), (.int .u32 0), .int .u32 0, .int .u32 0, .int .u32 0, .int .u32 0, .int .u32 0, .int .i64 0]) ?_ 3 _ rfl; refine blk_put (cs := #[(.int .u32 0), (.int .u32 0), .int .u32 0, .int .u32 0, .int .u32 0, .int .u32 0, .int .u32 0, .int .u32 0, .int .i64 0]) ?_ 2 _ rfl; refine blk_put (cs := #[(.int .u32 0), .int .u32 0, .int .u32 0, .int .u32 0, .int .u32 0, .int .u32 0, .int .u32 0, .int .u32 0, .int .i64 0]) ?_ 1 _ rfl; refine blk_put (cs := #[.int .u32 0, .int .u32 0, .int .u32 0, .int .u32 0, .int .u32 0, .int .u32 0, .int .u32 0, .int .u32 0, .int .i64 0]) ?_ 0 _ rfl; exact BK.out)
      have HMn := Aside0.mk (show Below w6.heap.size w6 (World.setCell (World.setCell (World.setCell (World.setCell (World.setCell (World.setCell (World.setCell (World.setCell (World.setCell w7 ⟨g9, 0, none⟩ (.int .u32 0)) ⟨g9, 1, none⟩ (.int .u32 0)) ⟨g9, 2, none⟩ (.int .u32 0)) ⟨g9, 3, none⟩ (.int .u32 0)) ⟨g9, 4, none⟩ (.int .u32 0)) ⟨g9, 5, none⟩ (.int .u32 0)) ⟨g9, 6, none⟩ (.int .u32 0)) ⟨g9, 7, none⟩ (.int .u32 0)) ⟨g9, 8, none⟩ (.int .i64 0)) by refine below_set ?_ GE.out; refine below_set ?_ GE.out; refine below_set ?_ GE.out; refine below_set ?_ GE.out; refine below_set ?_ GE.out; refine below_set ?_ GE.out; refine below_set ?_ GE.out; refine below_set ?_ GE.out; refine below_set ?_ GE.out; exact HM.out)
      generalize (World.setCell (World.setCell (World.setCell (World.setCell (World.setCell (World.setCell (World.setCell (World.setCell (World.setCell w7 ⟨g9, 0, none⟩ (.int .u32 0)) ⟨g9, 1, none⟩ (.int .u32 0)) ⟨g9, 2, none⟩ (.int .u32 0)) ⟨g9, 3, none⟩ (.int .u32 0)) ⟨g9, 4, none⟩ (.int .u32 0)) ⟨g9, 5, none⟩ (.int .u32 0)) ⟨g9, 6, none⟩ (.int .u32 0)) ⟨g9, 7, none⟩ (.int .u32 0)) ⟨g9, 8, none⟩ (.int .i64 0)) = w8 at BKn HMn ⊢
      clear BK HM
      have BK := BKn
      have HM := HMn
      clear BKn HMn
      refine (hex_at gp 0 9 cp ps vs hW.out w6 _ CO.out HM.out (by omega) (by omega) 9 (by rfl)).mono ?_
      rintro e w9 ⟨gu0, cu0, rfl, hgu, hcell, hb⟩
      have us0_0 : w9.cell? ⟨gu0, 0, none⟩ = some (.int .u32 (gd vs 0)) := hcell 0 (by omega)
      have us0_1 : w9.cell? ⟨gu0, 1, none⟩ = some (.int .u32 (gd vs 1)) := hcell 1 (by omega)
      have us0_2 : w9.cell? ⟨gu0, 2, none⟩ = some (.int .u32 (gd vs 2)) := hcell 2 (by omega)
      have us0_8 : w9.cell? ⟨gu0, 8, none⟩ = some (.int .u32 (gd vs 8)) := hcell 8 (by omega)
      have ne1_0 : ¬ gu0 = g9 := by have := blk_lt BK.out; omega
      have ne2_0 : ¬ g9 = gu0 := fun h => ne1_0 h.symm
      have n0 := Aside0.mk (blk_below BK.out hb); clear BK; have BK := n0; clear n0
      have n0 := Aside0.mk (below_step HM.out hb); clear HM; have HM := n0; clear n0 hb hcell hgu
      clear xc0 xc1 xc2 xc3 xc4 xc5 xc6 xc7 xc8 xf0 xf1 xf2 xf3 xf4 xf5 xf6 xf7 xf8
      have xc0 : w9.cell? ⟨g9, 0, none⟩ = some (.int .u32 0) := (blk_cell BK.out 0).trans rfl
      have xf0 := blk_frozen BK.out 0
      have xc1 : w9.cell? ⟨g9, 1, none⟩ = some (.int .u32 0) := (blk_cell BK.out 1).trans rfl
      have xf1 := blk_frozen BK.out 1
      have xc2 : w9.cell? ⟨g9, 2, none⟩ = some (.int .u32 0) := (blk_cell BK.out 2).trans rfl
      have xf2 := blk_frozen BK.out 2
      have xc3 : w9.cell? ⟨g9, 3, none⟩ = some (.int .u32 0) := (blk_cell BK.out 3).trans rfl
      have xf3 := blk_frozen BK.out 3
      go_wp2_with fail
      have BKn := Aside0.mk (show ((World.setCell (World.setCell (World.setCell (World.setCell w9 ⟨g9, 0, none⟩ (.int .u32 (gd vs 0))) ⟨g9, 1, none⟩ (.int .u32 (gd vs 1))) ⟨g9, 2, none⟩ (.int .u32 (gd vs 2))) ⟨g9, 3, none⟩ (.int .u32 (gd vs 8)))).heap[g9]? = some (.cells #[(.int .u32 (gd vs 0)), (.int .u32 (gd vs 1)), (.int .u32 (gd vs 2)), (.int .u32 (gd vs 8)), (.int .u32 0), (.int .u32 0), (.int .u32 0), (.int .u32 0), (.int .i64 0)] 123 (0, 0)) by refine blk_put (cs := #[(.int .u32 (gd vs 0)), (.int .u32 (gd vs 1)), (.int .u32 (gd vs 2)), (.int .u32 0), (.int .u32 0), (.int .u32 0), (.int .u32 0), (.int .u32 0), (.int .i64 0)]) ?_ 3 _ rfl; refine blk_put (cs := #[(.int .u32 (gd vs 0)), (.int .u32 (gd vs 1)), (.int .u32 0), (.int .u32 0), (.int .u32 0), (.int .u32 0), (.int .u32 0), (.int .u32 0), (.int .i64 0)]) ?_ 2 _ rfl; refine blk_put (cs := #[(.int .u32 (gd vs 0)), (.int .u32 0), (.int .u32 0), (.int .u32 0), (.int .u32 0), (.int .u32 0), (.int .u32 0), (.int .u32 0), (.int .i64 0)]) ?_ 1 _ rfl; refine blk_put (cs := #[(.int .u32 0), (.int .u32 0), (.int .u32 0), (.int .u32 0), (.int .u32 0), (.int .u32 0), (.int .u32 0), (.int .u32 0), (.int .i64 0)]) ?_ 0 _ rfl; exact BK.out)
      have HMn := Aside0.mk (show Below w6.heap.size w6 (World.setCell (World.setCell (World.setCell (World.setCell w9 ⟨g9, 0, none⟩ (.int .u32 (gd vs 0))) ⟨g9, 1, none⟩ (.int .u32 (gd vs 1))) ⟨g9, 2, none⟩ (.int .u32 (gd vs 2))) ⟨g9, 3, none⟩ (.int .u32 (gd vs 8))) by refine below_set ?_ GE.out; refine below_set ?_ GE.out; refine below_set ?_ GE.out; refine below_set ?_ GE.out; exact HM.out)
      generalize (World.setCell (World.setCell (World.setCell (World.setCell w9 ⟨g9, 0, none⟩ (.int .u32 (gd vs 0))) ⟨g9, 1, none⟩ (.int .u32 (gd vs 1))) ⟨g9, 2, none⟩ (.int .u32 (gd vs 2))) ⟨g9, 3, none⟩ (.int .u32 (gd vs 8))) = w10 at BKn HMn ⊢
      clear BK HM
      have BK := BKn
      have HM := HMn
      clear BKn HMn
      refine (hex_at gp 9 10 cp ps vs hW.out w6 _ CO.out HM.out (by omega) (by omega) 1 (by rfl)).mono ?_
      rintro e w11 ⟨gu9, cu9, rfl, hgu, hcell, hb⟩
      have us9_0 : w11.cell? ⟨gu9, 0, none⟩ = some (.int .u32 (gd vs 9)) := hcell 0 (by omega)
      have ne1_9 : ¬ gu9 = g9 := by have := blk_lt BK.out; omega
      have ne2_9 : ¬ g9 = gu9 := fun h => ne1_9 h.symm
      have n0 := Aside0.mk (blk_below BK.out hb); clear BK; have BK := n0; clear n0
      have n0 := Aside0.mk (below_step HM.out hb); clear HM; have HM := n0; clear n0 hb hcell hgu
      clear xc0 xf0 xc1 xf1 xc2 xf2 xc3 xf3 us0_0 us0_1 us0_2 us0_8 ne1_0 ne2_0
      have xc4 : w11.cell? ⟨g9, 4, none⟩ = some (.int .u32 0) := (blk_cell BK.out 4).trans rfl
      have xf4 := blk_frozen BK.out 4
      go_wp2_with fail
      have BKn := Aside0.mk (show ((World.setCell w11 ⟨g9, 4, none⟩ (.int .u32 (gd vs 9)))).heap[g9]? = some (.cells #[(.int .u32 (gd vs 0)), (.int .u32 (gd vs 1)), (.int .u32 (gd vs 2)), (.int .u32 (gd vs 8)), (.int .u32 (gd vs 9)), (.int .u32 0), (.int .u32 0), (.int .u32 0), (.int .i64 0)] 123 (0, 0)) by refine blk_put (cs := #[(.int .u32 (gd vs 0)), (.int .u32 (gd vs 1)), (.int .u32 (gd vs 2)), (.int .u32 (gd vs 8)), (.int .u32 0), (.int .u32 0), (.int .u32 0), (.int .u32 0), (.int .i64 0)]) ?_ 4 _ rfl; exact BK.out)
      have HMn := Aside0.mk (show Below w6.heap.size w6 (World.setCell w11 ⟨g9, 4, none⟩ (.int .u32 (gd vs 9))) by refine below_set ?_ GE.out; exact HM.out)
      generalize (World.setCell w11 ⟨g9, 4, none⟩ (.int .u32 (gd vs 9))) = w12 at BKn HMn ⊢
      clear BK HM
      have BK := BKn
      have HM := HMn
      clear BKn HMn
      refine (hex_at gp 10 11 cp ps vs hW.out w6 _ CO.out HM.out (by omega) (by omega) 1 (by rfl)).mono ?_
      rintro e w13 ⟨gu10, cu10, rfl, hgu, hcell, hb⟩
      have us10_0 : w13.cell? ⟨gu10, 0, none⟩ = some (.int .u32 (gd vs 10)) := hcell 0 (by omega)
      have ne1_10 : ¬ gu10 = g9 := by have := blk_lt BK.out; omega
      have ne2_10 : ¬ g9 = gu10 := fun h => ne1_10 h.symm
      have n0 := Aside0.mk (blk_below BK.out hb); clear BK; have BK := n0; clear n0
      have n0 := Aside0.mk (below_step HM.out hb); clear HM; have HM := n0; clear n0 hb hcell hgu
      clear xc4 xf4 us9_0 ne1_9 ne2_9
      have xc5 : w13.cell? ⟨g9, 5, none⟩ = some (.int .u32 0) := (blk_cell BK.out 5).trans rfl
      have xf5 := blk_frozen BK.out 5
      go_wp2_with fail
      have BKn := Aside0.mk (show ((World.setCell w13 ⟨g9, 5, none⟩ (.int .u32 (gd vs 10)))).heap[g9]? = some (.cells #[(.int .u32 (gd vs 0)), (.int .u32 (gd vs 1)), (.int .u32 (gd vs 2)), (.int .u32 (gd vs 8)), (.int .u32 (gd vs 9)), (.int .u32 (gd vs 10)), (.int .u32 0), (.int .u32 0), (.int .i64 0)] 123 (0, 0)) by refine blk_put (cs := #[(.int .u32 (gd vs 0)), (.int .u32 (gd vs 1)), (.int .u32 (gd vs 2)), (.int .u32 (gd vs 8)), (.int .u32 (gd vs 9)), (.int .u32 0), (.int .u32 0), (.int .u32 0), (.int .i64 0)]) ?_ 5 _ rfl; exact BK.out)
      have HMn := Aside0.mk (show Below w6.heap.size w6 (World.setCell w13 ⟨g9, 5, none⟩ (.int .u32 (gd vs 10))) by refine below_set ?_ GE.out; exact HM.out)
      generalize (World.setCell w13 ⟨g9, 5, none⟩ (.int .u32 (gd vs 10))) = w14 at BKn HMn ⊢
      clear BK HM
      have BK := BKn
      have HM := HMn
      clear BKn HMn
      refine (hex_at gp 11 13 cp ps vs hW.out w6 _ CO.out HM.out (by omega) (by omega) 2 (by rfl)).mono ?_
      rintro e w15 ⟨gu11, cu11, rfl, hgu, hcell, hb⟩
      have us11_0 : w15.cell? ⟨gu11, 0, none⟩ = some (.int .u32 (gd vs 11)) := hcell 0 (by omega)
      have us11_1 : w15.cell? ⟨gu11, 1, none⟩ = some (.int .u32 (gd vs 12)) := hcell 1 (by omega)
      have ne1_11 : ¬ gu11 = g9 := by have := blk_lt BK.out; omega
      have ne2_11 : ¬ g9 = gu11 := fun h => ne1_11 h.symm
      have n0 := Aside0.mk (blk_below BK.out hb); clear BK; have BK := n0; clear n0
      have n0 := Aside0.mk (below_step HM.out hb); clear HM; have HM := n0; clear n0 hb hcell hgu
      clear xc5 xf5 us10_0 ne1_10 ne2_10
      have xc0 : w15.cell? ⟨g9, 0, none⟩ = some (.int .u32 (gd vs 0)) := (blk_cell BK.out 0).trans rfl
      have xf0 := blk_frozen BK.out 0
      have xc1 : w15.cell? ⟨g9, 1, none⟩ = some (.int .u32 (gd vs 1)) := (blk_cell BK.out 1).trans rfl
      have xf1 := blk_frozen BK.out 1
      have xc2 : w15.cell? ⟨g9, 2, none⟩ = some (.int .u32 (gd vs 2)) := (blk_cell BK.out 2).trans rfl
      have xf2 := blk_frozen BK.out 2
      have xc3 : w15.cell? ⟨g9, 3, none⟩ = some (.int .u32 (gd vs 8)) := (blk_cell BK.out 3).trans rfl
      have xf3 := blk_frozen BK.out 3
      have xc4 : w15.cell? ⟨g9, 4, none⟩ = some (.int .u32 (gd vs 9)) := (blk_cell BK.out 4).trans rfl
      have xf4 := blk_frozen BK.out 4
      have xc5 : w15.cell? ⟨g9, 5, none⟩ = some (.int .u32 (gd vs 10)) := (blk_cell BK.out 5).trans rfl
      have xf5 := blk_frozen BK.out 5
      have xc6 : w15.cell? ⟨g9, 6, none⟩ = some (.int .u32 0) := (blk_cell BK.out 6).trans rfl
      have xf6 := blk_frozen BK.out 6
      have xc7 : w15.cell? ⟨g9, 7, none⟩ = some (.int .u32 0) := (blk_cell BK.out 7).trans rfl
      have xf7 := blk_frozen BK.out 7
      have xc8 : w15.cell? ⟨g9, 8, none⟩ = some (.int .i64 0) := (blk_cell BK.out 8).trans rfl
      have xf8 := blk_frozen BK.out 8
      have HMn := Aside0.mk (show Below w6.heap.size w6 (World.setCell (World.setCell (World.setCell w15 ⟨g9, 6, none⟩ (.int .u32 (gd vs 11))) ⟨g9, 7, none⟩ (.int .u32 (gd vs 12))) ⟨g9, 8, none⟩ (.int .i64 ps.length)) by refine below_set ?_ GE.out; refine below_set ?_ GE.out; refine below_set ?_ GE.out; exact HM.out)
      have hR := Aside0.mk (Kd.R_below hro.out HMn.out)
      have hK := Aside0.mk (blk_below hblk.out HMn.out)
      have hW2 := Aside0.mk (below_step hbw.out HMn.out)
      have hvl := hW.out.hlen
      go_wp2_with (first
        | ((with_reducible refine gate_builtin (b := .append) (xs := #[.tmp 112, .tmp 114]) rfl ?_); at_builtin; refine Kd.R_append k123 (w0 := w) w.heap.size rfl (.tmp 112) (.tmp 114) 118 123 (.agg #[.int .u32 0, .int .u32 0, .int .u32 0, .int .u32 0, .int .u32 0, .int .u32 0, .int .u32 0, .int .u32 0, .int .i64 0]) 40 rfl Tryz.underlying118 info_sn rfl (by decide) (by omega) u5 xs (rowS ps.length vs) [.int .u32 (gd vs 0), .int .u32 (gd vs 1), .int .u32 (gd vs 2), .int .u32 (gd vs 8), .int .u32 (gd vs 9), .int .u32 (gd vs 10), .int .u32 (gd vs 11), .int .u32 (gd vs 12), .int .i64 (ps.length : Int)] (fun k_ => k_ ≠ g) (fun _ => False) rfl (by go_simp; done) (k123_mkM _ _ _ (rowS ps.length vs)) (fun _ hk => hk.elim) ?aF hR.out hW2.out (below_size hW2.out) ?aL ?_
           (case aF => exact (fun k hk he => by have := blk_lt hK.out; omega)); (case aL => have := hlen.out; omega)
           intro v8 w18 ho hb3 hg3 hat
           have n0 := Aside0.mk ho
           have n1 := Aside0.mk (blk_grown hK.out hg3 (Kd.R_ne hR.out hK.out (by decide)))
           have n2 := Aside0.mk hb3; clear hbw hblk hro; have hbw := n2; have hblk := n1; have hro := n0; clear n0 n1 n2 ho hb3 hg3 hat))
      have hlt := rest_size t n hL.out.hne
      have hlk := hk.out
      have hii := hxl.out
      have hle := hlen.out
      go_roundg ((rest t n).size)
      case measure => omega
      case rel =>
        exact ⟨_, _, xs ++ [rowS ps.length vs], zs', i + 1, by first | rfl | (congr 1; omega) | (congr 1; unfold wrap64; omega), ⟨by rw [List.length_append, hii]; rfl⟩, ⟨by have := hz.out; rw [List.append_assoc]; exact this⟩, ⟨hrest.out⟩, ⟨Nat.le_refl _⟩, hblk, hro, hbw⟩
end Go.Proofs.YtdmpbaanonafbaaGreatDoor.SnLoop
