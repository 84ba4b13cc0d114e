/- texts.Lines by hand: a line at a time, of texts whose lines are short and do not end with a carriage return. -/
import Derived.Test.YtokojamaigebaaaDoorGivZ
import Derived.Test.YtokojamaigebaaaDoorPlain
import Derived.Tactics
import Derived.Tactics2
import Derived.Deep.QuietTactic
import Derived.BigQuiet
import Derived.Lib.Hide
namespace Go.Proofs.YtokojamaigebaaaDoor.Scan
open Go.RowKit Go.Proofs.YtokojamaigebaaaDoorW.PrintWords Go.Proofs.YtokojamaigebaaaDoorW.PrintLast Go.Proofs.YtokojamaigebaaaDoor.GivZ Go.Proofs.YtokojamaigebaaaDoorW.PrintMore Go.Proofs.YtokojamaigebaaaDoorPt
set_option linter.unusedVariables false
set_option linter.unusedSimpArgs false
/-- A scanner's cells. -/
def scnM (m : Nat) (t line : ByteArray) : Obj := .cells #[.string t, .string line, .int .i64 m, .nilIface] 87 (0, 0)
def scn (t line : ByteArray) : Obj := scnM 65536 t line
set_option maxHeartbeats 4000000 in
set_option maxRecDepth 100000 in
theorem newLines_is (t : ByteArray) (w : World) : Calls Tryd.prog 39 #[.string t] w fun e w' => ∃ g, e = .returned (.pointer (some ⟨g, 0, none⟩)) ∧ g = w.heap.size ∧ w'.heap[g]? = some (scn t ByteArray.empty) ∧ Below w.heap.size w w' := by
  have hu := Tryd.underlying87
  go_enter Tryd.func39, Tryd.ntmps39
  go_wp2
  go_ret
  exact ⟨w.heap.size, rfl, rfl, blk_new _ _, below_alloc (Below.refl _ _) _⟩
set_option maxHeartbeats 8000000 in
set_option maxRecDepth 100000 in
theorem scan_no (g : Nat) (line : ByteArray) (w : World) (hb : w.heap[g]? = some (scn ByteArray.empty line)) :
    Calls Tryd.prog 40 #[.pointer (some ⟨g, 0, none⟩)] w fun e w' => e = .returned (.bool false) ∧ w'.heap[g]? = some (scn ByteArray.empty ByteArray.empty) ∧ KeepBut w w' g none ∧ (∀ w0 : World, Below w0.heap.size w0 w → w0.heap.size ≤ g → Below w0.heap.size w0 w') := by
  have hu := Tryd.underlying87
  have hc0 : w.cell? ⟨g, 0, none⟩ = some (.string ByteArray.empty) := (blk_cell hb 0).trans rfl
  have hc1 : w.cell? ⟨g, 1, none⟩ = some (.string line) := (blk_cell hb 1).trans rfl
  have hc3 : w.cell? ⟨g, 3, none⟩ = some .nilIface := (blk_cell hb 3).trans rfl
  have hf1 := blk_frozen hb 1
  have HB := Aside0.mk hb
  clear hb
  go_enter Tryd.func40, Tryd.ntmps40
  go_wp2
  go_ret
  exact ⟨rfl, blk_put HB.out 1 _ rfl, (KeepBut.refl w g none).set_ 1 _, fun w0 h hg => below_set h hg⟩
theorem keep_put {w : World} {g : Nat} {t l m e : Value} {T : TypeId} (h : w.heap[g]? = some (.cells #[t, l, m, e] T (0, 0))) (u : Value) : (w.setCell ⟨g, 1, none⟩ u).heap[g]? = some (.cells #[t, u, m, e] T (0, 0)) := blk_put h 1 u rfl
set_option maxHeartbeats 16000000 in
set_option maxRecDepth 100000 in
theorem scan_yesM (m g : Nat) (t line : ByteArray) (n : Nat) (w : World) (hb : w.heap[g]? = some (scnM m t line)) (hne : 0 < t.size) (hn : n ≤ t.size) (hmost : n < m) (hbefore : ∀ (i : Nat) (h : i < t.size), i < n → ¬ ((t[i]'h).toNat : Int) = 10)
    (hend : ∀ h : n < t.size, ((t[n]'h).toNat : Int) = 10) (hcr : ∀ h : n - 1 < t.size, 0 < n → ¬ ((t[n - 1]'h).toNat : Int) = 13) (hsz : t.size ≤ 1000000) :
    Calls Tryd.prog 40 #[.pointer (some ⟨g, 0, none⟩)] w fun e w' => e = .returned (.bool true) ∧ w'.heap[g]? = some (scnM m (t.extract (min (n + 1) t.size) t.size) (t.extract 0 n)) ∧ KeepBut w w' g none ∧ (∀ w0 : World, Below w0.heap.size w0 w → w0.heap.size ≤ g → Below w0.heap.size w0 w') := by
  have hu := Tryd.underlying87
  have hc0 : w.cell? ⟨g, 0, none⟩ = some (.string t) := (blk_cell hb 0).trans rfl
  have hc1 : w.cell? ⟨g, 1, none⟩ = some (.string line) := (blk_cell hb 1).trans rfl
  have hc2 : w.cell? ⟨g, 2, none⟩ = some (.int .i64 m) := (blk_cell hb 2).trans rfl
  have hc3 : w.cell? ⟨g, 3, none⟩ = some .nilIface := (blk_cell hb 3).trans rfl
  have hf1 := blk_frozen hb 1
  have hf0 := blk_frozen hb 0
  have HB := Aside0.mk hb
  have hne2 : ¬ (t.toList = []) := by
    rw [Lib.toList_data]
    intro h
    have := len_data t
    rw [h] at this
    simp at this
    omega
  have hne3 : t.toList.isEmpty = false := by
    cases h : t.toList with
    | nil => exact absurd h hne2
    | cons _ _ => rfl
  have HBE := Lib.hid hbefore
  have HEN := Lib.hid hend
  have HCR := Lib.hid hcr
  clear hb hbefore hend hcr
  go_enter Tryd.func40, Tryd.ntmps40
  go_wp2
  go_loop [3] (fun v3 => ∃ k : Nat, v3 = .int .i64 k ∧ k ≤ n) (fun v3 => n - (intOf v3).toNat)
  case atStart => exact ⟨0, rfl, by omega⟩
  case round =>
    obtain ⟨k, rfl, hk⟩ := hrel
    by_cases hkn : k < n
    · have hkt : k < t.size := by omega
      have hx := HBE.out k hkt hkn
      go_wp2
      exact ⟨⟨k + 1, rfl, by omega⟩, by simp [intOf]; omega⟩
    · obtain rfl : k = n := by omega
      by_cases hlt : k < t.size
      · have hx := HEN.out hlt
        go_wp2
        obtain ⟨W, hW⟩ : ∃ W, W = (((w.setCell ⟨g, 1, none⟩ (.string (⟨#[]⟩ : ByteArray))).setCell ⟨g, 1, none⟩ (.string (t.extract 0 k))).setCell ⟨g, 0, none⟩ (.string (t.extract (k + 1) t.size))) := ⟨_, rfl⟩
        have hbW := Aside0.mk (show W.heap[g]? = some (scnM m (t.extract (min (k + 1) t.size) t.size) (t.extract 0 k)) by rw [hW, show min (k + 1) t.size = k + 1 by omega]; exact blk_put (cs := #[.string t, .string (t.extract 0 k), .int .i64 m, .nilIface]) (keep_put (keep_put HB.out _) _) 0 _ rfl)
        have hkW := Aside0.mk (show KeepBut w W g none by rw [hW]; exact (((KeepBut.refl w g none).set_ 1 _).set_ 1 _).set_ 0 _)
        have hBel := Aside0.mk (show ∀ w0 : World, Below w0.heap.size w0 w → w0.heap.size ≤ g → Below w0.heap.size w0 W by rw [hW]; exact fun w0 h hg => below_set (below_set (below_set h hg) hg) hg)
        rw [← hW]
        clear hW hc0 hc1 hc2 hc3 hf1 hf0
        have hl : W.cell? ⟨g, 1, none⟩ = some (.string (t.extract 0 k)) := (blk_cell hbW.out 1).trans rfl
        have hsl : (t.extract 0 k).size = k := by rw [Lib.size_eq, Lib.extract_data]; simp; omega
        have hg := Lib.hid (fun (h : k - 1 < (t.extract 0 k).size) (h0 : 0 < k) => show ¬ (((t.extract 0 k)[k - 1]'h).toNat : Int) = 13 by
          have h2 := HCR.out (by omega) h0
          have e : (t.extract 0 k)[k - 1]'h = t[k - 1]'(by omega) := by simp [ByteArray.getElem_extract]
          rw [e]; exact h2)
        generalize hR : t.extract (min (k + 1) t.size) t.size = R at hbW
        generalize hN : t.extract 0 k = ln at hbW hl hsl hg ⊢
        have HR := Lib.hid hR
        have HN := Lib.hid hN
        clear HBE HEN HCR hR hN
        by_cases k0 : k = 0
        · have hsz0 : ln.size = 0 := by omega
          have hx0 : decide ((0 : Int) < (ln.size : Int)) = false := decide_eq_false (by omega)
          try clear hx
          clear hsl hg k0 hk hkn hlt
          go_quiet (fail)
          all_goals (go_wp2)
          all_goals (go_ret; exact ⟨rfl, by rw [HR.out, HN.out]; exact hbW.out, hkW.out, fun w0 h hg => pw_below_drewN (hBel.out w0 h hg) _⟩)
        · obtain ⟨j, hj0⟩ : ∃ j, k = j + 1 := ⟨k - 1, by omega⟩
          have hj : j < ln.size := by omega
          have h13 : ¬ ((ln[j]'hj).toNat : Int) = 13 := by
            have e : k - 1 = j := by omega
            have := hg.out (by omega) (by omega)
            simp only [e] at this
            exact this
          have hsz1 : ln.size = j + 1 := by omega
          have hx0 : decide ((0 : Int) < (ln.size : Int)) = true := decide_eq_true (by omega)
          try clear hx
          have hx1 : decide (0 < ln.size) = true := decide_eq_true (by omega)
          have hjb : (j : Int) < 1000000 := by omega
          have hw0 : IntKind.i64.wrap ((j : Int) + 1 - 1) = (j : Int) := by rw [IntKind.wrap_i64]; omega
          have hw1 : IntKind.i64.wrap (((j + 1 : Nat) : Int) - 1) = (j : Int) := by rw [IntKind.wrap_i64]; omega
          have hw2 : IntKind.i64.wrap ((ln.size : Int) - 1) = (j : Int) := by rw [IntKind.wrap_i64]; omega
          have hj0' : (0 : Int) ≤ j := by omega
          have hj1 : (j : Int) < ln.size := by omega
          clear hsl hg k0 hj0 hk hkn hlt hsz1 hjb
          go_quiet (fail)
          all_goals (go_wp2)
          all_goals (go_ret; exact ⟨rfl, by rw [HR.out, HN.out]; exact hbW.out, hkW.out, fun w0 h hg => pw_below_drewN (hBel.out w0 h hg) _⟩)
      · go_wp2
        obtain ⟨W, hW⟩ : ∃ W, W = (((w.setCell ⟨g, 1, none⟩ (.string (⟨#[]⟩ : ByteArray))).setCell ⟨g, 1, none⟩ (.string (t.extract 0 k))).setCell ⟨g, 0, none⟩ (.string (t.extract k t.size))) := ⟨_, rfl⟩
        have hbW := Aside0.mk (show W.heap[g]? = some (scnM m (t.extract (min (k + 1) t.size) t.size) (t.extract 0 k)) by rw [hW, show min (k + 1) t.size = k by omega]; exact blk_put (cs := #[.string t, .string (t.extract 0 k), .int .i64 m, .nilIface]) (keep_put (keep_put HB.out _) _) 0 _ rfl)
        have hkW := Aside0.mk (show KeepBut w W g none by rw [hW]; exact (((KeepBut.refl w g none).set_ 1 _).set_ 1 _).set_ 0 _)
        have hBel := Aside0.mk (show ∀ w0 : World, Below w0.heap.size w0 w → w0.heap.size ≤ g → Below w0.heap.size w0 W by rw [hW]; exact fun w0 h hg => below_set (below_set (below_set h hg) hg) hg)
        rw [← hW]
        clear hW hc0 hc1 hc2 hc3 hf1 hf0
        have hl : W.cell? ⟨g, 1, none⟩ = some (.string (t.extract 0 k)) := (blk_cell hbW.out 1).trans rfl
        have hsl : (t.extract 0 k).size = k := by rw [Lib.size_eq, Lib.extract_data]; simp; omega
        have hg := Lib.hid (fun (h : k - 1 < (t.extract 0 k).size) (h0 : 0 < k) => show ¬ (((t.extract 0 k)[k - 1]'h).toNat : Int) = 13 by
          have h2 := HCR.out (by omega) h0
          have e : (t.extract 0 k)[k - 1]'h = t[k - 1]'(by omega) := by simp [ByteArray.getElem_extract]
          rw [e]; exact h2)
        generalize hR : t.extract (min (k + 1) t.size) t.size = R at hbW
        generalize hN : t.extract 0 k = ln at hbW hl hsl hg ⊢
        have HR := Lib.hid hR
        have HN := Lib.hid hN
        clear HBE HEN HCR hR hN
        by_cases k0 : k = 0
        · have hsz0 : ln.size = 0 := by omega
          have hx0 : decide ((0 : Int) < (ln.size : Int)) = false := decide_eq_false (by omega)
          try clear hx
          clear hsl hg k0 hk hkn hlt
          go_quiet (fail)
          all_goals (go_wp2)
          all_goals (go_ret; exact ⟨rfl, by rw [HR.out, HN.out]; exact hbW.out, hkW.out, fun w0 h hg => pw_below_drewN (hBel.out w0 h hg) _⟩)
        · obtain ⟨j, hj0⟩ : ∃ j, k = j + 1 := ⟨k - 1, by omega⟩
          have hj : j < ln.size := by omega
          have h13 : ¬ ((ln[j]'hj).toNat : Int) = 13 := by
            have e : k - 1 = j := by omega
            have := hg.out (by omega) (by omega)
            simp only [e] at this
            exact this
          have hsz1 : ln.size = j + 1 := by omega
          have hx0 : decide ((0 : Int) < (ln.size : Int)) = true := decide_eq_true (by omega)
          try clear hx
          have hx1 : decide (0 < ln.size) = true := decide_eq_true (by omega)
          have hjb : (j : Int) < 1000000 := by omega
          have hw0 : IntKind.i64.wrap ((j : Int) + 1 - 1) = (j : Int) := by rw [IntKind.wrap_i64]; omega
          have hw1 : IntKind.i64.wrap (((j + 1 : Nat) : Int) - 1) = (j : Int) := by rw [IntKind.wrap_i64]; omega
          have hw2 : IntKind.i64.wrap ((ln.size : Int) - 1) = (j : Int) := by rw [IntKind.wrap_i64]; omega
          have hj0' : (0 : Int) ≤ j := by omega
          have hj1 : (j : Int) < ln.size := by omega
          clear hsl hg k0 hj0 hk hkn hlt hsz1 hjb
          go_quiet (fail)
          all_goals (go_wp2)
          all_goals (go_ret; exact ⟨rfl, by rw [HR.out, HN.out]; exact hbW.out, hkW.out, fun w0 h hg => pw_below_drewN (hBel.out w0 h hg) _⟩)
theorem scan_yes (g : Nat) (t line : ByteArray) (n : Nat) (w : World) (hb : w.heap[g]? = some (scn t line)) (hne : 0 < t.size) (hn : n ≤ t.size) (hmost : n < 65536) (hbefore : ∀ (i : Nat) (h : i < t.size), i < n → ¬ ((t[i]'h).toNat : Int) = 10)
    (hend : ∀ h : n < t.size, ((t[n]'h).toNat : Int) = 10) (hcr : ∀ h : n - 1 < t.size, 0 < n → ¬ ((t[n - 1]'h).toNat : Int) = 13) (hsz : t.size ≤ 1000000) :
    Calls Tryd.prog 40 #[.pointer (some ⟨g, 0, none⟩)] w fun e w' => e = .returned (.bool true) ∧ w'.heap[g]? = some (scn (t.extract (min (n + 1) t.size) t.size) (t.extract 0 n)) ∧ KeepBut w w' g none ∧ (∀ w0 : World, Below w0.heap.size w0 w → w0.heap.size ≤ g → Below w0.heap.size w0 w') :=
  scan_yesM 65536 g t line n w hb hne hn hmost hbefore hend hcr hsz
set_option maxRecDepth 100000 in
theorem text_is (g : Nat) (t line : ByteArray) (w : World) (hb : w.heap[g]? = some (scn t line)) :
    Calls Tryd.prog 41 #[.pointer (some ⟨g, 0, none⟩)] w fun e w' => e = .returned (.string line) ∧ w = w' := by
  have hu := Tryd.underlying87
  have hc1 : w.cell? ⟨g, 1, none⟩ = some (.string line) := (blk_cell hb 1).trans rfl
  clear hb
  go_enter Tryd.func41, Tryd.ntmps41
  go_wp2
  go_ret
  exact ⟨rfl, rfl⟩
set_option maxRecDepth 100000 in
theorem err_is (g : Nat) (t line : ByteArray) (w : World) (hb : w.heap[g]? = some (scn t line)) :
    Calls Tryd.prog 48 #[.pointer (some ⟨g, 0, none⟩)] w fun e w' => e = .returned .nilIface ∧ w = w' := by
  have hu := Tryd.underlying87
  have hc1 : w.cell? ⟨g, 3, none⟩ = some .nilIface := (blk_cell hb 3).trans rfl
  clear hb
  go_enter Tryd.func48, Tryd.ntmps48
  go_wp2
  go_ret
  exact ⟨rfl, rfl⟩
end Go.Proofs.YtokojamaigebaaaDoor.Scan
