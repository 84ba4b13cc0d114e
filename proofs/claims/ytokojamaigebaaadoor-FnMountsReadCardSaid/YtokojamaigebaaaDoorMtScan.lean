import Derived.Test.YtokojamaigebaaaDoorGivZ
import Derived.Test.YtokojamaigebaaaDoorPlain
import Derived.Tactics
import Derived.Tactics2
import Derived.Deep.QuietTactic
import Derived.BigQuiet
import Derived.Lib.Hide
import Derived.StillTailTactics
/- texts.Lines by hand: a line at a time, of texts whose lines are short and do not end with a carriage return. -/
namespace Go.Proofs.YtokojamaigebaaaDoor.Scan
open Go.RowKit Go.Proofs.YtokojamaigebaaaDoorW.PrintWords Go.Proofs.YtokojamaigebaaaDoorW.PrintLast Go.Proofs.YtokojamaigebaaaDoor.GivZ Go.Proofs.YtokojamaigebaaaDoorW.PrintMore Go.Proofs.YtokojamaigebaaaDoorPt
set_option linter.unusedVariables false
set_option linter.unusedSimpArgs false
/-- A scanner's cells. -/
def scnM (m : Nat) (t line : ByteArray) : Obj := .cells #[.string t, .string line, .int .i64 m, .nilIface] 87 (0, 0)
def scn (t line : ByteArray) : Obj := scnM 65536 t line
set_option maxHeartbeats 4000000 in
set_option maxRecDepth 100000 in
theorem newLines_is (t : ByteArray) (w : World) : Calls Tryd.prog 39 #[.string t] w fun e w' => ∃ g, e = .returned (.pointer (some ⟨g, 0, none⟩)) ∧ g = w.heap.size ∧ w'.heap[g]? = some (scn t ByteArray.empty) ∧ Below w.heap.size w w' := by
  have hu := Tryd.underlying87
  go_enter Tryd.func39, Tryd.ntmps39
  go_wp2
  go_ret
  exact ⟨w.heap.size, rfl, rfl, blk_new _ _, below_alloc (Below.refl _ _) _⟩
set_option maxHeartbeats 8000000 in
set_option maxRecDepth 100000 in
theorem scan_no (g : Nat) (line : ByteArray) (w : World) (hb : w.heap[g]? = some (scn ByteArray.empty line)) :
    Calls Tryd.prog 40 #[.pointer (some ⟨g, 0, none⟩)] w fun e w' => e = .returned (.bool false) ∧ w'.heap[g]? = some (scn ByteArray.empty ByteArray.empty) ∧ KeepBut w w' g none ∧ (∀ w0 : World, Below w0.heap.size w0 w → w0.heap.size ≤ g → Below w0.heap.size w0 w') := by
  have hu := Tryd.underlying87
  have hc0 : w.cell? ⟨g, 0, none⟩ = some (.string ByteArray.empty) := (blk_cell hb 0).trans rfl
  have hc1 : w.cell? ⟨g, 1, none⟩ = some (.string line) := (blk_cell hb 1).trans rfl
  have hc3 : w.cell? ⟨g, 3, none⟩ = some .nilIface := (blk_cell hb 3).trans rfl
  have hf1 := blk_frozen hb 1
  have HB := Aside0.mk hb
  clear hb
  go_enter Tryd.func40, Tryd.ntmps40
  go_wp2
  go_ret
  exact ⟨rfl, blk_put HB.out 1 _ rfl, (KeepBut.refl w g none).set_ 1 _, fun w0 h hg => below_set h hg⟩
theorem keep_put {w : World} {g : Nat} {t l m e : Value} {T : TypeId} (h : w.heap[g]? = some (.cells #[t, l, m, e] T (0, 0))) (u : Value) : (w.setCell ⟨g, 1, none⟩ u).heap[g]? = some (.cells #[t, u, m, e] T (0, 0)) := blk_put h 1 u rfl
set_option maxHeartbeats 16000000 in
set_option maxRecDepth 100000 in
theorem scan_yesM (m g : Nat) (t line : ByteArray) (n : Nat) (w : World) (hb : w.heap[g]? = some (scnM m t line)) (hne : 0 < t.size) (hn : n ≤ t.size) (hmost : n < m) (hbefore : ∀ (i : Nat) (h : i < t.size), i < n → ¬ ((t[i]'h).toNat : Int) = 10)
    (hend : ∀ h : n < t.size, ((t[n]'h).toNat : Int) = 10) (hcr : ∀ h : n - 1 < t.size, 0 < n → ¬ ((t[n - 1]'h).toNat : Int) = 13) (hsz : t.size ≤ 1000000) :
    Calls Tryd.prog 40 #[.pointer (some ⟨g, 0, none⟩)] w fun e w' => e = .returned (.bool true) ∧ w'.heap[g]? = some (scnM m (t.extract (min (n + 1) t.size) t.size) (t.extract 0 n)) ∧ KeepBut w w' g none ∧ (∀ w0 : World, Below w0.heap.size w0 w → w0.heap.size ≤ g → Below w0.heap.size w0 w') := by
  have hu := Tryd.underlying87
  have hc0 : w.cell? ⟨g, 0, none⟩ = some (.string t) := (blk_cell hb 0).trans rfl
  have hc1 : w.cell? ⟨g, 1, none⟩ = some (.string line) := (blk_cell hb 1).trans rfl
  have hc2 : w.cell? ⟨g, 2, none⟩ = some (.int .i64 m) := (blk_cell hb 2).trans rfl
  have hc3 : w.cell? ⟨g, 3, none⟩ = some .nilIface := (blk_cell hb 3).trans rfl
  have hf1 := blk_frozen hb 1
  have hf0 := blk_frozen hb 0
  have HB := Aside0.mk hb
  have hne2 : ¬ (t.toList = []) := by
    rw [Lib.toList_data]
    intro h
    have := len_data t
    rw [h] at this
    simp at this
    omega
  have hne3 : t.toList.isEmpty = false := by
    cases h : t.toList with
    | nil => exact absurd h hne2
    | cons _ _ => rfl
  have HBE := Lib.hid hbefore
  have HEN := Lib.hid hend
  have HCR := Lib.hid hcr
  clear hb hbefore hend hcr
  go_enter Tryd.func40, Tryd.ntmps40
  go_wp2
  go_loop [3] (fun v3 => ∃ k : Nat, v3 = .int .i64 k ∧ k ≤ n) (fun v3 => n - (intOf v3).toNat)
  case atStart => exact ⟨0, rfl, by omega⟩
  case round =>
    obtain ⟨k, rfl, hk⟩ := hrel
    by_cases hkn : k < n
    · have hkt : k < t.size := by omega
      have hx := HBE.out k hkt hkn
      go_wp2
      exact ⟨⟨k + 1, rfl, by omega⟩, by simp [intOf]; omega⟩
    · obtain rfl : k = n := by omega
      by_cases hlt : k < t.size
      · have hx := HEN.out hlt
        go_wp2
        obtain ⟨W, hW⟩ : ∃ W, W = (((w.setCell ⟨g, 1, none⟩ (.string (⟨#[]⟩ : ByteArray))).setCell ⟨g, 1, none⟩ (.string (t.extract 0 k))).setCell ⟨g, 0, none⟩ (.string (t.extract (k + 1) t.size))) := ⟨_, rfl⟩
        have hbW := Aside0.mk (show W.heap[g]? = some (scnM m (t.extract (min (k + 1) t.size) t.size) (t.extract 0 k)) by rw [hW, show min (k + 1) t.size = k + 1 by omega]; exact blk_put (cs := #[.string t, .string (t.extract 0 k), .int .i64 m, .nilIface]) (keep_put (keep_put HB.out _) _) 0 _ rfl)
        have hkW := Aside0.mk (show KeepBut w W g none by rw [hW]; exact (((KeepBut.refl w g none).set_ 1 _).set_ 1 _).set_ 0 _)
        have hBel := Aside0.mk (show ∀ w0 : World, Below w0.heap.size w0 w → w0.heap.size ≤ g → Below w0.heap.size w0 W by rw [hW]; exact fun w0 h hg => below_set (below_set (below_set h hg) hg) hg)
        rw [← hW]
        clear hW hc0 hc1 hc2 hc3 hf1 hf0
        have hl : W.cell? ⟨g, 1, none⟩ = some (.string (t.extract 0 k)) := (blk_cell hbW.out 1).trans rfl
        have hsl : (t.extract 0 k).size = k := by rw [Lib.size_eq, Lib.extract_data]; simp; omega
        have hg := Lib.hid (fun (h : k - 1 < (t.extract 0 k).size) (h0 : 0 < k) => show ¬ (((t.extract 0 k)[k - 1]'h).toNat : Int) = 13 by
          have h2 := HCR.out (by omega) h0
          have e : (t.extract 0 k)[k - 1]'h = t[k - 1]'(by omega) := by simp [ByteArray.getElem_extract]
          rw [e]; exact h2)
        generalize hR : t.extract (min (k + 1) t.size) t.size = R at hbW
        generalize hN : t.extract 0 k = ln at hbW hl hsl hg ⊢
        have HR := Lib.hid hR
        have HN := Lib.hid hN
        clear HBE HEN HCR hR hN
        by_cases k0 : k = 0
        · have hsz0 : ln.size = 0 := by omega
          have hx0 : decide ((0 : Int) < (ln.size : Int)) = false := decide_eq_false (by omega)
          try clear hx
          clear hsl hg k0 hk hkn hlt
          go_quiet (fail)
          all_goals (go_wp2)
          all_goals (go_ret; exact ⟨rfl, by rw [HR.out, HN.out]; exact hbW.out, hkW.out, fun w0 h hg => pw_below_drewN (hBel.out w0 h hg) _⟩)
        · obtain ⟨j, hj0⟩ : ∃ j, k = j + 1 := ⟨k - 1, by omega⟩
          have hj : j < ln.size := by omega
          have h13 : ¬ ((ln[j]'hj).toNat : Int) = 13 := by
            have e : k - 1 = j := by omega
            have := hg.out (by omega) (by omega)
            simp only [e] at this
            exact this
          have hsz1 : ln.size = j + 1 := by omega
          have hx0 : decide ((0 : Int) < (ln.size : Int)) = true := decide_eq_true (by omega)
          try clear hx
          have hx1 : decide (0 < ln.size) = true := decide_eq_true (by omega)
          have hjb : (j : Int) < 1000000 := by omega
          have hw0 : IntKind.i64.wrap ((j : Int) + 1 - 1) = (j : Int) := by rw [IntKind.wrap_i64]; omega
          have hw1 : IntKind.i64.wrap (((j + 1 : Nat) : Int) - 1) = (j : Int) := by rw [IntKind.wrap_i64]; omega
          have hw2 : IntKind.i64.wrap ((ln.size : Int) - 1) = (j : Int) := by rw [IntKind.wrap_i64]; omega
          have hj0' : (0 : Int) ≤ j := by omega
          have hj1 : (j : Int) < ln.size := by omega
          clear hsl hg k0 hj0 hk hkn hlt hsz1 hjb
          go_quiet (fail)
          all_goals (go_wp2)
          all_goals (go_ret; exact ⟨rfl, by rw [HR.out, HN.out]; exact hbW.out, hkW.out, fun w0 h hg => pw_below_drewN (hBel.out w0 h hg) _⟩)
      · go_wp2
        obtain ⟨W, hW⟩ : ∃ W, W = (((w.setCell ⟨g, 1, none⟩ (.string (⟨#[]⟩ : ByteArray))).setCell ⟨g, 1, none⟩ (.string (t.extract 0 k))).setCell ⟨g, 0, none⟩ (.string (t.extract k t.size))) := ⟨_, rfl⟩
        have hbW := Aside0.mk (show W.heap[g]? = some (scnM m (t.extract (min (k + 1) t.size) t.size) (t.extract 0 k)) by rw [hW, show min (k + 1) t.size = k by omega]; exact blk_put (cs := #[.string t, .string (t.extract 0 k), .int .i64 m, .nilIface]) (keep_put (keep_put HB.out _) _) 0 _ rfl)
        have hkW := Aside0.mk (show KeepBut w W g none by rw [hW]; exact (((KeepBut.refl w g none).set_ 1 _).set_ 1 _).set_ 0 _)
        have hBel := Aside0.mk (show ∀ w0 : World, Below w0.heap.size w0 w → w0.heap.size ≤ g → Below w0.heap.size w0 W by rw [hW]; exact fun w0 h hg => below_set (below_set (below_set h hg) hg) hg)
        rw [← hW]
        clear hW hc0 hc1 hc2 hc3 hf1 hf0
        have hl : W.cell? ⟨g, 1, none⟩ = some (.string (t.extract 0 k)) := (blk_cell hbW.out 1).trans rfl
        have hsl : (t.extract 0 k).size = k := by rw [Lib.size_eq, Lib.extract_data]; simp; omega
        have hg := Lib.hid (fun (h : k - 1 < (t.extract 0 k).size) (h0 : 0 < k) => show ¬ (((t.extract 0 k)[k - 1]'h).toNat : Int) = 13 by
          have h2 := HCR.out (by omega) h0
          have e : (t.extract 0 k)[k - 1]'h = t[k - 1]'(by omega) := by simp [ByteArray.getElem_extract]
          rw [e]; exact h2)
        generalize hR : t.extract (min (k + 1) t.size) t.size = R at hbW
        generalize hN : t.extract 0 k = ln at hbW hl hsl hg ⊢
        have HR := Lib.hid hR
        have HN := Lib.hid hN
        clear HBE HEN HCR hR hN
        by_cases k0 : k = 0
        · have hsz0 : ln.size = 0 := by omega
          have hx0 : decide ((0 : Int) < (ln.size : Int)) = false := decide_eq_false (by omega)
          try clear hx
          clear hsl hg k0 hk hkn hlt
          go_quiet (fail)
          all_goals (go_wp2)
          all_goals (go_ret; exact ⟨rfl, by rw [HR.out, HN.out]; exact hbW.out, hkW.out, fun w0 h hg => pw_below_drewN (hBel.out w0 h hg) _⟩)
        · obtain ⟨j, hj0⟩ : ∃ j, k = j + 1 := ⟨k - 1, by omega⟩
          have hj : j < ln.size := by omega
          have h13 : ¬ ((ln[j]'hj).toNat : Int) = 13 := by
            have e : k - 1 = j := by omega
            have := hg.out (by omega) (by omega)
            simp only [e] at this
            exact this
          have hsz1 : ln.size = j + 1 := by omega
          have hx0 : decide ((0 : Int) < (ln.size : Int)) = true := decide_eq_true (by omega)
          try clear hx
          have hx1 : decide (0 < ln.size) = true := decide_eq_true (by omega)
          have hjb : (j : Int) < 1000000 := by omega
          have hw0 : IntKind.i64.wrap ((j : Int) + 1 - 1) = (j : Int) := by rw [IntKind.wrap_i64]; omega
          have hw1 : IntKind.i64.wrap (((j + 1 : Nat) : Int) - 1) = (j : Int) := by rw [IntKind.wrap_i64]; omega
          have hw2 : IntKind.i64.wrap ((ln.size : Int) - 1) = (j : Int) := by rw [IntKind.wrap_i64]; omega
          have hj0' : (0 : Int) ≤ j := by omega
          have hj1 : (j : Int) < ln.size := by omega
          clear hsl hg k0 hj0 hk hkn hlt hsz1 hjb
          go_quiet (fail)
          all_goals (go_wp2)
          all_goals (go_ret; exact ⟨rfl, by rw [HR.out, HN.out]; exact hbW.out, hkW.out, fun w0 h hg => pw_below_drewN (hBel.out w0 h hg) _⟩)
theorem scan_yes (g : Nat) (t line : ByteArray) (n : Nat) (w : World) (hb : w.heap[g]? = some (scn t line)) (hne : 0 < t.size) (hn : n ≤ t.size) (hmost : n < 65536) (hbefore : ∀ (i : Nat) (h : i < t.size), i < n → ¬ ((t[i]'h).toNat : Int) = 10)
    (hend : ∀ h : n < t.size, ((t[n]'h).toNat : Int) = 10) (hcr : ∀ h : n - 1 < t.size, 0 < n → ¬ ((t[n - 1]'h).toNat : Int) = 13) (hsz : t.size ≤ 1000000) :
    Calls Tryd.prog 40 #[.pointer (some ⟨g, 0, none⟩)] w fun e w' => e = .returned (.bool true) ∧ w'.heap[g]? = some (scn (t.extract (min (n + 1) t.size) t.size) (t.extract 0 n)) ∧ KeepBut w w' g none ∧ (∀ w0 : World, Below w0.heap.size w0 w → w0.heap.size ≤ g → Below w0.heap.size w0 w') :=
  scan_yesM 65536 g t line n w hb hne hn hmost hbefore hend hcr hsz
set_option maxRecDepth 100000 in
theorem text_is (g : Nat) (t line : ByteArray) (w : World) (hb : w.heap[g]? = some (scn t line)) :
    Calls Tryd.prog 41 #[.pointer (some ⟨g, 0, none⟩)] w fun e w' => e = .returned (.string line) ∧ w = w' := by
  have hu := Tryd.underlying87
  have hc1 : w.cell? ⟨g, 1, none⟩ = some (.string line) := (blk_cell hb 1).trans rfl
  clear hb
  go_enter Tryd.func41, Tryd.ntmps41
  go_wp2
  go_ret
  exact ⟨rfl, rfl⟩
set_option maxRecDepth 100000 in
theorem err_is (g : Nat) (t line : ByteArray) (w : World) (hb : w.heap[g]? = some (scn t line)) :
    Calls Tryd.prog 48 #[.pointer (some ⟨g, 0, none⟩)] w fun e w' => e = .returned .nilIface ∧ w = w' := by
  have hu := Tryd.underlying87
  have hc1 : w.cell? ⟨g, 3, none⟩ = some .nilIface := (blk_cell hb 3).trans rfl
  clear hb
  go_enter Tryd.func48, Tryd.ntmps48
  go_wp2
  go_ret
  exact ⟨rfl, rfl⟩
end Go.Proofs.YtokojamaigebaaaDoor.Scan

/- texts.Lines by hand: a whole text, line by line, as the reference cuts it. -/
set_option linter.unusedVariables false
set_option linter.unusedSimpArgs false
namespace Go.Proofs.YtokojamaigebaaaDoor.ScanL
open Go.RowKit Go.Proofs.YtokojamaigebaaaDoorW.PrintWords Go.Proofs.YtokojamaigebaaaDoorW.PrintLast Go.Proofs.YtokojamaigebaaaDoor.GivZ Go.Proofs.YtokojamaigebaaaDoor.Scan Go.Proofs.YtokojamaigebaaaDoorPt
structure LineAt (t : ByteArray) (n : Nat) : Prop where
  hne : 0 < t.size
  hn : n ≤ t.size
  hmost : n < 65536
  hbefore : ∀ (i : Nat) (h : i < t.size), i < n → ¬ ((t[i]'h).toNat : Int) = 10
  hend : ∀ h : n < t.size, ((t[n]'h).toNat : Int) = 10
  hcr : ∀ h : n - 1 < t.size, 0 < n → ¬ ((t[n - 1]'h).toNat : Int) = 13
  hsz : t.size ≤ 1000000
def rest (t : ByteArray) (n : Nat) : ByteArray := t.extract (min (n + 1) t.size) t.size
theorem rest_size (t : ByteArray) (n : Nat) (h : 0 < t.size) : (rest t n).size < t.size := by
  unfold rest
  rw [ByteArray.size_extract]
  omega
/-- What is read of a text, a line at a time. -/
inductive ScanRun {β : Type} (P : ByteArray → β → Prop) : ByteArray → List β → Prop
  | done : ScanRun P ByteArray.empty []
  | row {t : ByteArray} {n : Nat} {b : β} {ys : List β} : LineAt t n → P (t.extract 0 n) b → ScanRun P (rest t n) ys → ScanRun P t (b :: ys)
theorem ext_app (p r : List UInt8) : (toB (p ++ r)).extract 0 p.length = toB p := by
  unfold toB
  apply ByteArray.ext
  rw [ByteArray.data_extract]
  simp
theorem rest_app (p r : List UInt8) : rest (toB (p ++ r)) p.length = toB ((p ++ r).drop (p.length + 1)) := by
  unfold rest toB
  have hs : (⟨(p ++ r).toArray⟩ : ByteArray).size = (p ++ r).length := by simp [ByteArray.size]
  apply ByteArray.ext
  rw [ByteArray.data_extract, hs]
  apply Array.toList_inj.1
  simp only [Array.toList_extract, List.extract_eq_take_drop]
  rw [show (p ++ r).length - min (p.length + 1) (p ++ r).length = ((p ++ r).drop (min (p.length + 1) (p ++ r).length)).length by rw [List.length_drop], List.take_length]
  by_cases c : p.length + 1 ≤ (p ++ r).length
  · rw [Nat.min_eq_left c]
  · rw [Nat.min_eq_right (by omega), List.drop_eq_nil_of_le (Nat.le_refl _), List.drop_eq_nil_of_le (by omega)]
theorem cut (l : List UInt8) : ∃ p r, l = p ++ r ∧ (∀ b ∈ p, b ≠ 10) ∧ (r = [] ∨ ∃ r', r = 10 :: r') := by
  induction l with
  | nil => exact ⟨[], [], rfl, fun _ h => (List.not_mem_nil h).elim, .inl rfl⟩
  | cons a l ih =>
    by_cases c : a = 10
    · exact ⟨[], a :: l, rfl, fun _ h => (List.not_mem_nil h).elim, .inr ⟨l, by rw [c]⟩⟩
    · obtain ⟨p, r, rfl, hp, hr⟩ := ih
      refine ⟨a :: p, r, rfl, fun b hb => ?_, hr⟩
      rcases List.mem_cons.1 hb with rfl | hb
      · exact c
      · exact hp b hb
theorem linesGo_app : ∀ (p cur r : List UInt8), (∀ b ∈ p, b ≠ 10) → linesGo cur (p ++ 10 :: r) = (cur ++ p) :: linesGo [] r
  | [], cur, r, _ => by rw [List.nil_append, linesGo, if_pos rfl, List.append_nil]
  | a :: p, cur, r, h => by
    rw [List.cons_append, linesGo, if_neg (h a List.mem_cons_self), linesGo_app p (cur ++ [a]) r (fun b hb => h b (List.mem_cons_of_mem _ hb))]
    simp
theorem linesGo_end : ∀ (p cur : List UInt8), (∀ b ∈ p, b ≠ 10) → cur ++ p ≠ [] → linesGo cur p = [cur ++ p]
  | [], cur, _, h => by
    rw [List.append_nil] at h ⊢
    rw [linesGo, if_neg (by simpa using h)]
  | a :: p, cur, h, h2 => by
    rw [linesGo, if_neg (h a List.mem_cons_self), linesGo_end p (cur ++ [a]) (fun b hb => h b (List.mem_cons_of_mem _ hb)) (by simp)]
    simp
/-- A function on each of a list; none where one answers none. -/
def mapO {α β : Type} (f : α → Option β) : List α → Option (List β)
  | [] => some []
  | x :: xs => (f x).bind fun y => (mapO f xs).bind fun ys => some (y :: ys)
end Go.Proofs.YtokojamaigebaaaDoor.ScanL

/- texts.Lines by hand: lines that may end with a carriage return; a text line by line, with a first line that is refused. -/
set_option linter.unusedVariables false
set_option linter.unusedSimpArgs false
namespace Go.Proofs.YtokojamaigebaaaDoor.MtScan
open Go.RowKit Go.Proofs.YtokojamaigebaaaDoorW.PrintWords Go.Proofs.YtokojamaigebaaaDoorW.PrintLast Go.Proofs.YtokojamaigebaaaDoor.GivZ Go.Proofs.YtokojamaigebaaaDoor.Scan Go.Proofs.YtokojamaigebaaaDoor.ScanL Go.Proofs.YtokojamaigebaaaDoorW.PrintMore Go.Proofs.YtokojamaigebaaaDoorPt
set_option maxHeartbeats 16000000 in
set_option maxRecDepth 100000 in
theorem scan_crM (m g : Nat) (t line : ByteArray) (n : Nat) (w : World) (hb : w.heap[g]? = some (scnM m t line)) (hne : 0 < t.size) (hn : n ≤ t.size) (hmost : n < m) (hbefore : ∀ (i : Nat) (h : i < t.size), i < n → ¬ ((t[i]'h).toNat : Int) = 10)
    (hend : ∀ h : n < t.size, ((t[n]'h).toNat : Int) = 10) (hpos : 0 < n) (hcr : ∀ h : n - 1 < t.size, ((t[n - 1]'h).toNat : Int) = 13) (hsz : t.size ≤ 1000000) :
    Calls Tryd.prog 40 #[.pointer (some ⟨g, 0, none⟩)] w fun e w' => e = .returned (.bool true) ∧ w'.heap[g]? = some (scnM m (t.extract (min (n + 1) t.size) t.size) ((t.extract 0 n).extract 0 (n - 1))) ∧ KeepBut w w' g none ∧ (∀ w0 : World, Below w0.heap.size w0 w → w0.heap.size ≤ g → Below w0.heap.size w0 w') := by
  have hu := Tryd.underlying87
  have hc0 : w.cell? ⟨g, 0, none⟩ = some (.string t) := (blk_cell hb 0).trans rfl
  have hc1 : w.cell? ⟨g, 1, none⟩ = some (.string line) := (blk_cell hb 1).trans rfl
  have hc2 : w.cell? ⟨g, 2, none⟩ = some (.int .i64 m) := (blk_cell hb 2).trans rfl
  have hc3 : w.cell? ⟨g, 3, none⟩ = some .nilIface := (blk_cell hb 3).trans rfl
  have hf1 := blk_frozen hb 1
  have hf0 := blk_frozen hb 0
  have HB := Aside0.mk hb
  have hne2 : ¬ (t.toList = []) := by
    rw [Lib.toList_data]
    intro h
    have := len_data t
    rw [h] at this
    simp at this
    omega
  have hne3 : t.toList.isEmpty = false := by
    cases h : t.toList with
    | nil => exact absurd h hne2
    | cons _ _ => rfl
  have HBE := Lib.hid hbefore
  have HEN := Lib.hid hend
  have HCR := Lib.hid hcr
  clear hb hbefore hend hcr
  go_enter Tryd.func40, Tryd.ntmps40
  go_wp2
  go_loop [3] (fun v3 => ∃ k : Nat, v3 = .int .i64 k ∧ k ≤ n) (fun v3 => n - (intOf v3).toNat)
  case atStart => exact ⟨0, rfl, by omega⟩
  case round =>
    obtain ⟨k, rfl, hk⟩ := hrel
    by_cases hkn : k < n
    · have hkt : k < t.size := by omega
      have hx := HBE.out k hkt hkn
      go_wp2
      exact ⟨⟨k + 1, rfl, by omega⟩, by simp [intOf]; omega⟩
    · obtain rfl : k = n := by omega
      by_cases hlt : k < t.size
      · have hx := HEN.out hlt
        go_wp2
        obtain ⟨W, hW⟩ : ∃ W, W = (((w.setCell ⟨g, 1, none⟩ (.string (⟨#[]⟩ : ByteArray))).setCell ⟨g, 1, none⟩ (.string (t.extract 0 k))).setCell ⟨g, 0, none⟩ (.string (t.extract (k + 1) t.size))) := ⟨_, rfl⟩
        have hbW := Aside0.mk (show W.heap[g]? = some (scnM m (t.extract (min (k + 1) t.size) t.size) (t.extract 0 k)) by rw [hW, show min (k + 1) t.size = k + 1 by omega]; exact blk_put (cs := #[.string t, .string (t.extract 0 k), .int .i64 m, .nilIface]) (keep_put (keep_put HB.out _) _) 0 _ rfl)
        have hkW := Aside0.mk (show KeepBut w W g none by rw [hW]; exact (((KeepBut.refl w g none).set_ 1 _).set_ 1 _).set_ 0 _)
        have hBel := Aside0.mk (show ∀ w0 : World, Below w0.heap.size w0 w → w0.heap.size ≤ g → Below w0.heap.size w0 W by rw [hW]; exact fun w0 h hg => below_set (below_set (below_set h hg) hg) hg)
        rw [← hW]
        clear hW hc0 hc1 hc2 hc3 hf1 hf0
        have hl : W.cell? ⟨g, 1, none⟩ = some (.string (t.extract 0 k)) := (blk_cell hbW.out 1).trans rfl
        have hsl : (t.extract 0 k).size = k := by rw [Lib.size_eq, Lib.extract_data]; simp; omega
        have hg := Lib.hid (fun (h : k - 1 < (t.extract 0 k).size) (h0 : 0 < k) => show (((t.extract 0 k)[k - 1]'h).toNat : Int) = 13 by
          have h2 := HCR.out (by omega)
          have e : (t.extract 0 k)[k - 1]'h = t[k - 1]'(by omega) := by simp [ByteArray.getElem_extract]
          rw [e]; exact h2)
        generalize hR : t.extract (min (k + 1) t.size) t.size = R at hbW
        generalize hN : t.extract 0 k = ln at hbW hl hsl hg ⊢
        have HR := Lib.hid hR
        have HN := Lib.hid hN
        clear HBE HEN HCR hR hN
        have k0 : k ≠ 0 := by omega
        obtain ⟨j, hj0⟩ : ∃ j, k = j + 1 := ⟨k - 1, by omega⟩
        have hj : j < ln.size := by omega
        have h13 : ((ln[j]'hj).toNat : Int) = 13 := by
          have e : k - 1 = j := by omega
          have := hg.out (by omega) (by omega)
          simp only [e] at this
          exact this
        have hsz1 : ln.size = j + 1 := by omega
        have hx0 : decide ((0 : Int) < (ln.size : Int)) = true := decide_eq_true (by omega)
        try clear hx
        have hx1 : decide (0 < ln.size) = true := decide_eq_true (by omega)
        have hjb : (j : Int) < 1000000 := by omega
        have hw0 : IntKind.i64.wrap ((j : Int) + 1 - 1) = (j : Int) := by rw [IntKind.wrap_i64]; omega
        have hw1 : IntKind.i64.wrap (((j + 1 : Nat) : Int) - 1) = (j : Int) := by rw [IntKind.wrap_i64]; omega
        have hw2 : IntKind.i64.wrap ((ln.size : Int) - 1) = (j : Int) := by rw [IntKind.wrap_i64]; omega
        have hj0' : (0 : Int) ≤ j := by omega
        have hj1 : (j : Int) < ln.size := by omega
        have HJ := Lib.hid (show k - 1 = j by omega)
        clear hsl hg k0 hj0 hk hkn hlt hsz1 hjb
        go_quiet (fail)
        all_goals (go_wp2)
        have hl2 : (W.drewN nq).cell? ⟨g, 1, none⟩ = some (.string ln) := hl
        have hb2 := Aside0.mk (show (W.drewN nq).heap[g]? = some (scnM m R ln) from hbW.out)
        have hk2 := Aside0.mk (show KeepBut w (W.drewN nq) g none from hkW.out)
        have hB2 := Aside0.mk (show ∀ w0 : World, Below w0.heap.size w0 w → w0.heap.size ≤ g → Below w0.heap.size w0 (W.drewN nq) from fun w0 h hg => pw_below_drewN (hBel.out w0 h hg) nq)
        clear hl hbW hkW hBel
        have hj2 : (j : Int) ≤ ln.size := by omega
        have hj3 : j ≤ ln.size := by omega
        have hj4 : decide ((j : Int) ≤ ln.size) = true := decide_eq_true hj2
        have hj5 : decide (j ≤ ln.size) = true := decide_eq_true hj3
        generalize W.drewN nq = W2 at *
        go_still_tail 14, (by kernel_rfl)
        change wpList _ _ _ _ _ W2.drew
        have hl3 : W2.drew.cell? ⟨g, 1, none⟩ = some (.string ln) := hl2
        have hb3 := Aside0.mk (show W2.drew.heap[g]? = some (scnM m R ln) from hb2.out)
        have hk3 := Aside0.mk (show KeepBut w W2.drew g none from hk2.out)
        have hB3 := Aside0.mk (show ∀ w0 : World, Below w0.heap.size w0 w → w0.heap.size ≤ g → Below w0.heap.size w0 W2.drew from fun w0 h hg => below_drew (hB2.out w0 h hg))
        clear hl2 hb2 hk2 hB2
        generalize W2.drew = W3 at *
        have hf3 := blk_frozen hb3.out 1
        go_wp2
        go_ret
        exact ⟨rfl, by rw [HR.out, HN.out, HJ.out]; exact keep_put hb3.out _, hk3.out.set_ 1 _, fun w0 h hg => below_set (hB3.out w0 h hg) hg⟩
      · go_wp2
        obtain ⟨W, hW⟩ : ∃ W, W = (((w.setCell ⟨g, 1, none⟩ (.string (⟨#[]⟩ : ByteArray))).setCell ⟨g, 1, none⟩ (.string (t.extract 0 k))).setCell ⟨g, 0, none⟩ (.string (t.extract k t.size))) := ⟨_, rfl⟩
        have hbW := Aside0.mk (show W.heap[g]? = some (scnM m (t.extract (min (k + 1) t.size) t.size) (t.extract 0 k)) by rw [hW, show min (k + 1) t.size = k by omega]; exact blk_put (cs := #[.string t, .string (t.extract 0 k), .int .i64 m, .nilIface]) (keep_put (keep_put HB.out _) _) 0 _ rfl)
        have hkW := Aside0.mk (show KeepBut w W g none by rw [hW]; exact (((KeepBut.refl w g none).set_ 1 _).set_ 1 _).set_ 0 _)
        have hBel := Aside0.mk (show ∀ w0 : World, Below w0.heap.size w0 w → w0.heap.size ≤ g → Below w0.heap.size w0 W by rw [hW]; exact fun w0 h hg => below_set (below_set (below_set h hg) hg) hg)
        rw [← hW]
        clear hW hc0 hc1 hc2 hc3 hf1 hf0
        have hl : W.cell? ⟨g, 1, none⟩ = some (.string (t.extract 0 k)) := (blk_cell hbW.out 1).trans rfl
        have hsl : (t.extract 0 k).size = k := by rw [Lib.size_eq, Lib.extract_data]; simp; omega
        have hg := Lib.hid (fun (h : k - 1 < (t.extract 0 k).size) (h0 : 0 < k) => show (((t.extract 0 k)[k - 1]'h).toNat : Int) = 13 by
          have h2 := HCR.out (by omega)
          have e : (t.extract 0 k)[k - 1]'h = t[k - 1]'(by omega) := by simp [ByteArray.getElem_extract]
          rw [e]; exact h2)
        generalize hR : t.extract (min (k + 1) t.size) t.size = R at hbW
        generalize hN : t.extract 0 k = ln at hbW hl hsl hg ⊢
        have HR := Lib.hid hR
        have HN := Lib.hid hN
        clear HBE HEN HCR hR hN
        have k0 : k ≠ 0 := by omega
        obtain ⟨j, hj0⟩ : ∃ j, k = j + 1 := ⟨k - 1, by omega⟩
        have hj : j < ln.size := by omega
        have h13 : ((ln[j]'hj).toNat : Int) = 13 := by
          have e : k - 1 = j := by omega
          have := hg.out (by omega) (by omega)
          simp only [e] at this
          exact this
        have hsz1 : ln.size = j + 1 := by omega
        have hx0 : decide ((0 : Int) < (ln.size : Int)) = true := decide_eq_true (by omega)
        try clear hx
        have hx1 : decide (0 < ln.size) = true := decide_eq_true (by omega)
        have hjb : (j : Int) < 1000000 := by omega
        have hw0 : IntKind.i64.wrap ((j : Int) + 1 - 1) = (j : Int) := by rw [IntKind.wrap_i64]; omega
        have hw1 : IntKind.i64.wrap (((j + 1 : Nat) : Int) - 1) = (j : Int) := by rw [IntKind.wrap_i64]; omega
        have hw2 : IntKind.i64.wrap ((ln.size : Int) - 1) = (j : Int) := by rw [IntKind.wrap_i64]; omega
        have hj0' : (0 : Int) ≤ j := by omega
        have hj1 : (j : Int) < ln.size := by omega
        have HJ := Lib.hid (show k - 1 = j by omega)
        clear hsl hg k0 hj0 hk hkn hlt hsz1 hjb
        go_quiet (fail)
        all_goals (go_wp2)
        have hl2 : (W.drewN nq).cell? ⟨g, 1, none⟩ = some (.string ln) := hl
        have hb2 := Aside0.mk (show (W.drewN nq).heap[g]? = some (scnM m R ln) from hbW.out)
        have hk2 := Aside0.mk (show KeepBut w (W.drewN nq) g none from hkW.out)
        have hB2 := Aside0.mk (show ∀ w0 : World, Below w0.heap.size w0 w → w0.heap.size ≤ g → Below w0.heap.size w0 (W.drewN nq) from fun w0 h hg => pw_below_drewN (hBel.out w0 h hg) nq)
        clear hl hbW hkW hBel
        have hj2 : (j : Int) ≤ ln.size := by omega
        have hj3 : j ≤ ln.size := by omega
        have hj4 : decide ((j : Int) ≤ ln.size) = true := decide_eq_true hj2
        have hj5 : decide (j ≤ ln.size) = true := decide_eq_true hj3
        generalize W.drewN nq = W2 at *
        go_still_tail 14, (by kernel_rfl)
        change wpList _ _ _ _ _ W2.drew
        have hl3 : W2.drew.cell? ⟨g, 1, none⟩ = some (.string ln) := hl2
        have hb3 := Aside0.mk (show W2.drew.heap[g]? = some (scnM m R ln) from hb2.out)
        have hk3 := Aside0.mk (show KeepBut w W2.drew g none from hk2.out)
        have hB3 := Aside0.mk (show ∀ w0 : World, Below w0.heap.size w0 w → w0.heap.size ≤ g → Below w0.heap.size w0 W2.drew from fun w0 h hg => below_drew (hB2.out w0 h hg))
        clear hl2 hb2 hk2 hB2
        generalize W2.drew = W3 at *
        have hf3 := blk_frozen hb3.out 1
        go_wp2
        go_ret
        exact ⟨rfl, by rw [HR.out, HN.out, HJ.out]; exact keep_put hb3.out _, hk3.out.set_ 1 _, fun w0 h hg => below_set (hB3.out w0 h hg) hg⟩
/-- A line without the carriage return at its end. -/
def stripCR (l : List UInt8) : List UInt8 := if l.getLast? = some 13 then l.dropLast else l
def stripB (l : ByteArray) : ByteArray := toB (stripCR l.data.toList)
theorem strip_len (l : List UInt8) : (stripCR l).length ≤ l.length := by
  unfold stripCR
  split
  · rw [List.length_dropLast]; omega
  · exact Nat.le_refl _
structure LineC (t : ByteArray) (n : Nat) : Prop where
  hne : 0 < t.size
  hn : n ≤ t.size
  hmost : n < 65536
  hbefore : ∀ (i : Nat) (h : i < t.size), i < n → ¬ ((t[i]'h).toNat : Int) = 10
  hend : ∀ h : n < t.size, ((t[n]'h).toNat : Int) = 10
  hsz : t.size ≤ 1000000
theorem scan_any (g : Nat) (t line : ByteArray) (n : Nat) (w : World) (hb : w.heap[g]? = some (scn t line)) (h : LineC t n) :
    Calls Tryd.prog 40 #[.pointer (some ⟨g, 0, none⟩)] w fun e w' => e = .returned (.bool true) ∧ w'.heap[g]? = some (scn (rest t n) (stripB (t.extract 0 n))) ∧ KeepBut w w' g none ∧ (∀ w0 : World, Below w0.heap.size w0 w → w0.heap.size ≤ g → Below w0.heap.size w0 w') := by
  have hlen : (t.extract 0 n).data.toList.length = n := by
    have : (t.extract 0 n).size = n := by rw [ByteArray.size_extract]; have := h.hn; omega
    exact (Lib.size_eq _).symm.trans this
  have hlt : ∀ i, i < n → ∃ (h1 : i < t.size) (h2 : i < (t.extract 0 n).data.toList.length), t[i]'h1 = (t.extract 0 n).data.toList[i]'h2 := by
    intro i hi
    have h1 : i < t.size := Nat.lt_of_lt_of_le hi h.hn
    have h3 : i < (t.extract 0 n).size := by rw [ByteArray.size_extract]; have := h.hn; omega
    refine ⟨h1, by omega, ?_⟩
    have e : (t.extract 0 n)[i]'h3 = t[i]'h1 := by simp [ByteArray.getElem_extract]
    rw [← e]; rfl
  by_cases c : (t.extract 0 n).data.toList.getLast? = some 13
  · have hpos : 0 < n := by
      rcases Nat.eq_zero_or_pos n with h0 | h0
      · have : (t.extract 0 n).data.toList = [] := List.eq_nil_of_length_eq_zero (by omega)
        rw [this] at c; cases c
      · exact h0
    have e : stripB (t.extract 0 n) = (t.extract 0 n).extract 0 (n - 1) := by
      unfold stripB stripCR
      rw [if_pos c]
      apply data_inj
      rw [toB_data, List.dropLast_eq_take, hlen, Lib.extract_data (t.extract 0 n), List.drop_zero, Nat.sub_zero]
    rw [e]
    refine scan_crM 65536 g t line n w hb h.hne h.hn h.hmost h.hbefore h.hend hpos (fun h0 => ?_) h.hsz
    obtain ⟨h1, h2, e2⟩ := hlt (n - 1) (by omega)
    rw [e2]
    rw [List.getLast?_eq_getElem?, hlen, List.getElem?_eq_getElem h2] at c
    rw [Option.some.inj c]
    rfl
  · have e : stripB (t.extract 0 n) = t.extract 0 n := by
      unfold stripB stripCR
      rw [if_neg c]
      exact toB_of _
    rw [e]
    refine scan_yes g t line n w hb h.hne h.hn h.hmost h.hbefore h.hend (fun h0 hp => ?_) h.hsz
    obtain ⟨h1, h2, e2⟩ := hlt (n - 1) (by omega)
    rw [e2]
    intro e3
    apply c
    rw [List.getLast?_eq_getElem?, hlen, List.getElem?_eq_getElem h2]
    congr 1
    apply UInt8.toNat_inj.1
    exact Int.ofNat.inj e3
/-- What is read of a text, a line at a time: rows, or a line that is refused (none). -/
inductive ScanE {β : Type} (P : ByteArray → β → Prop) (B : ByteArray → Prop) : ByteArray → Option (List β) → Prop
  | done : ScanE P B ByteArray.empty (some [])
  | row {t : ByteArray} {n : Nat} {b : β} {o : Option (List β)} : LineC t n → P (stripB (t.extract 0 n)) b → ScanE P B (rest t n) o → ScanE P B t (o.map (b :: ·))
  | bad {t : ByteArray} {n : Nat} : LineC t n → B (stripB (t.extract 0 n)) → ScanE P B t none
theorem lineC_app (p r : List UInt8) (hp : ∀ b ∈ p, b ≠ 10) (hr : r = [] ∨ ∃ r', r = 10 :: r') (hne : p ++ r ≠ []) (h1 : p.length < 65536) (h2 : (p ++ r).length ≤ 1000000) : LineC (toB (p ++ r)) p.length := by
  have hs : (toB (p ++ r)).size = (p ++ r).length := toB_size _
  rw [List.length_append] at hs h2
  have hg : ∀ (i : Nat) (h : i < (toB (p ++ r)).size), (toB (p ++ r))[i]'h = (p ++ r)[i]'(by rw [List.length_append]; omega) := fun i h => rfl
  refine ⟨?_, by omega, h1, fun i h hi => ?_, fun h => ?_, by omega⟩
  · have := List.length_pos_iff.2 hne
    rw [List.length_append] at this
    omega
  · rw [hg, List.getElem_append_left hi]
    intro he
    refine hp _ (List.getElem_mem hi) ?_
    apply UInt8.toNat_inj.1
    exact Int.ofNat.inj he
  · rw [hg, List.getElem_append_right (Nat.le_refl _)]
    rcases hr with rfl | ⟨r', rfl⟩
    · exfalso; rw [hs] at h; simp at h
    · simp
theorem scanE_of {β : Type} (P : ByteArray → β → Prop) (B : ByteArray → Prop) (row : List UInt8 → Option β) (hrow : ∀ x b, row x = some b → P (toB x) b) (hbad : ∀ x, x.length < 65536 → row x = none → B (toB x)) : ∀ (m : Nat) (l : List UInt8), l.length = m → l.length ≤ 1000000 → (∀ x ∈ linesL l, x.length < 65536) → ScanE P B (toB l) (mapO (fun x => row (stripCR x)) (linesL l)) := by
  intro m
  induction m using Nat.strongRecOn with
  | _ m ih =>
    intro l hm hl hx
    by_cases c0 : l = []
    · subst c0
      rw [toB_nil]
      exact .done
    · obtain ⟨p, r, rfl, hp, hr⟩ := cut l
      have hdrop : (p ++ r).drop (p.length + 1) = r.drop 1 := by rw [← List.drop_drop, List.drop_left]
      have hls : linesL (p ++ r) = p :: linesL (r.drop 1) := by
        unfold linesL
        rcases hr with rfl | ⟨r', rfl⟩
        · rw [List.append_nil] at c0 ⊢
          rw [linesGo_end p [] hp (by simpa using c0)]
          rfl
        · rw [linesGo_app p [] r' hp]
          rfl
      rw [hls] at hx
      rw [hls]
      have h1 := hx p List.mem_cons_self
      have hline := lineC_app p r hp hr c0 h1 hl
      have hstrip : stripB ((toB (p ++ r)).extract 0 p.length) = toB (stripCR p) := by rw [ext_app]; rfl
      rw [mapO]
      cases hz : row (stripCR p) with
      | none =>
        rw [Option.bind_none]
        exact .bad hline (by rw [hstrip]; exact hbad _ (Nat.lt_of_le_of_lt (strip_len p) h1) hz)
      | some z =>
        rw [Option.bind_some]
        have hle : (r.drop 1).length < m := by
          have := List.length_pos_iff.2 c0
          rw [List.length_append] at this hm
          rw [List.length_drop]
          rcases hr with rfl | ⟨r', rfl⟩
          · simp at this ⊢; omega
          · simp at hm ⊢; omega
        have hE := ih _ hle (r.drop 1) rfl (by omega) (fun x hx2 => hx x (List.mem_cons_of_mem _ hx2))
        have e : ((mapO (fun x => row (stripCR x)) (linesL (r.drop 1))).bind fun ys => some (z :: ys)) = (mapO (fun x => row (stripCR x)) (linesL (r.drop 1))).map (z :: ·) := by
          cases mapO (fun x => row (stripCR x)) (linesL (r.drop 1)) <;> rfl
        rw [e]
        refine .row hline (by rw [hstrip]; exact hrow _ _ hz) ?_
        rw [rest_app, hdrop]
        exact hE
end Go.Proofs.YtokojamaigebaaaDoor.MtScan
