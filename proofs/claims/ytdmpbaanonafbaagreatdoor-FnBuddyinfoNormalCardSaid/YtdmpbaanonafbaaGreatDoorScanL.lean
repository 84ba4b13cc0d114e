import Derived.Test.YtdmpbaanonafbaaGreatDoorGivZ
import Derived.Test.YtdmpbaanonafbaaGreatDoorPlain
import Derived.Tactics
import Derived.Tactics2
import Derived.Deep.QuietTactic
import Derived.BigQuiet
import Derived.Lib.Hide
/- texts.Lines by hand: a line at a time, of texts whose lines are short and do not end with a carriage return. -/
namespace Go.Proofs.YtdmpbaanonafbaaGreatDoor.Scan
open Go.RowKit Go.Proofs.YtdmpbaanonafbaaGreatDoorW.PrintWords Go.Proofs.YtdmpbaanonafbaaGreatDoorW.PrintLast Go.Proofs.YtdmpbaanonafbaaGreatDoor.GivZ Go.Proofs.YtdmpbaanonafbaaGreatDoorW.PrintMore Go.Proofs.YtdmpbaanonafbaaGreatDoorPt
set_option linter.unusedVariables false
set_option linter.unusedSimpArgs false
/-- A scanner's cells. -/
def scnM (m : Nat) (t line : ByteArray) : Obj := .cells #[.string t, .string line, .int .i64 m, .nilIface] 196 (0, 0)
def scn (t line : ByteArray) : Obj := scnM 65536 t line
set_option maxHeartbeats 4000000 in
set_option maxRecDepth 100000 in
theorem newLines_is (t : ByteArray) (w : World) : Calls Tryz.prog 133 #[.string t] w fun e w' => ∃ g, e = .returned (.pointer (some ⟨g, 0, none⟩)) ∧ g = w.heap.size ∧ w'.heap[g]? = some (scn t ByteArray.empty) ∧ Below w.heap.size w w' := by
  have hu := Tryz.underlying196
  go_enter Tryz.func133, Tryz.ntmps133
  go_wp2
  go_ret
  exact ⟨w.heap.size, rfl, rfl, blk_new _ _, below_alloc (Below.refl _ _) _⟩
set_option maxHeartbeats 8000000 in
set_option maxRecDepth 100000 in
theorem scan_no (g : Nat) (line : ByteArray) (w : World) (hb : w.heap[g]? = some (scn ByteArray.empty line)) :
    Calls Tryz.prog 134 #[.pointer (some ⟨g, 0, none⟩)] w fun e w' => e = .returned (.bool false) ∧ w'.heap[g]? = some (scn ByteArray.empty ByteArray.empty) ∧ KeepBut w w' g none ∧ (∀ w0 : World, Below w0.heap.size w0 w → w0.heap.size ≤ g → Below w0.heap.size w0 w') := by
  have hu := Tryz.underlying196
  have hc0 : w.cell? ⟨g, 0, none⟩ = some (.string ByteArray.empty) := (blk_cell hb 0).trans rfl
  have hc1 : w.cell? ⟨g, 1, none⟩ = some (.string line) := (blk_cell hb 1).trans rfl
  have hc3 : w.cell? ⟨g, 3, none⟩ = some .nilIface := (blk_cell hb 3).trans rfl
  have hf1 := blk_frozen hb 1
  have HB := Aside0.mk hb
  clear hb
  go_enter Tryz.func134, Tryz.ntmps134
  go_wp2
  go_ret
  exact ⟨rfl, blk_put HB.out 1 _ rfl, (KeepBut.refl w g none).set_ 1 _, fun w0 h hg => below_set h hg⟩
theorem keep_put {w : World} {g : Nat} {t l m e : Value} {T : TypeId} (h : w.heap[g]? = some (.cells #[t, l, m, e] T (0, 0))) (u : Value) : (w.setCell ⟨g, 1, none⟩ u).heap[g]? = some (.cells #[t, u, m, e] T (0, 0)) := blk_put h 1 u rfl
set_option maxHeartbeats 16000000 in
set_option maxRecDepth 100000 in
theorem scan_yesM (m g : Nat) (t line : ByteArray) (n : Nat) (w : World) (hb : w.heap[g]? = some (scnM m t line)) (hne : 0 < t.size) (hn : n ≤ t.size) (hmost : n < m) (hbefore : ∀ (i : Nat) (h : i < t.size), i < n → ¬ ((t[i]'h).toNat : Int) = 10)
    (hend : ∀ h : n < t.size, ((t[n]'h).toNat : Int) = 10) (hcr : ∀ h : n - 1 < t.size, 0 < n → ¬ ((t[n - 1]'h).toNat : Int) = 13) (hsz : t.size ≤ 1000000) :
    Calls Tryz.prog 134 #[.pointer (some ⟨g, 0, none⟩)] w fun e w' => e = .returned (.bool true) ∧ w'.heap[g]? = some (scnM m (t.extract (min (n + 1) t.size) t.size) (t.extract 0 n)) ∧ KeepBut w w' g none ∧ (∀ w0 : World, Below w0.heap.size w0 w → w0.heap.size ≤ g → Below w0.heap.size w0 w') := by
  have hu := Tryz.underlying196
  have hc0 : w.cell? ⟨g, 0, none⟩ = some (.string t) := (blk_cell hb 0).trans rfl
  have hc1 : w.cell? ⟨g, 1, none⟩ = some (.string line) := (blk_cell hb 1).trans rfl
  have hc2 : w.cell? ⟨g, 2, none⟩ = some (.int .i64 m) := (blk_cell hb 2).trans rfl
  have hc3 : w.cell? ⟨g, 3, none⟩ = some .nilIface := (blk_cell hb 3).trans rfl
  have hf1 := blk_frozen hb 1
  have hf0 := blk_frozen hb 0
  have HB := Aside0.mk hb
  have hne2 : ¬ (t.toList = []) := by
    rw [Lib.toList_data]
    intro h
    have := len_data t
    rw [h] at this
    simp at this
    omega
  have hne3 : t.toList.isEmpty = false := by
    cases h : t.toList with
    | nil => exact absurd h hne2
    | cons _ _ => rfl
  have HBE := Lib.hid hbefore
  have HEN := Lib.hid hend
  have HCR := Lib.hid hcr
  clear hb hbefore hend hcr
  go_enter Tryz.func134, Tryz.ntmps134
  go_wp2
  go_loop [3] (fun v3 => ∃ k : Nat, v3 = .int .i64 k ∧ k ≤ n) (fun v3 => n - (intOf v3).toNat)
  case atStart => exact ⟨0, rfl, by omega⟩
  case round =>
    obtain ⟨k, rfl, hk⟩ := hrel
    by_cases hkn : k < n
    · have hkt : k < t.size := by omega
      have hx := HBE.out k hkt hkn
      go_wp2
      exact ⟨⟨k + 1, rfl, by omega⟩, by simp [intOf]; omega⟩
    · obtain rfl : k = n := by omega
      by_cases hlt : k < t.size
      · have hx := HEN.out hlt
        go_wp2
        obtain ⟨W, hW⟩ : ∃ W, W = (((w.setCell ⟨g, 1, none⟩ (.string (⟨#[]⟩ : ByteArray))).setCell ⟨g, 1, none⟩ (.string (t.extract 0 k))).setCell ⟨g, 0, none⟩ (.string (t.extract (k + 1) t.size))) := ⟨_, rfl⟩
        have hbW := Aside0.mk (show W.heap[g]? = some (scnM m (t.extract (min (k + 1) t.size) t.size) (t.extract 0 k)) by rw [hW, show min (k + 1) t.size = k + 1 by omega]; exact blk_put (cs := #[.string t, .string (t.extract 0 k), .int .i64 m, .nilIface]) (keep_put (keep_put HB.out _) _) 0 _ rfl)
        have hkW := Aside0.mk (show KeepBut w W g none by rw [hW]; exact (((KeepBut.refl w g none).set_ 1 _).set_ 1 _).set_ 0 _)
        have hBel := Aside0.mk (show ∀ w0 : World, Below w0.heap.size w0 w → w0.heap.size ≤ g → Below w0.heap.size w0 W by rw [hW]; exact fun w0 h hg => below_set (below_set (below_set h hg) hg) hg)
        rw [← hW]
        clear hW hc0 hc1 hc2 hc3 hf1 hf0
        have hl : W.cell? ⟨g, 1, none⟩ = some (.string (t.extract 0 k)) := (blk_cell hbW.out 1).trans rfl
        have hsl : (t.extract 0 k).size = k := by rw [Lib.size_eq, Lib.extract_data]; simp; omega
        have hg := Lib.hid (fun (h : k - 1 < (t.extract 0 k).size) (h0 : 0 < k) => show ¬ (((t.extract 0 k)[k - 1]'h).toNat : Int) = 13 by
          have h2 := HCR.out (by omega) h0
          have e : (t.extract 0 k)[k - 1]'h = t[k - 1]'(by omega) := by simp [ByteArray.getElem_extract]
          rw [e]; exact h2)
        generalize hR : t.extract (min (k + 1) t.size) t.size = R at hbW
        generalize hN : t.extract 0 k = ln at hbW hl hsl hg ⊢
        have HR := Lib.hid hR
        have HN := Lib.hid hN
        clear HBE HEN HCR hR hN
        by_cases k0 : k = 0
        · have hsz0 : ln.size = 0 := by omega
          have hx0 : decide ((0 : Int) < (ln.size : Int)) = false := decide_eq_false (by omega)
          try clear hx
          clear hsl hg k0 hk hkn hlt
          go_quiet (fail)
          all_goals (go_wp2)
          all_goals (go_ret; exact ⟨rfl, by rw [HR.out, HN.out]; exact hbW.out, hkW.out, fun w0 h hg => pw_below_drewN (hBel.out w0 h hg) _⟩)
        · obtain ⟨j, hj0⟩ : ∃ j, k = j + 1 := ⟨k - 1, by omega⟩
          have hj : j < ln.size := by omega
          have h13 : ¬ ((ln[j]'hj).toNat : Int) = 13 := by
            have e : k - 1 = j := by omega
            have := hg.out (by omega) (by omega)
            simp only [e] at this
            exact this
          have hsz1 : ln.size = j + 1 := by omega
          have hx0 : decide ((0 : Int) < (ln.size : Int)) = true := decide_eq_true (by omega)
          try clear hx
          have hx1 : decide (0 < ln.size) = true := decide_eq_true (by omega)
          have hjb : (j : Int) < 1000000 := by omega
          have hw0 : IntKind.i64.wrap ((j : Int) + 1 - 1) = (j : Int) := by rw [IntKind.wrap_i64]; omega
          have hw1 : IntKind.i64.wrap (((j + 1 : Nat) : Int) - 1) = (j : Int) := by rw [IntKind.wrap_i64]; omega
          have hw2 : IntKind.i64.wrap ((ln.size : Int) - 1) = (j : Int) := by rw [IntKind.wrap_i64]; omega
          have hj0' : (0 : Int) ≤ j := by omega
          have hj1 : (j : Int) < ln.size := by omega
          clear hsl hg k0 hj0 hk hkn hlt hsz1 hjb
          go_quiet (fail)
          all_goals (go_wp2)
          all_goals (go_ret; exact ⟨rfl, by rw [HR.out, HN.out]; exact hbW.out, hkW.out, fun w0 h hg => pw_below_drewN (hBel.out w0 h hg) _⟩)
      · go_wp2
        obtain ⟨W, hW⟩ : ∃ W, W = (((w.setCell ⟨g, 1, none⟩ (.string (⟨#[]⟩ : ByteArray))).setCell ⟨g, 1, none⟩ (.string (t.extract 0 k))).setCell ⟨g, 0, none⟩ (.string (t.extract k t.size))) := ⟨_, rfl⟩
        have hbW := Aside0.mk (show W.heap[g]? = some (scnM m (t.extract (min (k + 1) t.size) t.size) (t.extract 0 k)) by rw [hW, show min (k + 1) t.size = k by omega]; exact blk_put (cs := #[.string t, .string (t.extract 0 k), .int .i64 m, .nilIface]) (keep_put (keep_put HB.out _) _) 0 _ rfl)
        have hkW := Aside0.mk (show KeepBut w W g none by rw [hW]; exact (((KeepBut.refl w g none).set_ 1 _).set_ 1 _).set_ 0 _)
        have hBel := Aside0.mk (show ∀ w0 : World, Below w0.heap.size w0 w → w0.heap.size ≤ g → Below w0.heap.size w0 W by rw [hW]; exact fun w0 h hg => below_set (below_set (below_set h hg) hg) hg)
        rw [← hW]
        clear hW hc0 hc1 hc2 hc3 hf1 hf0
        have hl : W.cell? ⟨g, 1, none⟩ = some (.string (t.extract 0 k)) := (blk_cell hbW.out 1).trans rfl
        have hsl : (t.extract 0 k).size = k := by rw [Lib.size_eq, Lib.extract_data]; simp; omega
        have hg := Lib.hid (fun (h : k - 1 < (t.extract 0 k).size) (h0 : 0 < k) => show ¬ (((t.extract 0 k)[k - 1]'h).toNat : Int) = 13 by
          have h2 := HCR.out (by omega) h0
          have e : (t.extract 0 k)[k - 1]'h = t[k - 1]'(by omega) := by simp [ByteArray.getElem_extract]
          rw [e]; exact h2)
        generalize hR : t.extract (min (k + 1) t.size) t.size = R at hbW
        generalize hN : t.extract 0 k = ln at hbW hl hsl hg ⊢
        have HR := Lib.hid hR
        have HN := Lib.hid hN
        clear HBE HEN HCR hR hN
        by_cases k0 : k = 0
        · have hsz0 : ln.size = 0 := by omega
          have hx0 : decide ((0 : Int) < (ln.size : Int)) = false := decide_eq_false (by omega)
          try clear hx
          clear hsl hg k0 hk hkn hlt
          go_quiet (fail)
          all_goals (go_wp2)
          all_goals (go_ret; exact ⟨rfl, by rw [HR.out, HN.out]; exact hbW.out, hkW.out, fun w0 h hg => pw_below_drewN (hBel.out w0 h hg) _⟩)
        · obtain ⟨j, hj0⟩ : ∃ j, k = j + 1 := ⟨k - 1, by omega⟩
          have hj : j < ln.size := by omega
          have h13 : ¬ ((ln[j]'hj).toNat : Int) = 13 := by
            have e : k - 1 = j := by omega
            have := hg.out (by omega) (by omega)
            simp only [e] at this
            exact this
          have hsz1 : ln.size = j + 1 := by omega
          have hx0 : decide ((0 : Int) < (ln.size : Int)) = true := decide_eq_true (by omega)
          try clear hx
          have hx1 : decide (0 < ln.size) = true := decide_eq_true (by omega)
          have hjb : (j : Int) < 1000000 := by omega
          have hw0 : IntKind.i64.wrap ((j : Int) + 1 - 1) = (j : Int) := by rw [IntKind.wrap_i64]; omega
          have hw1 : IntKind.i64.wrap (((j + 1 : Nat) : Int) - 1) = (j : Int) := by rw [IntKind.wrap_i64]; omega
          have hw2 : IntKind.i64.wrap ((ln.size : Int) - 1) = (j : Int) := by rw [IntKind.wrap_i64]; omega
          have hj0' : (0 : Int) ≤ j := by omega
          have hj1 : (j : Int) < ln.size := by omega
          clear hsl hg k0 hj0 hk hkn hlt hsz1 hjb
          go_quiet (fail)
          all_goals (go_wp2)
          all_goals (go_ret; exact ⟨rfl, by rw [HR.out, HN.out]; exact hbW.out, hkW.out, fun w0 h hg => pw_below_drewN (hBel.out w0 h hg) _⟩)
theorem scan_yes (g : Nat) (t line : ByteArray) (n : Nat) (w : World) (hb : w.heap[g]? = some (scn t line)) (hne : 0 < t.size) (hn : n ≤ t.size) (hmost : n < 65536) (hbefore : ∀ (i : Nat) (h : i < t.size), i < n → ¬ ((t[i]'h).toNat : Int) = 10)
    (hend : ∀ h : n < t.size, ((t[n]'h).toNat : Int) = 10) (hcr : ∀ h : n - 1 < t.size, 0 < n → ¬ ((t[n - 1]'h).toNat : Int) = 13) (hsz : t.size ≤ 1000000) :
    Calls Tryz.prog 134 #[.pointer (some ⟨g, 0, none⟩)] w fun e w' => e = .returned (.bool true) ∧ w'.heap[g]? = some (scn (t.extract (min (n + 1) t.size) t.size) (t.extract 0 n)) ∧ KeepBut w w' g none ∧ (∀ w0 : World, Below w0.heap.size w0 w → w0.heap.size ≤ g → Below w0.heap.size w0 w') :=
  scan_yesM 65536 g t line n w hb hne hn hmost hbefore hend hcr hsz
set_option maxRecDepth 100000 in
theorem text_is (g : Nat) (t line : ByteArray) (w : World) (hb : w.heap[g]? = some (scn t line)) :
    Calls Tryz.prog 136 #[.pointer (some ⟨g, 0, none⟩)] w fun e w' => e = .returned (.string line) ∧ w = w' := by
  have hu := Tryz.underlying196
  have hc1 : w.cell? ⟨g, 1, none⟩ = some (.string line) := (blk_cell hb 1).trans rfl
  clear hb
  go_enter Tryz.func136, Tryz.ntmps136
  go_wp2
  go_ret
  exact ⟨rfl, rfl⟩
set_option maxRecDepth 100000 in
theorem err_is (g : Nat) (t line : ByteArray) (w : World) (hb : w.heap[g]? = some (scn t line)) :
    Calls Tryz.prog 158 #[.pointer (some ⟨g, 0, none⟩)] w fun e w' => e = .returned .nilIface ∧ w = w' := by
  have hu := Tryz.underlying196
  have hc1 : w.cell? ⟨g, 3, none⟩ = some .nilIface := (blk_cell hb 3).trans rfl
  clear hb
  go_enter Tryz.func158, Tryz.ntmps158
  go_wp2
  go_ret
  exact ⟨rfl, rfl⟩
end Go.Proofs.YtdmpbaanonafbaaGreatDoor.Scan

/- texts.Lines by hand: a whole text, line by line, as the reference cuts it. -/
set_option linter.unusedVariables false
set_option linter.unusedSimpArgs false
namespace Go.Proofs.YtdmpbaanonafbaaGreatDoor.ScanL
open Go.RowKit Go.Proofs.YtdmpbaanonafbaaGreatDoorW.PrintWords Go.Proofs.YtdmpbaanonafbaaGreatDoorW.PrintLast Go.Proofs.YtdmpbaanonafbaaGreatDoor.GivZ Go.Proofs.YtdmpbaanonafbaaGreatDoor.Scan Go.Proofs.YtdmpbaanonafbaaGreatDoorPt
structure LineAt (t : ByteArray) (n : Nat) : Prop where
  hne : 0 < t.size
  hn : n ≤ t.size
  hmost : n < 65536
  hbefore : ∀ (i : Nat) (h : i < t.size), i < n → ¬ ((t[i]'h).toNat : Int) = 10
  hend : ∀ h : n < t.size, ((t[n]'h).toNat : Int) = 10
  hcr : ∀ h : n - 1 < t.size, 0 < n → ¬ ((t[n - 1]'h).toNat : Int) = 13
  hsz : t.size ≤ 1000000
def rest (t : ByteArray) (n : Nat) : ByteArray := t.extract (min (n + 1) t.size) t.size
theorem rest_size (t : ByteArray) (n : Nat) (h : 0 < t.size) : (rest t n).size < t.size := by
  unfold rest
  rw [ByteArray.size_extract]
  omega
/-- What is read of a text, a line at a time. -/
inductive ScanRun {β : Type} (P : ByteArray → β → Prop) : ByteArray → List β → Prop
  | done : ScanRun P ByteArray.empty []
  | row {t : ByteArray} {n : Nat} {b : β} {ys : List β} : LineAt t n → P (t.extract 0 n) b → ScanRun P (rest t n) ys → ScanRun P t (b :: ys)
/-- Two lists, one by one. -/
def all2 {α β : Type} (P : α → β → Prop) : List α → List β → Prop
  | [], [] => True
  | x :: xs, y :: ys => P x y ∧ all2 P xs ys
  | _, _ => False
theorem all2_len {α β : Type} {P : α → β → Prop} : ∀ (xs : List α) (ys : List β), all2 P xs ys → xs.length = ys.length
  | [], [], _ => rfl
  | x :: xs, y :: ys, h => by simp [all2_len xs ys h.2]
  | [], _ :: _, h => h.elim
  | _ :: _, [], h => h.elim
theorem all2_mono {α β : Type} {P Q : α → β → Prop} : ∀ (xs : List α) (ys : List β), (∀ x ∈ xs, ∀ y ∈ ys, P x y → Q x y) → all2 P xs ys → all2 Q xs ys
  | [], [], _, _ => trivial
  | x :: xs, y :: ys, h, h2 => ⟨h x List.mem_cons_self y List.mem_cons_self h2.1, all2_mono xs ys (fun a ha b hb => h a (List.mem_cons_of_mem _ ha) b (List.mem_cons_of_mem _ hb)) h2.2⟩
  | [], _ :: _, _, h => h.elim
  | _ :: _, [], _, h => h.elim
theorem all2_snoc {α β : Type} {P : α → β → Prop} : ∀ (xs : List α) (ys : List β) (x : α) (y : β), all2 P xs ys → P x y → all2 P (xs ++ [x]) (ys ++ [y])
  | [], [], x, y, h, h2 => ⟨h2, trivial⟩
  | a :: xs, b :: ys, x, y, h, h2 => ⟨h.1, all2_snoc xs ys x y h.2 h2⟩
  | [], _ :: _, _, _, h, _ => h.elim
  | _ :: _, [], _, _, h, _ => h.elim
theorem lineAt_app (p r : List UInt8) (hp : ∀ b ∈ p, b ≠ 10) (hr : r = [] ∨ ∃ r', r = 10 :: r') (hne : p ++ r ≠ []) (h1 : p.length < 65536) (h2 : (p ++ r).length ≤ 1000000) (h3 : p.getLast? ≠ some 13) :
    LineAt (toB (p ++ r)) p.length := by
  have hs : (⟨(p ++ r).toArray⟩ : ByteArray).size = p.length + r.length := by simp [ByteArray.size]
  have hg : ∀ (i : Nat) (h : i < (⟨(p ++ r).toArray⟩ : ByteArray).size), (⟨(p ++ r).toArray⟩ : ByteArray)[i]'h = (p ++ r)[i]'(by rw [hs] at h; rw [List.length_append]; exact h) := fun i h => rfl
  unfold toB
  refine ⟨?_, by omega, h1, fun i h hi => ?_, fun h => ?_, fun h h0 => ?_, by rw [hs]; rw [List.length_append] at h2; exact h2⟩
  · have := List.length_pos_iff.2 hne
    rw [List.length_append] at this
    omega
  · rw [hg, List.getElem_append_left hi]
    intro he
    refine hp _ (List.getElem_mem hi) ?_
    apply UInt8.toNat_inj.1
    exact Int.ofNat.inj he
  · rw [hg, List.getElem_append_right (Nat.le_refl _)]
    rcases hr with rfl | ⟨r', rfl⟩
    · rw [hs] at h; simp at h
    · simp
  · have hlt : p.length - 1 < p.length := by omega
    rw [hg, List.getElem_append_left hlt]
    intro he
    apply h3
    rw [List.getLast?_eq_getElem?, List.getElem?_eq_getElem hlt]
    congr 1
    apply UInt8.toNat_inj.1
    exact Int.ofNat.inj he
theorem ext_app (p r : List UInt8) : (toB (p ++ r)).extract 0 p.length = toB p := by
  unfold toB
  apply ByteArray.ext
  rw [ByteArray.data_extract]
  simp
theorem rest_app (p r : List UInt8) : rest (toB (p ++ r)) p.length = toB ((p ++ r).drop (p.length + 1)) := by
  unfold rest toB
  have hs : (⟨(p ++ r).toArray⟩ : ByteArray).size = (p ++ r).length := by simp [ByteArray.size]
  apply ByteArray.ext
  rw [ByteArray.data_extract, hs]
  apply Array.toList_inj.1
  simp only [Array.toList_extract, List.extract_eq_take_drop]
  rw [show (p ++ r).length - min (p.length + 1) (p ++ r).length = ((p ++ r).drop (min (p.length + 1) (p ++ r).length)).length by rw [List.length_drop], List.take_length]
  by_cases c : p.length + 1 ≤ (p ++ r).length
  · rw [Nat.min_eq_left c]
  · rw [Nat.min_eq_right (by omega), List.drop_eq_nil_of_le (Nat.le_refl _), List.drop_eq_nil_of_le (by omega)]
theorem cut (l : List UInt8) : ∃ p r, l = p ++ r ∧ (∀ b ∈ p, b ≠ 10) ∧ (r = [] ∨ ∃ r', r = 10 :: r') := by
  induction l with
  | nil => exact ⟨[], [], rfl, fun _ h => (List.not_mem_nil h).elim, .inl rfl⟩
  | cons a l ih =>
    by_cases c : a = 10
    · exact ⟨[], a :: l, rfl, fun _ h => (List.not_mem_nil h).elim, .inr ⟨l, by rw [c]⟩⟩
    · obtain ⟨p, r, rfl, hp, hr⟩ := ih
      refine ⟨a :: p, r, rfl, fun b hb => ?_, hr⟩
      rcases List.mem_cons.1 hb with rfl | hb
      · exact c
      · exact hp b hb
theorem linesGo_app : ∀ (p cur r : List UInt8), (∀ b ∈ p, b ≠ 10) → linesGo cur (p ++ 10 :: r) = (cur ++ p) :: linesGo [] r
  | [], cur, r, _ => by rw [List.nil_append, linesGo, if_pos rfl, List.append_nil]
  | a :: p, cur, r, h => by
    rw [List.cons_append, linesGo, if_neg (h a List.mem_cons_self), linesGo_app p (cur ++ [a]) r (fun b hb => h b (List.mem_cons_of_mem _ hb))]
    simp
theorem linesGo_end : ∀ (p cur : List UInt8), (∀ b ∈ p, b ≠ 10) → cur ++ p ≠ [] → linesGo cur p = [cur ++ p]
  | [], cur, _, h => by
    rw [List.append_nil] at h ⊢
    rw [linesGo, if_neg (by simpa using h)]
  | a :: p, cur, h, h2 => by
    rw [linesGo, if_neg (h a List.mem_cons_self), linesGo_end p (cur ++ [a]) (fun b hb => h b (List.mem_cons_of_mem _ hb)) (by simp)]
    simp
theorem scan_of {β : Type} (P : ByteArray → β → Prop) : ∀ (m : Nat) (l : List UInt8) (zs : List β), l.length = m → l.length ≤ 1000000 → (∀ x ∈ linesL l, x.length < 65536 ∧ x.getLast? ≠ some 13) → all2 (fun x b => P (toB x) b) (linesL l) zs → ScanRun P (toB l) zs := by
  intro m
  induction m using Nat.strongRecOn with
  | _ m ih =>
    intro l zs hm hl hx ha
    by_cases c0 : l = []
    · subst c0
      cases zs with
      | nil => rw [toB_nil]; exact .done
      | cons z zs => exact ha.elim
    · obtain ⟨p, r, rfl, hp, hr⟩ := cut l
      have hdrop : (p ++ r).drop (p.length + 1) = r.drop 1 := by rw [← List.drop_drop, List.drop_left]
      have hls : linesL (p ++ r) = p :: linesL (r.drop 1) := by
        unfold linesL
        rcases hr with rfl | ⟨r', rfl⟩
        · rw [List.append_nil] at c0 ⊢
          rw [linesGo_end p [] hp (by simpa using c0)]
          rfl
        · rw [linesGo_app p [] r' hp]
          rfl
      rw [hls] at hx ha
      obtain ⟨h1, h3⟩ := hx p List.mem_cons_self
      cases zs with
      | nil => exact ha.elim
      | cons z zs =>
        obtain ⟨hz, ha⟩ := ha
        refine .row (lineAt_app p r hp hr c0 h1 hl h3) (by rw [ext_app]; exact hz) ?_
        rw [rest_app, hdrop]
        have hle : (r.drop 1).length < m := by
          have := List.length_pos_iff.2 c0
          rw [List.length_append] at this hm
          rw [List.length_drop]
          rcases hr with rfl | ⟨r', rfl⟩
          · simp at this ⊢; omega
          · simp at hm ⊢; omega
        exact ih _ hle (r.drop 1) zs rfl (by omega) (fun x hx2 => hx x (List.mem_cons_of_mem _ hx2)) ha
/-- A function on each of a list; none where one answers none. -/
def mapO {α β : Type} (f : α → Option β) : List α → Option (List β)
  | [] => some []
  | x :: xs => (f x).bind fun y => (mapO f xs).bind fun ys => some (y :: ys)
theorem mapO_all2 {α β : Type} {f : α → Option β} : ∀ (xs : List α) (ys : List β), mapO f xs = some ys → all2 (fun x y => f x = some y) xs ys
  | [], ys, h => by
    obtain rfl := Option.some.inj h
    trivial
  | x :: xs, ys, h => by
    rw [mapO] at h
    obtain ⟨y, hy, h⟩ := Option.bind_eq_some_iff.1 h
    obtain ⟨zs, hz, h⟩ := Option.bind_eq_some_iff.1 h
    obtain rfl := Option.some.inj h
    exact ⟨hy, mapO_all2 xs zs hz⟩
theorem all2_get {α β : Type} {P : α → β → Prop} (a : α) (b : β) : ∀ (xs : List α) (ys : List β), all2 P xs ys → ∀ i, i < xs.length → P (xs.getD i a) (ys.getD i b)
  | [], _, _, i, h => by simp at h
  | x :: xs, y :: ys, h, 0, _ => by simpa using h.1
  | x :: xs, y :: ys, h, i + 1, hi => by simpa using all2_get a b xs ys h.2 i (by simpa using hi)
  | _ :: _, [], h, _, _ => h.elim
/-- A text's lines are short, and none ends with a carriage return. -/
def fits (l : List UInt8) : Bool := decide (l.length ≤ 1000000) && (linesL l).all fun x => decide (x.length < 65536) && (x.getLast? != some 13)
/-- What is read of a text, a line at a time, as a function. -/
def runO {β : Type} (row : List UInt8 → Option β) (l : List UInt8) : Option (List β) := if fits l = true then mapO row (linesL l) else none
theorem fits_lines {l : List UInt8} (h : fits l = true) : l.length ≤ 1000000 ∧ ∀ x ∈ linesL l, x.length < 65536 ∧ x.getLast? ≠ some 13 := by
  unfold fits at h
  rw [Bool.and_eq_true] at h
  refine ⟨by simpa using h.1, fun x hx => ?_⟩
  have := List.all_eq_true.1 h.2 x hx
  simpa using this
theorem fits_of {l : List UInt8} (h1 : l.length ≤ 1000000) (h2 : ∀ x ∈ linesL l, x.length < 65536 ∧ x.getLast? ≠ some 13) : fits l = true := by
  unfold fits
  rw [Bool.and_eq_true]
  refine ⟨by simpa using h1, List.all_eq_true.2 fun x hx => ?_⟩
  have := h2 x hx
  simpa using this
theorem runO_scan {β : Type} (P : ByteArray → β → Prop) (row : List UInt8 → Option β) (hrow : ∀ x b, row x = some b → P (toB x) b) (l : List UInt8) (zs : List β) (h : runO row l = some zs) : ScanRun P (toB l) zs := by
  unfold runO at h
  by_cases c : fits l = true
  · rw [if_pos c] at h
    obtain ⟨h1, h2⟩ := fits_lines c
    exact scan_of P l.length l zs rfl h1 h2 (all2_mono _ _ (fun x _ b _ h => hrow x b h) (mapO_all2 _ _ h))
  · rw [if_neg c] at h; cases h
end Go.Proofs.YtdmpbaanonafbaaGreatDoor.ScanL
