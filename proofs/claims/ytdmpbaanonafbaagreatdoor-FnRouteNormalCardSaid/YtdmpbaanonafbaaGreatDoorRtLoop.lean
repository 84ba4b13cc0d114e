import Derived.Test.YtdmpbaanonafbaaGreatDoorGivZ
import Derived.Test.YtdmpbaanonafbaaGreatDoorPlain
import Derived.Tactics
import Derived.Tactics2
import Derived.Deep.QuietTactic
import Derived.BigQuiet
import Derived.Lib.Hide
import Derived.Test.YtdmpbaanonafbaaGreatDoorGivPW
import Derived.Test.YtdmpbaanonafbaaGreatDoorO1
import Derived.Deep.LoopGhost
/- texts.Lines by hand: a line at a time, of texts whose lines are short and do not end with a carriage return. -/
namespace Go.Proofs.YtdmpbaanonafbaaGreatDoor.Scan
open Go.RowKit Go.Proofs.YtdmpbaanonafbaaGreatDoorW.PrintWords Go.Proofs.YtdmpbaanonafbaaGreatDoorW.PrintLast Go.Proofs.YtdmpbaanonafbaaGreatDoor.GivZ Go.Proofs.YtdmpbaanonafbaaGreatDoorW.PrintMore Go.Proofs.YtdmpbaanonafbaaGreatDoorPt
set_option linter.unusedVariables false
set_option linter.unusedSimpArgs false
/-- A scanner's cells. -/
def scnM (m : Nat) (t line : ByteArray) : Obj := .cells #[.string t, .string line, .int .i64 m, .nilIface] 196 (0, 0)
def scn (t line : ByteArray) : Obj := scnM 65536 t line
set_option maxHeartbeats 4000000 in
set_option maxRecDepth 100000 in
theorem newLines_is (t : ByteArray) (w : World) : Calls Tryz.prog 133 #[.string t] w fun e w' => ∃ g, e = .returned (.pointer (some ⟨g, 0, none⟩)) ∧ g = w.heap.size ∧ w'.heap[g]? = some (scn t ByteArray.empty) ∧ Below w.heap.size w w' := by
  have hu := Tryz.underlying196
  go_enter Tryz.func133, Tryz.ntmps133
  go_wp2
  go_ret
  exact ⟨w.heap.size, rfl, rfl, blk_new _ _, below_alloc (Below.refl _ _) _⟩
set_option maxHeartbeats 8000000 in
set_option maxRecDepth 100000 in
theorem scan_no (g : Nat) (line : ByteArray) (w : World) (hb : w.heap[g]? = some (scn ByteArray.empty line)) :
    Calls Tryz.prog 134 #[.pointer (some ⟨g, 0, none⟩)] w fun e w' => e = .returned (.bool false) ∧ w'.heap[g]? = some (scn ByteArray.empty ByteArray.empty) ∧ KeepBut w w' g none ∧ (∀ w0 : World, Below w0.heap.size w0 w → w0.heap.size ≤ g → Below w0.heap.size w0 w') := by
  have hu := Tryz.underlying196
  have hc0 : w.cell? ⟨g, 0, none⟩ = some (.string ByteArray.empty) := (blk_cell hb 0).trans rfl
  have hc1 : w.cell? ⟨g, 1, none⟩ = some (.string line) := (blk_cell hb 1).trans rfl
  have hc3 : w.cell? ⟨g, 3, none⟩ = some .nilIface := (blk_cell hb 3).trans rfl
  have hf1 := blk_frozen hb 1
  have HB := Aside0.mk hb
  clear hb
  go_enter Tryz.func134, Tryz.ntmps134
  go_wp2
  go_ret
  exact ⟨rfl, blk_put HB.out 1 _ rfl, (KeepBut.refl w g none).set_ 1 _, fun w0 h hg => below_set h hg⟩
theorem keep_put {w : World} {g : Nat} {t l m e : Value} {T : TypeId} (h : w.heap[g]? = some (.cells #[t, l, m, e] T (0, 0))) (u : Value) : (w.setCell ⟨g, 1, none⟩ u).heap[g]? = some (.cells #[t, u, m, e] T (0, 0)) := blk_put h 1 u rfl
set_option maxHeartbeats 16000000 in
set_option maxRecDepth 100000 in
theorem scan_yesM (m g : Nat) (t line : ByteArray) (n : Nat) (w : World) (hb : w.heap[g]? = some (scnM m t line)) (hne : 0 < t.size) (hn : n ≤ t.size) (hmost : n < m) (hbefore : ∀ (i : Nat) (h : i < t.size), i < n → ¬ ((t[i]'h).toNat : Int) = 10)
    (hend : ∀ h : n < t.size, ((t[n]'h).toNat : Int) = 10) (hcr : ∀ h : n - 1 < t.size, 0 < n → ¬ ((t[n - 1]'h).toNat : Int) = 13) (hsz : t.size ≤ 1000000) :
    Calls Tryz.prog 134 #[.pointer (some ⟨g, 0, none⟩)] w fun e w' => e = .returned (.bool true) ∧ w'.heap[g]? = some (scnM m (t.extract (min (n + 1) t.size) t.size) (t.extract 0 n)) ∧ KeepBut w w' g none ∧ (∀ w0 : World, Below w0.heap.size w0 w → w0.heap.size ≤ g → Below w0.heap.size w0 w') := by
  have hu := Tryz.underlying196
  have hc0 : w.cell? ⟨g, 0, none⟩ = some (.string t) := (blk_cell hb 0).trans rfl
  have hc1 : w.cell? ⟨g, 1, none⟩ = some (.string line) := (blk_cell hb 1).trans rfl
  have hc2 : w.cell? ⟨g, 2, none⟩ = some (.int .i64 m) := (blk_cell hb 2).trans rfl
  have hc3 : w.cell? ⟨g, 3, none⟩ = some .nilIface := (blk_cell hb 3).trans rfl
  have hf1 := blk_frozen hb 1
  have hf0 := blk_frozen hb 0
  have HB := Aside0.mk hb
  have hne2 : ¬ (t.toList = []) := by
    rw [Lib.toList_data]
    intro h
    have := len_data t
    rw [h] at this
    simp at this
    omega
  have hne3 : t.toList.isEmpty = false := by
    cases h : t.toList with
    | nil => exact absurd h hne2
    | cons _ _ => rfl
  have HBE := Lib.hid hbefore
  have HEN := Lib.hid hend
  have HCR := Lib.hid hcr
  clear hb hbefore hend hcr
  go_enter Tryz.func134, Tryz.ntmps134
  go_wp2
  go_loop [3] (fun v3 => ∃ k : Nat, v3 = .int .i64 k ∧ k ≤ n) (fun v3 => n - (intOf v3).toNat)
  case atStart => exact ⟨0, rfl, by omega⟩
  case round =>
    obtain ⟨k, rfl, hk⟩ := hrel
    by_cases hkn : k < n
    · have hkt : k < t.size := by omega
      have hx := HBE.out k hkt hkn
      go_wp2
      exact ⟨⟨k + 1, rfl, by omega⟩, by simp [intOf]; omega⟩
    · obtain rfl : k = n := by omega
      by_cases hlt : k < t.size
      · have hx := HEN.out hlt
        go_wp2
        obtain ⟨W, hW⟩ : ∃ W, W = (((w.setCell ⟨g, 1, none⟩ (.string (⟨#[]⟩ : ByteArray))).setCell ⟨g, 1, none⟩ (.string (t.extract 0 k))).setCell ⟨g, 0, none⟩ (.string (t.extract (k + 1) t.size))) := ⟨_, rfl⟩
        have hbW := Aside0.mk (show W.heap[g]? = some (scnM m (t.extract (min (k + 1) t.size) t.size) (t.extract 0 k)) by rw [hW, show min (k + 1) t.size = k + 1 by omega]; exact blk_put (cs := #[.string t, .string (t.extract 0 k), .int .i64 m, .nilIface]) (keep_put (keep_put HB.out _) _) 0 _ rfl)
        have hkW := Aside0.mk (show KeepBut w W g none by rw [hW]; exact (((KeepBut.refl w g none).set_ 1 _).set_ 1 _).set_ 0 _)
        have hBel := Aside0.mk (show ∀ w0 : World, Below w0.heap.size w0 w → w0.heap.size ≤ g → Below w0.heap.size w0 W by rw [hW]; exact fun w0 h hg => below_set (below_set (below_set h hg) hg) hg)
        rw [← hW]
        clear hW hc0 hc1 hc2 hc3 hf1 hf0
        have hl : W.cell? ⟨g, 1, none⟩ = some (.string (t.extract 0 k)) := (blk_cell hbW.out 1).trans rfl
        have hsl : (t.extract 0 k).size = k := by rw [Lib.size_eq, Lib.extract_data]; simp; omega
        have hg := Lib.hid (fun (h : k - 1 < (t.extract 0 k).size) (h0 : 0 < k) => show ¬ (((t.extract 0 k)[k - 1]'h).toNat : Int) = 13 by
          have h2 := HCR.out (by omega) h0
          have e : (t.extract 0 k)[k - 1]'h = t[k - 1]'(by omega) := by simp [ByteArray.getElem_extract]
          rw [e]; exact h2)
        generalize hR : t.extract (min (k + 1) t.size) t.size = R at hbW
        generalize hN : t.extract 0 k = ln at hbW hl hsl hg ⊢
        have HR := Lib.hid hR
        have HN := Lib.hid hN
        clear HBE HEN HCR hR hN
        by_cases k0 : k = 0
        · have hsz0 : ln.size = 0 := by omega
          have hx0 : decide ((0 : Int) < (ln.size : Int)) = false := decide_eq_false (by omega)
          try clear hx
          clear hsl hg k0 hk hkn hlt
          go_quiet (fail)
          all_goals (go_wp2)
          all_goals (go_ret; exact ⟨rfl, by rw [HR.out, HN.out]; exact hbW.out, hkW.out, fun w0 h hg => pw_below_drewN (hBel.out w0 h hg) _⟩)
        · obtain ⟨j, hj0⟩ : ∃ j, k = j + 1 := ⟨k - 1, by omega⟩
          have hj : j < ln.size := by omega
          have h13 : ¬ ((ln[j]'hj).toNat : Int) = 13 := by
            have e : k - 1 = j := by omega
            have := hg.out (by omega) (by omega)
            simp only [e] at this
            exact this
          have hsz1 : ln.size = j + 1 := by omega
          have hx0 : decide ((0 : Int) < (ln.size : Int)) = true := decide_eq_true (by omega)
          try clear hx
          have hx1 : decide (0 < ln.size) = true := decide_eq_true (by omega)
          have hjb : (j : Int) < 1000000 := by omega
          have hw0 : IntKind.i64.wrap ((j : Int) + 1 - 1) = (j : Int) := by rw [IntKind.wrap_i64]; omega
          have hw1 : IntKind.i64.wrap (((j + 1 : Nat) : Int) - 1) = (j : Int) := by rw [IntKind.wrap_i64]; omega
          have hw2 : IntKind.i64.wrap ((ln.size : Int) - 1) = (j : Int) := by rw [IntKind.wrap_i64]; omega
          have hj0' : (0 : Int) ≤ j := by omega
          have hj1 : (j : Int) < ln.size := by omega
          clear hsl hg k0 hj0 hk hkn hlt hsz1 hjb
          go_quiet (fail)
          all_goals (go_wp2)
          all_goals (go_ret; exact ⟨rfl, by rw [HR.out, HN.out]; exact hbW.out, hkW.out, fun w0 h hg => pw_below_drewN (hBel.out w0 h hg) _⟩)
      · go_wp2
        obtain ⟨W, hW⟩ : ∃ W, W = (((w.setCell ⟨g, 1, none⟩ (.string (⟨#[]⟩ : ByteArray))).setCell ⟨g, 1, none⟩ (.string (t.extract 0 k))).setCell ⟨g, 0, none⟩ (.string (t.extract k t.size))) := ⟨_, rfl⟩
        have hbW := Aside0.mk (show W.heap[g]? = some (scnM m (t.extract (min (k + 1) t.size) t.size) (t.extract 0 k)) by rw [hW, show min (k + 1) t.size = k by omega]; exact blk_put (cs := #[.string t, .string (t.extract 0 k), .int .i64 m, .nilIface]) (keep_put (keep_put HB.out _) _) 0 _ rfl)
        have hkW := Aside0.mk (show KeepBut w W g none by rw [hW]; exact (((KeepBut.refl w g none).set_ 1 _).set_ 1 _).set_ 0 _)
        have hBel := Aside0.mk (show ∀ w0 : World, Below w0.heap.size w0 w → w0.heap.size ≤ g → Below w0.heap.size w0 W by rw [hW]; exact fun w0 h hg => below_set (below_set (below_set h hg) hg) hg)
        rw [← hW]
        clear hW hc0 hc1 hc2 hc3 hf1 hf0
        have hl : W.cell? ⟨g, 1, none⟩ = some (.string (t.extract 0 k)) := (blk_cell hbW.out 1).trans rfl
        have hsl : (t.extract 0 k).size = k := by rw [Lib.size_eq, Lib.extract_data]; simp; omega
        have hg := Lib.hid (fun (h : k - 1 < (t.extract 0 k).size) (h0 : 0 < k) => show ¬ (((t.extract 0 k)[k - 1]'h).toNat : Int) = 13 by
          have h2 := HCR.out (by omega) h0
          have e : (t.extract 0 k)[k - 1]'h = t[k - 1]'(by omega) := by simp [ByteArray.getElem_extract]
          rw [e]; exact h2)
        generalize hR : t.extract (min (k + 1) t.size) t.size = R at hbW
        generalize hN : t.extract 0 k = ln at hbW hl hsl hg ⊢
        have HR := Lib.hid hR
        have HN := Lib.hid hN
        clear HBE HEN HCR hR hN
        by_cases k0 : k = 0
        · have hsz0 : ln.size = 0 := by omega
          have hx0 : decide ((0 : Int) < (ln.size : Int)) = false := decide_eq_false (by omega)
          try clear hx
          clear hsl hg k0 hk hkn hlt
          go_quiet (fail)
          all_goals (go_wp2)
          all_goals (go_ret; exact ⟨rfl, by rw [HR.out, HN.out]; exact hbW.out, hkW.out, fun w0 h hg => pw_below_drewN (hBel.out w0 h hg) _⟩)
        · obtain ⟨j, hj0⟩ : ∃ j, k = j + 1 := ⟨k - 1, by omega⟩
          have hj : j < ln.size := by omega
          have h13 : ¬ ((ln[j]'hj).toNat : Int) = 13 := by
            have e : k - 1 = j := by omega
            have := hg.out (by omega) (by omega)
            simp only [e] at this
            exact this
          have hsz1 : ln.size = j + 1 := by omega
          have hx0 : decide ((0 : Int) < (ln.size : Int)) = true := decide_eq_true (by omega)
          try clear hx
          have hx1 : decide (0 < ln.size) = true := decide_eq_true (by omega)
          have hjb : (j : Int) < 1000000 := by omega
          have hw0 : IntKind.i64.wrap ((j : Int) + 1 - 1) = (j : Int) := by rw [IntKind.wrap_i64]; omega
          have hw1 : IntKind.i64.wrap (((j + 1 : Nat) : Int) - 1) = (j : Int) := by rw [IntKind.wrap_i64]; omega
          have hw2 : IntKind.i64.wrap ((ln.size : Int) - 1) = (j : Int) := by rw [IntKind.wrap_i64]; omega
          have hj0' : (0 : Int) ≤ j := by omega
          have hj1 : (j : Int) < ln.size := by omega
          clear hsl hg k0 hj0 hk hkn hlt hsz1 hjb
          go_quiet (fail)
          all_goals (go_wp2)
          all_goals (go_ret; exact ⟨rfl, by rw [HR.out, HN.out]; exact hbW.out, hkW.out, fun w0 h hg => pw_below_drewN (hBel.out w0 h hg) _⟩)
theorem scan_yes (g : Nat) (t line : ByteArray) (n : Nat) (w : World) (hb : w.heap[g]? = some (scn t line)) (hne : 0 < t.size) (hn : n ≤ t.size) (hmost : n < 65536) (hbefore : ∀ (i : Nat) (h : i < t.size), i < n → ¬ ((t[i]'h).toNat : Int) = 10)
    (hend : ∀ h : n < t.size, ((t[n]'h).toNat : Int) = 10) (hcr : ∀ h : n - 1 < t.size, 0 < n → ¬ ((t[n - 1]'h).toNat : Int) = 13) (hsz : t.size ≤ 1000000) :
    Calls Tryz.prog 134 #[.pointer (some ⟨g, 0, none⟩)] w fun e w' => e = .returned (.bool true) ∧ w'.heap[g]? = some (scn (t.extract (min (n + 1) t.size) t.size) (t.extract 0 n)) ∧ KeepBut w w' g none ∧ (∀ w0 : World, Below w0.heap.size w0 w → w0.heap.size ≤ g → Below w0.heap.size w0 w') :=
  scan_yesM 65536 g t line n w hb hne hn hmost hbefore hend hcr hsz
set_option maxRecDepth 100000 in
theorem text_is (g : Nat) (t line : ByteArray) (w : World) (hb : w.heap[g]? = some (scn t line)) :
    Calls Tryz.prog 136 #[.pointer (some ⟨g, 0, none⟩)] w fun e w' => e = .returned (.string line) ∧ w = w' := by
  have hu := Tryz.underlying196
  have hc1 : w.cell? ⟨g, 1, none⟩ = some (.string line) := (blk_cell hb 1).trans rfl
  clear hb
  go_enter Tryz.func136, Tryz.ntmps136
  go_wp2
  go_ret
  exact ⟨rfl, rfl⟩
end Go.Proofs.YtdmpbaanonafbaaGreatDoor.Scan

/- texts.Lines by hand: a whole text, line by line, as the reference cuts it. -/
set_option linter.unusedVariables false
set_option linter.unusedSimpArgs false
namespace Go.Proofs.YtdmpbaanonafbaaGreatDoor.ScanL
open Go.RowKit Go.Proofs.YtdmpbaanonafbaaGreatDoorW.PrintWords Go.Proofs.YtdmpbaanonafbaaGreatDoorW.PrintLast Go.Proofs.YtdmpbaanonafbaaGreatDoor.GivZ Go.Proofs.YtdmpbaanonafbaaGreatDoor.Scan Go.Proofs.YtdmpbaanonafbaaGreatDoorPt
structure LineAt (t : ByteArray) (n : Nat) : Prop where
  hne : 0 < t.size
  hn : n ≤ t.size
  hmost : n < 65536
  hbefore : ∀ (i : Nat) (h : i < t.size), i < n → ¬ ((t[i]'h).toNat : Int) = 10
  hend : ∀ h : n < t.size, ((t[n]'h).toNat : Int) = 10
  hcr : ∀ h : n - 1 < t.size, 0 < n → ¬ ((t[n - 1]'h).toNat : Int) = 13
  hsz : t.size ≤ 1000000
def rest (t : ByteArray) (n : Nat) : ByteArray := t.extract (min (n + 1) t.size) t.size
theorem rest_size (t : ByteArray) (n : Nat) (h : 0 < t.size) : (rest t n).size < t.size := by
  unfold rest
  rw [ByteArray.size_extract]
  omega
/-- What is read of a text, a line at a time. -/
inductive ScanRun {β : Type} (P : ByteArray → β → Prop) : ByteArray → List β → Prop
  | done : ScanRun P ByteArray.empty []
  | row {t : ByteArray} {n : Nat} {b : β} {ys : List β} : LineAt t n → P (t.extract 0 n) b → ScanRun P (rest t n) ys → ScanRun P t (b :: ys)
/-- Two lists, one by one. -/
def all2 {α β : Type} (P : α → β → Prop) : List α → List β → Prop
  | [], [] => True
  | x :: xs, y :: ys => P x y ∧ all2 P xs ys
  | _, _ => False
theorem all2_len {α β : Type} {P : α → β → Prop} : ∀ (xs : List α) (ys : List β), all2 P xs ys → xs.length = ys.length
  | [], [], _ => rfl
  | x :: xs, y :: ys, h => by simp [all2_len xs ys h.2]
  | [], _ :: _, h => h.elim
  | _ :: _, [], h => h.elim
theorem all2_mono {α β : Type} {P Q : α → β → Prop} : ∀ (xs : List α) (ys : List β), (∀ x ∈ xs, ∀ y ∈ ys, P x y → Q x y) → all2 P xs ys → all2 Q xs ys
  | [], [], _, _ => trivial
  | x :: xs, y :: ys, h, h2 => ⟨h x List.mem_cons_self y List.mem_cons_self h2.1, all2_mono xs ys (fun a ha b hb => h a (List.mem_cons_of_mem _ ha) b (List.mem_cons_of_mem _ hb)) h2.2⟩
  | [], _ :: _, _, h => h.elim
  | _ :: _, [], _, h => h.elim
theorem all2_snoc {α β : Type} {P : α → β → Prop} : ∀ (xs : List α) (ys : List β) (x : α) (y : β), all2 P xs ys → P x y → all2 P (xs ++ [x]) (ys ++ [y])
  | [], [], x, y, h, h2 => ⟨h2, trivial⟩
  | a :: xs, b :: ys, x, y, h, h2 => ⟨h.1, all2_snoc xs ys x y h.2 h2⟩
  | [], _ :: _, _, _, h, _ => h.elim
  | _ :: _, [], _, _, h, _ => h.elim
theorem lineAt_app (p r : List UInt8) (hp : ∀ b ∈ p, b ≠ 10) (hr : r = [] ∨ ∃ r', r = 10 :: r') (hne : p ++ r ≠ []) (h1 : p.length < 65536) (h2 : (p ++ r).length ≤ 1000000) (h3 : p.getLast? ≠ some 13) :
    LineAt (toB (p ++ r)) p.length := by
  have hs : (⟨(p ++ r).toArray⟩ : ByteArray).size = p.length + r.length := by simp [ByteArray.size]
  have hg : ∀ (i : Nat) (h : i < (⟨(p ++ r).toArray⟩ : ByteArray).size), (⟨(p ++ r).toArray⟩ : ByteArray)[i]'h = (p ++ r)[i]'(by rw [hs] at h; rw [List.length_append]; exact h) := fun i h => rfl
  unfold toB
  refine ⟨?_, by omega, h1, fun i h hi => ?_, fun h => ?_, fun h h0 => ?_, by rw [hs]; rw [List.length_append] at h2; exact h2⟩
  · have := List.length_pos_iff.2 hne
    rw [List.length_append] at this
    omega
  · rw [hg, List.getElem_append_left hi]
    intro he
    refine hp _ (List.getElem_mem hi) ?_
    apply UInt8.toNat_inj.1
    exact Int.ofNat.inj he
  · rw [hg, List.getElem_append_right (Nat.le_refl _)]
    rcases hr with rfl | ⟨r', rfl⟩
    · rw [hs] at h; simp at h
    · simp
  · have hlt : p.length - 1 < p.length := by omega
    rw [hg, List.getElem_append_left hlt]
    intro he
    apply h3
    rw [List.getLast?_eq_getElem?, List.getElem?_eq_getElem hlt]
    congr 1
    apply UInt8.toNat_inj.1
    exact Int.ofNat.inj he
theorem ext_app (p r : List UInt8) : (toB (p ++ r)).extract 0 p.length = toB p := by
  unfold toB
  apply ByteArray.ext
  rw [ByteArray.data_extract]
  simp
theorem rest_app (p r : List UInt8) : rest (toB (p ++ r)) p.length = toB ((p ++ r).drop (p.length + 1)) := by
  unfold rest toB
  have hs : (⟨(p ++ r).toArray⟩ : ByteArray).size = (p ++ r).length := by simp [ByteArray.size]
  apply ByteArray.ext
  rw [ByteArray.data_extract, hs]
  apply Array.toList_inj.1
  simp only [Array.toList_extract, List.extract_eq_take_drop]
  rw [show (p ++ r).length - min (p.length + 1) (p ++ r).length = ((p ++ r).drop (min (p.length + 1) (p ++ r).length)).length by rw [List.length_drop], List.take_length]
  by_cases c : p.length + 1 ≤ (p ++ r).length
  · rw [Nat.min_eq_left c]
  · rw [Nat.min_eq_right (by omega), List.drop_eq_nil_of_le (Nat.le_refl _), List.drop_eq_nil_of_le (by omega)]
theorem cut (l : List UInt8) : ∃ p r, l = p ++ r ∧ (∀ b ∈ p, b ≠ 10) ∧ (r = [] ∨ ∃ r', r = 10 :: r') := by
  induction l with
  | nil => exact ⟨[], [], rfl, fun _ h => (List.not_mem_nil h).elim, .inl rfl⟩
  | cons a l ih =>
    by_cases c : a = 10
    · exact ⟨[], a :: l, rfl, fun _ h => (List.not_mem_nil h).elim, .inr ⟨l, by rw [c]⟩⟩
    · obtain ⟨p, r, rfl, hp, hr⟩ := ih
      refine ⟨a :: p, r, rfl, fun b hb => ?_, hr⟩
      rcases List.mem_cons.1 hb with rfl | hb
      · exact c
      · exact hp b hb
theorem linesGo_app : ∀ (p cur r : List UInt8), (∀ b ∈ p, b ≠ 10) → linesGo cur (p ++ 10 :: r) = (cur ++ p) :: linesGo [] r
  | [], cur, r, _ => by rw [List.nil_append, linesGo, if_pos rfl, List.append_nil]
  | a :: p, cur, r, h => by
    rw [List.cons_append, linesGo, if_neg (h a List.mem_cons_self), linesGo_app p (cur ++ [a]) r (fun b hb => h b (List.mem_cons_of_mem _ hb))]
    simp
theorem linesGo_end : ∀ (p cur : List UInt8), (∀ b ∈ p, b ≠ 10) → cur ++ p ≠ [] → linesGo cur p = [cur ++ p]
  | [], cur, _, h => by
    rw [List.append_nil] at h ⊢
    rw [linesGo, if_neg (by simpa using h)]
  | a :: p, cur, h, h2 => by
    rw [linesGo, if_neg (h a List.mem_cons_self), linesGo_end p (cur ++ [a]) (fun b hb => h b (List.mem_cons_of_mem _ hb)) (by simp)]
    simp
/-- Lines, each with its line feed, are cut into these lines. -/
theorem lines_flat : ∀ (ls : List (List UInt8)), (∀ x ∈ ls, ∀ b ∈ x, b ≠ 10) → linesL (ls.flatMap fun x => x ++ [10]) = ls
  | [], _ => rfl
  | x :: ls, h => by
    have ih := lines_flat ls (fun y hy => h y (List.mem_cons_of_mem _ hy))
    unfold linesL at ih ⊢
    rw [List.flatMap_cons, List.append_assoc, List.singleton_append, linesGo_app x [] _ (h x List.mem_cons_self), ih]
    rfl
theorem scan_of {β : Type} (P : ByteArray → β → Prop) : ∀ (m : Nat) (l : List UInt8) (zs : List β), l.length = m → l.length ≤ 1000000 → (∀ x ∈ linesL l, x.length < 65536 ∧ x.getLast? ≠ some 13) → all2 (fun x b => P (toB x) b) (linesL l) zs → ScanRun P (toB l) zs := by
  intro m
  induction m using Nat.strongRecOn with
  | _ m ih =>
    intro l zs hm hl hx ha
    by_cases c0 : l = []
    · subst c0
      cases zs with
      | nil => rw [toB_nil]; exact .done
      | cons z zs => exact ha.elim
    · obtain ⟨p, r, rfl, hp, hr⟩ := cut l
      have hdrop : (p ++ r).drop (p.length + 1) = r.drop 1 := by rw [← List.drop_drop, List.drop_left]
      have hls : linesL (p ++ r) = p :: linesL (r.drop 1) := by
        unfold linesL
        rcases hr with rfl | ⟨r', rfl⟩
        · rw [List.append_nil] at c0 ⊢
          rw [linesGo_end p [] hp (by simpa using c0)]
          rfl
        · rw [linesGo_app p [] r' hp]
          rfl
      rw [hls] at hx ha
      obtain ⟨h1, h3⟩ := hx p List.mem_cons_self
      cases zs with
      | nil => exact ha.elim
      | cons z zs =>
        obtain ⟨hz, ha⟩ := ha
        refine .row (lineAt_app p r hp hr c0 h1 hl h3) (by rw [ext_app]; exact hz) ?_
        rw [rest_app, hdrop]
        have hle : (r.drop 1).length < m := by
          have := List.length_pos_iff.2 c0
          rw [List.length_append] at this hm
          rw [List.length_drop]
          rcases hr with rfl | ⟨r', rfl⟩
          · simp at this ⊢; omega
          · simp at hm ⊢; omega
        exact ih _ hle (r.drop 1) zs rfl (by omega) (fun x hx2 => hx x (List.mem_cons_of_mem _ hx2)) ha
/-- A function on each of a list; none where one answers none. -/
def mapO {α β : Type} (f : α → Option β) : List α → Option (List β)
  | [] => some []
  | x :: xs => (f x).bind fun y => (mapO f xs).bind fun ys => some (y :: ys)
theorem mapO_all2 {α β : Type} {f : α → Option β} : ∀ (xs : List α) (ys : List β), mapO f xs = some ys → all2 (fun x y => f x = some y) xs ys
  | [], ys, h => by
    obtain rfl := Option.some.inj h
    trivial
  | x :: xs, ys, h => by
    rw [mapO] at h
    obtain ⟨y, hy, h⟩ := Option.bind_eq_some_iff.1 h
    obtain ⟨zs, hz, h⟩ := Option.bind_eq_some_iff.1 h
    obtain rfl := Option.some.inj h
    exact ⟨hy, mapO_all2 xs zs hz⟩
theorem mapO_of {α β : Type} {f : α → Option β} : ∀ (xs : List α) (ys : List β), all2 (fun x y => f x = some y) xs ys → mapO f xs = some ys
  | [], [], _ => rfl
  | x :: xs, y :: ys, h => by rw [mapO, h.1, mapO_of xs ys h.2]; rfl
  | [], _ :: _, h => h.elim
  | _ :: _, [], h => h.elim
theorem all2_get {α β : Type} {P : α → β → Prop} (a : α) (b : β) : ∀ (xs : List α) (ys : List β), all2 P xs ys → ∀ i, i < xs.length → P (xs.getD i a) (ys.getD i b)
  | [], _, _, i, h => by simp at h
  | x :: xs, y :: ys, h, 0, _ => by simpa using h.1
  | x :: xs, y :: ys, h, i + 1, hi => by simpa using all2_get a b xs ys h.2 i (by simpa using hi)
  | _ :: _, [], h, _, _ => h.elim
/-- A text's lines are short, and none ends with a carriage return. -/
def fits (l : List UInt8) : Bool := decide (l.length ≤ 1000000) && (linesL l).all fun x => decide (x.length < 65536) && (x.getLast? != some 13)
theorem fits_lines {l : List UInt8} (h : fits l = true) : l.length ≤ 1000000 ∧ ∀ x ∈ linesL l, x.length < 65536 ∧ x.getLast? ≠ some 13 := by
  unfold fits at h
  rw [Bool.and_eq_true] at h
  refine ⟨by simpa using h.1, fun x hx => ?_⟩
  have := List.all_eq_true.1 h.2 x hx
  simpa using this
theorem fits_of {l : List UInt8} (h1 : l.length ≤ 1000000) (h2 : ∀ x ∈ linesL l, x.length < 65536 ∧ x.getLast? ≠ some 13) : fits l = true := by
  unfold fits
  rw [Bool.and_eq_true]
  refine ⟨by simpa using h1, List.all_eq_true.2 fun x hx => ?_⟩
  have := h2 x hx
  simpa using this
/-- What is read of a text behind its first line. -/
def runH {β : Type} (row : List UInt8 → Option β) (l : List UInt8) : Option (List β) := if fits l = true then (match linesL l with | [] => none | _ :: ls => mapO row ls) else none
theorem runH_scan {β : Type} (P : ByteArray → β → Prop) (row : List UInt8 → Option β) (hrow : ∀ x b, row x = some b → P (toB x) b) (l : List UInt8) (zs : List β) (h : runH row l = some zs) : ∃ n0, LineAt (toB l) n0 ∧ ScanRun P (rest (toB l) n0) zs := by
  unfold runH at h
  by_cases c : fits l = true
  · rw [if_pos c] at h
    obtain ⟨h1, h2⟩ := fits_lines c
    by_cases c0 : l = []
    · subst c0
      have e : linesL [] = [] := rfl
      rw [e] at h
      cases h
    · obtain ⟨p, r, rfl, hp, hr⟩ := cut l
      have hdrop : (p ++ r).drop (p.length + 1) = r.drop 1 := by rw [← List.drop_drop, List.drop_left]
      have hls : linesL (p ++ r) = p :: linesL (r.drop 1) := by
        unfold linesL
        rcases hr with rfl | ⟨r', rfl⟩
        · rw [List.append_nil] at c0 ⊢
          rw [linesGo_end p [] hp (by simpa using c0)]
          rfl
        · rw [linesGo_app p [] r' hp]
          rfl
      rw [hls] at h h2
      have h3 := h2 p List.mem_cons_self
      refine ⟨p.length, lineAt_app p r hp hr c0 h3.1 h1 h3.2, ?_⟩
      rw [rest_app, hdrop]
      refine scan_of P _ (r.drop 1) zs rfl ?_ (fun x hx => h2 x (List.mem_cons_of_mem _ hx)) (all2_mono _ _ (fun x _ b _ h => hrow x b h) (mapO_all2 _ _ h))
      rw [List.length_append] at h1
      rw [List.length_drop]
      omega
  · rw [if_neg c] at h; cases h
end Go.Proofs.YtdmpbaanonafbaaGreatDoor.ScanL

/- procfs.parseNetRouteLine and parseNetRoute by hand: lines of a name and ten numbers. -/
namespace Go.Proofs.YtdmpbaanonafbaaGreatDoor.RtLine
open Go.RowKit Go.Proofs.YtdmpbaanonafbaaGreatDoorW.PrintWords Go.Proofs.YtdmpbaanonafbaaGreatDoorW.PrintLast Go.Proofs.YtdmpbaanonafbaaGreatDoor.GivZ Go.Proofs.YtdmpbaanonafbaaGreatDoorW.PrintMore Go.Proofs.YtdmpbaanonafbaaGreatDoor.GivPW Go.Proofs.YtdmpbaanonafbaaGreatDoor.Scan Go.Proofs.YtdmpbaanonafbaaGreatDoor.ScanL Go.Proofs.YtdmpbaanonafbaaGreatDoor.O
set_option linter.unusedVariables false
set_option linter.unusedSimpArgs false
def gd (vs : List Int) (i : Nat) : Int := vs.getD i 0
def base10 (i : Nat) : Bool := i != 0 && i != 1 && i != 6
/-- The words of a line, and what its numbers are. -/
structure Words (ps : List ByteArray) (vs : List Int) : Prop where
  h11 : ps.length = 11
  name : ¬ (rdOf ByteArray.empty ps 0).toList = [42]
  hval : ∀ i : Nat, i < 10 → strconv_ParseU.f (rdOf ByteArray.empty ps ((i + 1 : Nat) : Int)) (if base10 i = true then 10 else 16) 32 = some (gd vs i, none) ∧ 0 ≤ gd vs i ∧ gd vs i ≤ 4294967295
def rowS (name : ByteArray) (vs : List Int) : S133 := ⟨name, gd vs 0, gd vs 1, gd vs 2, gd vs 3, gd vs 4, gd vs 5, gd vs 6, gd vs 7, gd vs 8, gd vs 9⟩
set_option maxHeartbeats 16000000 in
set_option maxRecDepth 100000 in
theorem rtLine_is (A0 : Option Addr) (c0 : Nat) (ps : List ByteArray) (vs : List Int) (w : World) (hr0 : Kd.C Kd.string w A0 ps.length ps) (hW : Words ps vs) :
    Calls Tryz.prog 177 #[.slice A0 ps.length c0] w fun e w' => ∃ g, e = .returned (.tuple #[.pointer (some ⟨g, 0, none⟩), .nilIface]) ∧ w'.heap[g]? = some (.cells #[.string (rdOf ByteArray.empty ps 0), .int .u32 (gd vs 0), .int .u32 (gd vs 1), .int .u32 (gd vs 2), .int .u32 (gd vs 3), .int .u32 (gd vs 4), .int .u32 (gd vs 5), .int .u32 (gd vs 6), .int .u32 (gd vs 7), .int .u32 (gd vs 8), .int .u32 (gd vs 9)] 133 (0, 0)) ∧ Below w.heap.size w w' := by
  have hu := Tryz.underlying133
  have HR0 := Aside0.mk hr0
  have h11 : ps.length = 11 := hW.h11
  have hl1 : (ps.length : Int) = 11 := by omega
  have hnm : ((rdOf ByteArray.empty ps 0).toList == [42]) = false := beq_eq_false_iff_ne.mpr hW.name
  have HW := Lib.hid hW
  clear hr0 hW
  have P0 := Aside0.mk (show strconv_ParseU.f (rdOf ByteArray.empty ps 1) 16 32 = some (gd vs 0, none) from (HW.out.hval 0 (by decide)).1)
  have hw0 : IntKind.u32.wrap (gd vs 0) = gd vs 0 := by have h := HW.out.hval 0 (by decide); rw [IntKind.wrap_u32]; omega
  have P1 := Aside0.mk (show strconv_ParseU.f (rdOf ByteArray.empty ps 2) 16 32 = some (gd vs 1, none) from (HW.out.hval 1 (by decide)).1)
  have hw1 : IntKind.u32.wrap (gd vs 1) = gd vs 1 := by have h := HW.out.hval 1 (by decide); rw [IntKind.wrap_u32]; omega
  have P2 := Aside0.mk (show strconv_ParseU.f (rdOf ByteArray.empty ps 3) 10 32 = some (gd vs 2, none) from (HW.out.hval 2 (by decide)).1)
  have hw2 : IntKind.u32.wrap (gd vs 2) = gd vs 2 := by have h := HW.out.hval 2 (by decide); rw [IntKind.wrap_u32]; omega
  have P3 := Aside0.mk (show strconv_ParseU.f (rdOf ByteArray.empty ps 4) 10 32 = some (gd vs 3, none) from (HW.out.hval 3 (by decide)).1)
  have hw3 : IntKind.u32.wrap (gd vs 3) = gd vs 3 := by have h := HW.out.hval 3 (by decide); rw [IntKind.wrap_u32]; omega
  have P4 := Aside0.mk (show strconv_ParseU.f (rdOf ByteArray.empty ps 5) 10 32 = some (gd vs 4, none) from (HW.out.hval 4 (by decide)).1)
  have hw4 : IntKind.u32.wrap (gd vs 4) = gd vs 4 := by have h := HW.out.hval 4 (by decide); rw [IntKind.wrap_u32]; omega
  have P5 := Aside0.mk (show strconv_ParseU.f (rdOf ByteArray.empty ps 6) 10 32 = some (gd vs 5, none) from (HW.out.hval 5 (by decide)).1)
  have hw5 : IntKind.u32.wrap (gd vs 5) = gd vs 5 := by have h := HW.out.hval 5 (by decide); rw [IntKind.wrap_u32]; omega
  have P6 := Aside0.mk (show strconv_ParseU.f (rdOf ByteArray.empty ps 7) 16 32 = some (gd vs 6, none) from (HW.out.hval 6 (by decide)).1)
  have hw6 : IntKind.u32.wrap (gd vs 6) = gd vs 6 := by have h := HW.out.hval 6 (by decide); rw [IntKind.wrap_u32]; omega
  have P7 := Aside0.mk (show strconv_ParseU.f (rdOf ByteArray.empty ps 8) 10 32 = some (gd vs 7, none) from (HW.out.hval 7 (by decide)).1)
  have hw7 : IntKind.u32.wrap (gd vs 7) = gd vs 7 := by have h := HW.out.hval 7 (by decide); rw [IntKind.wrap_u32]; omega
  have P8 := Aside0.mk (show strconv_ParseU.f (rdOf ByteArray.empty ps 9) 10 32 = some (gd vs 8, none) from (HW.out.hval 8 (by decide)).1)
  have hw8 : IntKind.u32.wrap (gd vs 8) = gd vs 8 := by have h := HW.out.hval 8 (by decide); rw [IntKind.wrap_u32]; omega
  have P9 := Aside0.mk (show strconv_ParseU.f (rdOf ByteArray.empty ps 10) 10 32 = some (gd vs 9, none) from (HW.out.hval 9 (by decide)).1)
  have hw9 : IntKind.u32.wrap (gd vs 9) = gd vs 9 := by have h := HW.out.hval 9 (by decide); rw [IntKind.wrap_u32]; omega
  obtain ⟨ad, e0, hx0⟩ := Kd.at_string HR0.out 0 (by omega) (by omega)
  cases e0
  obtain ⟨ad1, e1, hx1⟩ := Kd.at_string HR0.out 1 (by omega) (by omega)
  obtain rfl : ad = ad1 := by injection e1
  rw [show ad.add ((1 : Int)).toNat = (⟨ad.block, ad.off + 1, none⟩ : Addr) from by simp [Addr.add]] at hx1
  have X1 := Aside0.mk hx1
  clear hx1 e1
  obtain ⟨ad2, e2, hx2⟩ := Kd.at_string HR0.out 2 (by omega) (by omega)
  obtain rfl : ad = ad2 := by injection e2
  rw [show ad.add ((2 : Int)).toNat = (⟨ad.block, ad.off + 2, none⟩ : Addr) from by simp [Addr.add]] at hx2
  have X2 := Aside0.mk hx2
  clear hx2 e2
  obtain ⟨ad3, e3, hx3⟩ := Kd.at_string HR0.out 3 (by omega) (by omega)
  obtain rfl : ad = ad3 := by injection e3
  rw [show ad.add ((3 : Int)).toNat = (⟨ad.block, ad.off + 3, none⟩ : Addr) from by simp [Addr.add]] at hx3
  have X3 := Aside0.mk hx3
  clear hx3 e3
  obtain ⟨ad4, e4, hx4⟩ := Kd.at_string HR0.out 4 (by omega) (by omega)
  obtain rfl : ad = ad4 := by injection e4
  rw [show ad.add ((4 : Int)).toNat = (⟨ad.block, ad.off + 4, none⟩ : Addr) from by simp [Addr.add]] at hx4
  have X4 := Aside0.mk hx4
  clear hx4 e4
  obtain ⟨ad5, e5, hx5⟩ := Kd.at_string HR0.out 5 (by omega) (by omega)
  obtain rfl : ad = ad5 := by injection e5
  rw [show ad.add ((5 : Int)).toNat = (⟨ad.block, ad.off + 5, none⟩ : Addr) from by simp [Addr.add]] at hx5
  have X5 := Aside0.mk hx5
  clear hx5 e5
  obtain ⟨ad6, e6, hx6⟩ := Kd.at_string HR0.out 6 (by omega) (by omega)
  obtain rfl : ad = ad6 := by injection e6
  rw [show ad.add ((6 : Int)).toNat = (⟨ad.block, ad.off + 6, none⟩ : Addr) from by simp [Addr.add]] at hx6
  have X6 := Aside0.mk hx6
  clear hx6 e6
  obtain ⟨ad7, e7, hx7⟩ := Kd.at_string HR0.out 7 (by omega) (by omega)
  obtain rfl : ad = ad7 := by injection e7
  rw [show ad.add ((7 : Int)).toNat = (⟨ad.block, ad.off + 7, none⟩ : Addr) from by simp [Addr.add]] at hx7
  have X7 := Aside0.mk hx7
  clear hx7 e7
  obtain ⟨ad8, e8, hx8⟩ := Kd.at_string HR0.out 8 (by omega) (by omega)
  obtain rfl : ad = ad8 := by injection e8
  rw [show ad.add ((8 : Int)).toNat = (⟨ad.block, ad.off + 8, none⟩ : Addr) from by simp [Addr.add]] at hx8
  have X8 := Aside0.mk hx8
  clear hx8 e8
  obtain ⟨ad9, e9, hx9⟩ := Kd.at_string HR0.out 9 (by omega) (by omega)
  obtain rfl : ad = ad9 := by injection e9
  rw [show ad.add ((9 : Int)).toNat = (⟨ad.block, ad.off + 9, none⟩ : Addr) from by simp [Addr.add]] at hx9
  have X9 := Aside0.mk hx9
  clear hx9 e9
  obtain ⟨ad10, e10, hx10⟩ := Kd.at_string HR0.out 10 (by omega) (by omega)
  obtain rfl : ad = ad10 := by injection e10
  rw [show ad.add ((10 : Int)).toNat = (⟨ad.block, ad.off + 10, none⟩ : Addr) from by simp [Addr.add]] at hx10
  have X10 := Aside0.mk hx10
  clear hx10 e10
  have hx1 := X1.out
  (try rw [show ((0 : Int)).toNat = 0 from rfl] at hx0)
  (try rw [Addr.add_zero'] at hx0)
  have q0 : (0 : Int) < (ps.length : Int) := by omega
  have q1 : (1 : Int) < (ps.length : Int) := by omega
  have q2 : (2 : Int) < (ps.length : Int) := by omega
  have q3 : (3 : Int) < (ps.length : Int) := by omega
  have q4 : (4 : Int) < (ps.length : Int) := by omega
  have q5 : (5 : Int) < (ps.length : Int) := by omega
  have q6 : (6 : Int) < (ps.length : Int) := by omega
  have q7 : (7 : Int) < (ps.length : Int) := by omega
  have q8 : (8 : Int) < (ps.length : Int) := by omega
  have q9 : (9 : Int) < (ps.length : Int) := by omega
  have q10 : (10 : Int) < (ps.length : Int) := by omega
  have HB := Aside0.mk (Below.refl w.heap.size w)
  obtain ⟨nm, hnm0⟩ : ∃ nm, nm = rdOf ByteArray.empty ps 0 := ⟨_, rfl⟩
  rw [← hnm0] at hx0 hnm ⊢
  have HNM := Lib.hid hnm0
  clear hnm0
  go_enter Tryz.func177, Tryz.ntmps177
  go_wp2_with fail
  refine (strconv_ParseU.calls _ 16 32 (gd vs 0) none _ P0.out).mono ?_
  rintro e w1 ⟨rfl, hb⟩
  try simp only [errW_none]
  have n0 := Aside0.mk (below_step HB.out hb); clear HB; have HB := n0; clear n0 hb P0 hx1 q0
  have hx2 := (HB.out.cell (World.block_lt_of_cell? w _ X2.out)).trans X2.out
  clear X2
  go_wp2_with fail
  refine (strconv_ParseU.calls _ 16 32 (gd vs 1) none _ P1.out).mono ?_
  rintro e w2 ⟨rfl, hb⟩
  try simp only [errW_none]
  have n0 := Aside0.mk (below_step HB.out hb); clear HB; have HB := n0; clear n0 hb P1 hx2 q1
  have hx3 := (HB.out.cell (World.block_lt_of_cell? w _ X3.out)).trans X3.out
  clear X3
  go_wp2_with fail
  refine (strconv_ParseU.calls _ 10 32 (gd vs 2) none _ P2.out).mono ?_
  rintro e w3 ⟨rfl, hb⟩
  try simp only [errW_none]
  have n0 := Aside0.mk (below_step HB.out hb); clear HB; have HB := n0; clear n0 hb P2 hx3 q2
  have hx4 := (HB.out.cell (World.block_lt_of_cell? w _ X4.out)).trans X4.out
  clear X4
  go_wp2_with fail
  refine (strconv_ParseU.calls _ 10 32 (gd vs 3) none _ P3.out).mono ?_
  rintro e w4 ⟨rfl, hb⟩
  try simp only [errW_none]
  have n0 := Aside0.mk (below_step HB.out hb); clear HB; have HB := n0; clear n0 hb P3 hx4 q3
  have hx5 := (HB.out.cell (World.block_lt_of_cell? w _ X5.out)).trans X5.out
  clear X5
  go_wp2_with fail
  refine (strconv_ParseU.calls _ 10 32 (gd vs 4) none _ P4.out).mono ?_
  rintro e w5 ⟨rfl, hb⟩
  try simp only [errW_none]
  have n0 := Aside0.mk (below_step HB.out hb); clear HB; have HB := n0; clear n0 hb P4 hx5 q4
  have hx6 := (HB.out.cell (World.block_lt_of_cell? w _ X6.out)).trans X6.out
  clear X6
  go_wp2_with fail
  refine (strconv_ParseU.calls _ 10 32 (gd vs 5) none _ P5.out).mono ?_
  rintro e w6 ⟨rfl, hb⟩
  try simp only [errW_none]
  have n0 := Aside0.mk (below_step HB.out hb); clear HB; have HB := n0; clear n0 hb P5 hx6 q5
  have hx7 := (HB.out.cell (World.block_lt_of_cell? w _ X7.out)).trans X7.out
  clear X7
  go_wp2_with fail
  refine (strconv_ParseU.calls _ 16 32 (gd vs 6) none _ P6.out).mono ?_
  rintro e w7 ⟨rfl, hb⟩
  try simp only [errW_none]
  have n0 := Aside0.mk (below_step HB.out hb); clear HB; have HB := n0; clear n0 hb P6 hx7 q6
  have hx8 := (HB.out.cell (World.block_lt_of_cell? w _ X8.out)).trans X8.out
  clear X8
  go_wp2_with fail
  refine (strconv_ParseU.calls _ 10 32 (gd vs 7) none _ P7.out).mono ?_
  rintro e w8 ⟨rfl, hb⟩
  try simp only [errW_none]
  have n0 := Aside0.mk (below_step HB.out hb); clear HB; have HB := n0; clear n0 hb P7 hx8 q7
  have hx9 := (HB.out.cell (World.block_lt_of_cell? w _ X9.out)).trans X9.out
  clear X9
  go_wp2_with fail
  refine (strconv_ParseU.calls _ 10 32 (gd vs 8) none _ P8.out).mono ?_
  rintro e w9 ⟨rfl, hb⟩
  try simp only [errW_none]
  have n0 := Aside0.mk (below_step HB.out hb); clear HB; have HB := n0; clear n0 hb P8 hx9 q8
  have hx10 := (HB.out.cell (World.block_lt_of_cell? w _ X10.out)).trans X10.out
  clear X10
  go_wp2_with fail
  refine (strconv_ParseU.calls _ 10 32 (gd vs 9) none _ P9.out).mono ?_
  rintro e w10 ⟨rfl, hb⟩
  try simp only [errW_none]
  have n0 := Aside0.mk (below_step HB.out hb); clear HB; have HB := n0; clear n0 hb P9 hx10 q9
  go_wp2_with (first
    | ((with_reducible refine gate_dst (N := 148) rfl ?_); refine box_event ?hg (N := 148) ?hd (cs := #[.string nm, .int .u32 (gd vs 0), .int .u32 (gd vs 1), .int .u32 (gd vs 2), .int .u32 (gd vs 3), .int .u32 (gd vs 4), .int .u32 (gd vs 5), .int .u32 (gd vs 6), .int .u32 (gd vs 7), .int .u32 (gd vs 8), .int .u32 (gd vs 9)]) (t := 133) ?hr ?_; (case hd => rfl); (case hg => rfl); (case hr => first | (go_simp; done) | (go_simp; rfl)); intro g hg w20 hbox hb
       have BK := Aside0.mk hbox
       have n0 := Aside0.mk (below_step HB.out hb); clear HB; have HB := n0; clear n0 hb hbox hg))
  go_ret2
  exact ⟨g, rfl, BK.out, HB.out⟩
end Go.Proofs.YtdmpbaanonafbaaGreatDoor.RtLine

/- procfs.parseNetRoute by hand: what it reads of a text, a head and lines behind it. -/
namespace Go.Proofs.YtdmpbaanonafbaaGreatDoor.RtLoop
open Go.RowKit Go.Proofs.YtdmpbaanonafbaaGreatDoorW.PrintWords Go.Proofs.YtdmpbaanonafbaaGreatDoorW.PrintLast Go.Proofs.YtdmpbaanonafbaaGreatDoor.GivZ Go.Proofs.YtdmpbaanonafbaaGreatDoorW.PrintMore Go.Proofs.YtdmpbaanonafbaaGreatDoor.Scan Go.Proofs.YtdmpbaanonafbaaGreatDoor.ScanL Go.Proofs.YtdmpbaanonafbaaGreatDoor.GivPW Go.Proofs.YtdmpbaanonafbaaGreatDoor.RtLine Go.Proofs.YtdmpbaanonafbaaGreatDoor.O
set_option linter.unusedVariables false
set_option linter.unusedSimpArgs false
theorem info_rt : (Tryz.prog.info? 133).map (fun i => (i.zero, i.size, i.bytes)) = some (some (.agg #[.string ⟨#[]⟩, .int .u32 0, .int .u32 0, .int .u32 0, .int .u32 0, .int .u32 0, .int .u32 0, .int .u32 0, .int .u32 0, .int .u32 0, .int .u32 0]), 11, 56) := by kernel_rfl
def RtL (l : ByteArray) (z : S133) : Prop := ∃ ps vs, strings_Fields.f l = some ps ∧ Words ps vs ∧ z = rowS (rdOf ByteArray.empty ps 0) vs
set_option maxHeartbeats 8000000 in
set_option maxRecDepth 100000 in
theorem rtLoop_is (t : ByteArray) (n0 : Nat) (zs : List S133) (w : World) (hh : LineAt t n0) (hr : ScanRun RtL (rest t n0) zs) (hl : zs.length ≤ 1000000) (hTabs : Tabs w) :
    Calls Tryz.prog 163 #[.string t] w fun e w' => ∃ v, e = .returned (.tuple #[v, .nilIface]) ∧ Kd.R k133 133 w' w.heap.size (fun _ => True) v zs ∧ Below w.heap.size w w' := by
  have hu := Tryz.underlying133
  have HR := Lib.hid hr
  have HH := Lib.hid hh
  have HT := Lib.hid hTabs
  clear hr hTabs hh
  have HB := Aside0.mk (Below.refl w.heap.size w)
  go_enter Tryz.func163, Tryz.ntmps163
  go_wp2_with (first
    | (go_at_call 133; refine (newLines_is _ _).mono ?_; rintro e w2 ⟨g, rfl, hg, hblk, hb⟩
       have BK0 := Aside0.mk hblk
       have HG := Aside0.mk (show w.heap.size ≤ g by rw [hg]; exact below_size HB.out)
       have n0' := Aside0.mk (below_step HB.out hb); clear HB; have HB := n0'; clear n0' hb hblk hg)
    | (go_at_call 134; refine (scan_yes g t _ n0 _ BK0.out HH.out.hne HH.out.hn HH.out.hmost HH.out.hbefore HH.out.hend HH.out.hcr HH.out.hsz).mono ?_; rintro e w3 ⟨rfl, hb2, hkb, hbl⟩
       have BK := Aside0.mk hb2
       have n0' := Aside0.mk (hbl _ HB.out HG.out); clear HB; have HB := n0'; clear n0' hb2 hkb hbl))
  go_loopg [4] t.size (fun kq v4 w' => ∃ (t1 line : ByteArray) (xs ys : List S133), Aside0 (xs ++ ys = zs) ∧ Aside0 (ScanRun RtL t1 ys) ∧ Aside0 (t1.size ≤ kq) ∧ Aside0 (w'.heap[g]? = some (scn t1 line)) ∧ Aside0 (Kd.R k133 133 w' w.heap.size (fun k_ => k_ ≠ g) v4 xs) ∧ Aside0 (Below w.heap.size w w'))
  case atStart => exact ⟨_, _, [], zs, ⟨rfl⟩, ⟨HR.out⟩, ⟨by have := rest_size t n0 HH.out.hne; omega⟩, BK, ⟨Kd.R_nil _ _ _ _ _⟩, HB⟩
  case round =>
    obtain ⟨t1, line, xs, ys, hz, hrun, hk, hblk, hro, hbw⟩ := hrel
    clear HB BK HR
    have hrun := hrun.out
    cases hrun with
    | done =>
      go_wp2_with (first
        | (go_at_call 134; refine (scan_no g line _ hblk.out).mono ?_; rintro e w4 ⟨rfl, hb2, hkb, hbl⟩
           have n0 := Aside0.mk (Kd.R_keep hro.out hkb (fun _ h => h)); clear hro; have hro := n0; clear n0
           have n0 := Aside0.mk hb2; clear hblk; have hblk := n0; clear n0
           have n0 := Aside0.mk (hbl _ hbw.out HG.out); clear hbw; have hbw := n0; clear n0 hb2 hkb hbl))
      go_ret2
      refine ⟨_, rfl, Kd.R_mono (by have := hz.out; rw [List.append_nil] at this; rw [← this]; exact hro.out) (fun _ _ => trivial), hbw.out⟩
    | @row _ n b zs' hL0 hP0 hrest0 =>
      obtain ⟨ps, vs, hf0, hW0, rfl⟩ := hP0
      have hL := Lib.hid hL0
      have hf := Lib.hid hf0
      have hW := Lib.hid hW0
      have hrest := Lib.hid hrest0
      have hp1 := Aside0.mk (show 0 < ps.length by rw [hW0.h11]; decide)
      have hlen := Aside0.mk (show xs.length + 1 ≤ 1000000 by have := congrArg List.length hz.out; rw [List.length_append, List.length_cons] at this; omega)
      clear hL0 hf0 hW0 hrest0
      go_wp2_with (first
        | (go_at_call 134; refine (scan_yes g t1 line n _ hblk.out hL.out.hne hL.out.hn hL.out.hmost hL.out.hbefore hL.out.hend hL.out.hcr hL.out.hsz).mono ?_; rintro e w4 ⟨rfl, hb2, hkb, hbl⟩
           have n0 := Aside0.mk (Kd.R_keep hro.out hkb (fun _ h => h)); clear hro; have hro := n0; clear n0
           have n0 := Aside0.mk hb2; clear hblk; have hblk := n0; clear n0
           have n0 := Aside0.mk (hbl _ hbw.out HG.out); clear hbw; have hbw := n0; clear n0 hb2 hkb hbl)
        | (go_at_call 136; refine (text_is g _ _ _ hblk.out).mono ?_; rintro e w5 ⟨rfl, rfl⟩)
        | (go_at_call 155; refine (strings_Fields.calls _ ps _ hf.out (Tabs.below HT.out hbw.out)).mono ?_; rintro e w6 ⟨v, rfl, ho, hb⟩; obtain ⟨gp, cp, rfl, hge, hlt, hcp⟩ := Kd.R_form ho hp1.out
           have CO := Aside0.mk (Kd.R_reads' ho).2.2
           have n0 := Aside0.mk (Kd.R_below hro.out hb); clear hro; have hro := n0; clear n0
           have n0 := Aside0.mk (blk_below hblk.out hb); clear hblk; have hblk := n0; clear n0
           have n0 := Aside0.mk (below_step hbw.out hb); clear hbw; have hbw := n0; clear n0 hb ho hge hlt hcp)
        | (go_at_call 177; refine (rtLine_is _ cp ps vs _ CO.out hW.out).mono ?_; rintro e w7 ⟨gr, rfl, hgr, hb⟩
           have hs0 : w7.cell? ⟨gr, 0, none⟩ = some (.string (rdOf ByteArray.empty ps 0)) := (blk_cell hgr 0).trans rfl
           have hs1 : w7.cell? ⟨gr, 1, none⟩ = some (.int .u32 (gd vs 0)) := (blk_cell hgr 1).trans rfl
           have hs2 : w7.cell? ⟨gr, 2, none⟩ = some (.int .u32 (gd vs 1)) := (blk_cell hgr 2).trans rfl
           have hs3 : w7.cell? ⟨gr, 3, none⟩ = some (.int .u32 (gd vs 2)) := (blk_cell hgr 3).trans rfl
           have hs4 : w7.cell? ⟨gr, 4, none⟩ = some (.int .u32 (gd vs 3)) := (blk_cell hgr 4).trans rfl
           have hs5 : w7.cell? ⟨gr, 5, none⟩ = some (.int .u32 (gd vs 4)) := (blk_cell hgr 5).trans rfl
           have hs6 : w7.cell? ⟨gr, 6, none⟩ = some (.int .u32 (gd vs 5)) := (blk_cell hgr 6).trans rfl
           have hs7 : w7.cell? ⟨gr, 7, none⟩ = some (.int .u32 (gd vs 6)) := (blk_cell hgr 7).trans rfl
           have hs8 : w7.cell? ⟨gr, 8, none⟩ = some (.int .u32 (gd vs 7)) := (blk_cell hgr 8).trans rfl
           have hs9 : w7.cell? ⟨gr, 9, none⟩ = some (.int .u32 (gd vs 8)) := (blk_cell hgr 9).trans rfl
           have hs10 : w7.cell? ⟨gr, 10, none⟩ = some (.int .u32 (gd vs 9)) := (blk_cell hgr 10).trans rfl
           have n0 := Aside0.mk (Kd.R_below hro.out hb); clear hro; have hro := n0; clear n0
           have n0 := Aside0.mk (blk_below hblk.out hb); clear hblk; have hblk := n0; clear n0
           have n0 := Aside0.mk (below_step hbw.out hb); clear hbw; have hbw := n0; clear n0 hb hgr)
        | ((with_reducible refine gate_builtin (b := .append) (xs := #[.tmp 26, .tmp 30]) rfl ?_); at_builtin; refine Kd.R_append k133 (w0 := w) w.heap.size rfl (.tmp 26) (.tmp 30) 129 133 (.agg #[.string ⟨#[]⟩, .int .u32 0, .int .u32 0, .int .u32 0, .int .u32 0, .int .u32 0, .int .u32 0, .int .u32 0, .int .u32 0, .int .u32 0, .int .u32 0]) 56 rfl Tryz.underlying129 info_rt rfl (by decide) (by omega) u4 xs (rowS (rdOf ByteArray.empty ps 0) vs) [.string (rdOf ByteArray.empty ps 0), .int .u32 (gd vs 0), .int .u32 (gd vs 1), .int .u32 (gd vs 2), .int .u32 (gd vs 3), .int .u32 (gd vs 4), .int .u32 (gd vs 5), .int .u32 (gd vs 6), .int .u32 (gd vs 7), .int .u32 (gd vs 8), .int .u32 (gd vs 9)] (fun k_ => k_ ≠ g) (fun _ => False) rfl (by first | rfl | (go_simp; done)) (k133_mkM _ _ _ (rowS (rdOf ByteArray.empty ps 0) vs)) (fun _ hk => hk.elim) ?aF hro.out hbw.out (below_size hbw.out) ?aL ?_
           (case aF => exact (fun k hk he => by have := blk_lt hblk.out; omega)); (case aL => have := hlen.out; omega)
           intro v8 w18 ho hb3 hg3 hat
           have n0 := Aside0.mk ho
           have n1 := Aside0.mk (blk_grown hblk.out hg3 (Kd.R_ne hro.out hblk.out (by decide)))
           have n2 := Aside0.mk hb3; clear hbw hblk hro; have hbw := n2; have hblk := n1; have hro := n0; clear n0 n1 n2 ho hb3 hg3 hat))
      have hlt := rest_size t1 n hL.out.hne
      have hlk := hk.out
      go_roundg ((rest t1 n).size)
      case measure => omega
      case rel =>
        exact ⟨_, _, xs ++ [rowS (rdOf ByteArray.empty ps 0) vs], zs', ⟨by have := hz.out; rw [List.append_assoc]; exact this⟩, ⟨hrest.out⟩, ⟨Nat.le_refl _⟩, hblk, hro, hbw⟩
end Go.Proofs.YtdmpbaanonafbaaGreatDoor.RtLoop
