/- texts.Lines by hand: a whole text, line by line, as the reference cuts it. -/
import Derived.Test.YtokojamaigebaaaDoorScan
set_option linter.unusedVariables false
set_option linter.unusedSimpArgs false
namespace Go.Proofs.YtokojamaigebaaaDoor.ScanL
open Go.RowKit Go.Proofs.YtokojamaigebaaaDoorW.PrintWords Go.Proofs.YtokojamaigebaaaDoorW.PrintLast Go.Proofs.YtokojamaigebaaaDoor.GivZ Go.Proofs.YtokojamaigebaaaDoor.Scan Go.Proofs.YtokojamaigebaaaDoorPt
structure LineAt (t : ByteArray) (n : Nat) : Prop where
  hne : 0 < t.size
  hn : n ≤ t.size
  hmost : n < 65536
  hbefore : ∀ (i : Nat) (h : i < t.size), i < n → ¬ ((t[i]'h).toNat : Int) = 10
  hend : ∀ h : n < t.size, ((t[n]'h).toNat : Int) = 10
  hcr : ∀ h : n - 1 < t.size, 0 < n → ¬ ((t[n - 1]'h).toNat : Int) = 13
  hsz : t.size ≤ 1000000
def rest (t : ByteArray) (n : Nat) : ByteArray := t.extract (min (n + 1) t.size) t.size
theorem rest_size (t : ByteArray) (n : Nat) (h : 0 < t.size) : (rest t n).size < t.size := by
  unfold rest
  rw [ByteArray.size_extract]
  omega
/-- What is read of a text, a line at a time. -/
inductive ScanRun {β : Type} (P : ByteArray → β → Prop) : ByteArray → List β → Prop
  | done : ScanRun P ByteArray.empty []
  | row {t : ByteArray} {n : Nat} {b : β} {ys : List β} : LineAt t n → P (t.extract 0 n) b → ScanRun P (rest t n) ys → ScanRun P t (b :: ys)
/-- Two lists, one by one. -/
def all2 {α β : Type} (P : α → β → Prop) : List α → List β → Prop
  | [], [] => True
  | x :: xs, y :: ys => P x y ∧ all2 P xs ys
  | _, _ => False
theorem all2_mono {α β : Type} {P Q : α → β → Prop} : ∀ (xs : List α) (ys : List β), (∀ x ∈ xs, ∀ y ∈ ys, P x y → Q x y) → all2 P xs ys → all2 Q xs ys
  | [], [], _, _ => trivial
  | x :: xs, y :: ys, h, h2 => ⟨h x List.mem_cons_self y List.mem_cons_self h2.1, all2_mono xs ys (fun a ha b hb => h a (List.mem_cons_of_mem _ ha) b (List.mem_cons_of_mem _ hb)) h2.2⟩
  | [], _ :: _, _, h => h.elim
  | _ :: _, [], _, h => h.elim
theorem lineAt_app (p r : List UInt8) (hp : ∀ b ∈ p, b ≠ 10) (hr : r = [] ∨ ∃ r', r = 10 :: r') (hne : p ++ r ≠ []) (h1 : p.length < 65536) (h2 : (p ++ r).length ≤ 1000000) (h3 : p.getLast? ≠ some 13) :
    LineAt (toB (p ++ r)) p.length := by
  have hs : (⟨(p ++ r).toArray⟩ : ByteArray).size = p.length + r.length := by simp [ByteArray.size]
  have hg : ∀ (i : Nat) (h : i < (⟨(p ++ r).toArray⟩ : ByteArray).size), (⟨(p ++ r).toArray⟩ : ByteArray)[i]'h = (p ++ r)[i]'(by rw [hs] at h; rw [List.length_append]; exact h) := fun i h => rfl
  unfold toB
  refine ⟨?_, by omega, h1, fun i h hi => ?_, fun h => ?_, fun h h0 => ?_, by rw [hs]; rw [List.length_append] at h2; exact h2⟩
  · have := List.length_pos_iff.2 hne
    rw [List.length_append] at this
    omega
  · rw [hg, List.getElem_append_left hi]
    intro he
    refine hp _ (List.getElem_mem hi) ?_
    apply UInt8.toNat_inj.1
    exact Int.ofNat.inj he
  · rw [hg, List.getElem_append_right (Nat.le_refl _)]
    rcases hr with rfl | ⟨r', rfl⟩
    · rw [hs] at h; simp at h
    · simp
  · have hlt : p.length - 1 < p.length := by omega
    rw [hg, List.getElem_append_left hlt]
    intro he
    apply h3
    rw [List.getLast?_eq_getElem?, List.getElem?_eq_getElem hlt]
    congr 1
    apply UInt8.toNat_inj.1
    exact Int.ofNat.inj he
theorem ext_app (p r : List UInt8) : (toB (p ++ r)).extract 0 p.length = toB p := by
  unfold toB
  apply ByteArray.ext
  rw [ByteArray.data_extract]
  simp
theorem rest_app (p r : List UInt8) : rest (toB (p ++ r)) p.length = toB ((p ++ r).drop (p.length + 1)) := by
  unfold rest toB
  have hs : (⟨(p ++ r).toArray⟩ : ByteArray).size = (p ++ r).length := by simp [ByteArray.size]
  apply ByteArray.ext
  rw [ByteArray.data_extract, hs]
  apply Array.toList_inj.1
  simp only [Array.toList_extract, List.extract_eq_take_drop]
  rw [show (p ++ r).length - min (p.length + 1) (p ++ r).length = ((p ++ r).drop (min (p.length + 1) (p ++ r).length)).length by rw [List.length_drop], List.take_length]
  by_cases c : p.length + 1 ≤ (p ++ r).length
  · rw [Nat.min_eq_left c]
  · rw [Nat.min_eq_right (by omega), List.drop_eq_nil_of_le (Nat.le_refl _), List.drop_eq_nil_of_le (by omega)]
theorem cut (l : List UInt8) : ∃ p r, l = p ++ r ∧ (∀ b ∈ p, b ≠ 10) ∧ (r = [] ∨ ∃ r', r = 10 :: r') := by
  induction l with
  | nil => exact ⟨[], [], rfl, fun _ h => (List.not_mem_nil h).elim, .inl rfl⟩
  | cons a l ih =>
    by_cases c : a = 10
    · exact ⟨[], a :: l, rfl, fun _ h => (List.not_mem_nil h).elim, .inr ⟨l, by rw [c]⟩⟩
    · obtain ⟨p, r, rfl, hp, hr⟩ := ih
      refine ⟨a :: p, r, rfl, fun b hb => ?_, hr⟩
      rcases List.mem_cons.1 hb with rfl | hb
      · exact c
      · exact hp b hb
theorem linesGo_app : ∀ (p cur r : List UInt8), (∀ b ∈ p, b ≠ 10) → linesGo cur (p ++ 10 :: r) = (cur ++ p) :: linesGo [] r
  | [], cur, r, _ => by rw [List.nil_append, linesGo, if_pos rfl, List.append_nil]
  | a :: p, cur, r, h => by
    rw [List.cons_append, linesGo, if_neg (h a List.mem_cons_self), linesGo_app p (cur ++ [a]) r (fun b hb => h b (List.mem_cons_of_mem _ hb))]
    simp
theorem linesGo_end : ∀ (p cur : List UInt8), (∀ b ∈ p, b ≠ 10) → cur ++ p ≠ [] → linesGo cur p = [cur ++ p]
  | [], cur, _, h => by
    rw [List.append_nil] at h ⊢
    rw [linesGo, if_neg (by simpa using h)]
  | a :: p, cur, h, h2 => by
    rw [linesGo, if_neg (h a List.mem_cons_self), linesGo_end p (cur ++ [a]) (fun b hb => h b (List.mem_cons_of_mem _ hb)) (by simp)]
    simp
/-- Lines, each with its line feed, are cut into these lines. -/
theorem lines_flat : ∀ (ls : List (List UInt8)), (∀ x ∈ ls, ∀ b ∈ x, b ≠ 10) → linesL (ls.flatMap fun x => x ++ [10]) = ls
  | [], _ => rfl
  | x :: ls, h => by
    have ih := lines_flat ls (fun y hy => h y (List.mem_cons_of_mem _ hy))
    unfold linesL at ih ⊢
    rw [List.flatMap_cons, List.append_assoc, List.singleton_append, linesGo_app x [] _ (h x List.mem_cons_self), ih]
    rfl
theorem scan_of {β : Type} (P : ByteArray → β → Prop) : ∀ (m : Nat) (l : List UInt8) (zs : List β), l.length = m → l.length ≤ 1000000 → (∀ x ∈ linesL l, x.length < 65536 ∧ x.getLast? ≠ some 13) → all2 (fun x b => P (toB x) b) (linesL l) zs → ScanRun P (toB l) zs := by
  intro m
  induction m using Nat.strongRecOn with
  | _ m ih =>
    intro l zs hm hl hx ha
    by_cases c0 : l = []
    · subst c0
      cases zs with
      | nil => rw [toB_nil]; exact .done
      | cons z zs => exact ha.elim
    · obtain ⟨p, r, rfl, hp, hr⟩ := cut l
      have hdrop : (p ++ r).drop (p.length + 1) = r.drop 1 := by rw [← List.drop_drop, List.drop_left]
      have hls : linesL (p ++ r) = p :: linesL (r.drop 1) := by
        unfold linesL
        rcases hr with rfl | ⟨r', rfl⟩
        · rw [List.append_nil] at c0 ⊢
          rw [linesGo_end p [] hp (by simpa using c0)]
          rfl
        · rw [linesGo_app p [] r' hp]
          rfl
      rw [hls] at hx ha
      obtain ⟨h1, h3⟩ := hx p List.mem_cons_self
      cases zs with
      | nil => exact ha.elim
      | cons z zs =>
        obtain ⟨hz, ha⟩ := ha
        refine .row (lineAt_app p r hp hr c0 h1 hl h3) (by rw [ext_app]; exact hz) ?_
        rw [rest_app, hdrop]
        have hle : (r.drop 1).length < m := by
          have := List.length_pos_iff.2 c0
          rw [List.length_append] at this hm
          rw [List.length_drop]
          rcases hr with rfl | ⟨r', rfl⟩
          · simp at this ⊢; omega
          · simp at hm ⊢; omega
        exact ih _ hle (r.drop 1) zs rfl (by omega) (fun x hx2 => hx x (List.mem_cons_of_mem _ hx2)) ha
/-- A function on each of a list; none where one answers none. -/
def mapO {α β : Type} (f : α → Option β) : List α → Option (List β)
  | [] => some []
  | x :: xs => (f x).bind fun y => (mapO f xs).bind fun ys => some (y :: ys)
theorem mapO_all2 {α β : Type} {f : α → Option β} : ∀ (xs : List α) (ys : List β), mapO f xs = some ys → all2 (fun x y => f x = some y) xs ys
  | [], ys, h => by
    obtain rfl := Option.some.inj h
    trivial
  | x :: xs, ys, h => by
    rw [mapO] at h
    obtain ⟨y, hy, h⟩ := Option.bind_eq_some_iff.1 h
    obtain ⟨zs, hz, h⟩ := Option.bind_eq_some_iff.1 h
    obtain rfl := Option.some.inj h
    exact ⟨hy, mapO_all2 xs zs hz⟩
theorem mapO_of {α β : Type} {f : α → Option β} : ∀ (xs : List α) (ys : List β), all2 (fun x y => f x = some y) xs ys → mapO f xs = some ys
  | [], [], _ => rfl
  | x :: xs, y :: ys, h => by rw [mapO, h.1, mapO_of xs ys h.2]; rfl
  | [], _ :: _, h => h.elim
  | _ :: _, [], h => h.elim
/-- A text's lines are short, and none ends with a carriage return. -/
def fits (l : List UInt8) : Bool := decide (l.length ≤ 1000000) && (linesL l).all fun x => decide (x.length < 65536) && (x.getLast? != some 13)
/-- What is read of a text, a line at a time, as a function. -/
def runO {β : Type} (row : List UInt8 → Option β) (l : List UInt8) : Option (List β) := if fits l = true then mapO row (linesL l) else none
theorem fits_lines {l : List UInt8} (h : fits l = true) : l.length ≤ 1000000 ∧ ∀ x ∈ linesL l, x.length < 65536 ∧ x.getLast? ≠ some 13 := by
  unfold fits at h
  rw [Bool.and_eq_true] at h
  refine ⟨by simpa using h.1, fun x hx => ?_⟩
  have := List.all_eq_true.1 h.2 x hx
  simpa using this
theorem fits_of {l : List UInt8} (h1 : l.length ≤ 1000000) (h2 : ∀ x ∈ linesL l, x.length < 65536 ∧ x.getLast? ≠ some 13) : fits l = true := by
  unfold fits
  rw [Bool.and_eq_true]
  refine ⟨by simpa using h1, List.all_eq_true.2 fun x hx => ?_⟩
  have := h2 x hx
  simpa using this
theorem runO_scan {β : Type} (P : ByteArray → β → Prop) (row : List UInt8 → Option β) (hrow : ∀ x b, row x = some b → P (toB x) b) (l : List UInt8) (zs : List β) (h : runO row l = some zs) : ScanRun P (toB l) zs := by
  unfold runO at h
  by_cases c : fits l = true
  · rw [if_pos c] at h
    obtain ⟨h1, h2⟩ := fits_lines c
    exact scan_of P l.length l zs rfl h1 h2 (all2_mono _ _ (fun x _ b _ h => hrow x b h) (mapO_all2 _ _ h))
  · rw [if_neg c] at h; cases h
end Go.Proofs.YtokojamaigebaaaDoor.ScanL
