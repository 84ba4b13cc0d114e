/- Plain lemmas on texts as lists of bytes: lines, fields, numbers; no condition, no program. -/
import Derived.Test.YtdmpbaanonafbaaGreatDoorWWords
import Derived.Lib.Strings
import Derived.Lib.SmallJoins
import Derived.Lib.Fields
set_option linter.unusedVariables false
set_option linter.unusedSimpArgs false
namespace Go.Proofs.YtdmpbaanonafbaaGreatDoorPt
open Go.RowKit Go.Proofs.YtdmpbaanonafbaaGreatDoorW.PrintWords

/-- A list of bytes as a text. -/
def toB (l : List UInt8) : ByteArray := ⟨l.toArray⟩
theorem toB_data (l : List UInt8) : (toB l).data.toList = l := by simp [toB]
theorem toB_size (l : List UInt8) : (toB l).size = l.length := by rw [Lib.size_eq, toB_data]
theorem data_inj {a b : ByteArray} (h : a.data.toList = b.data.toList) : a = b := by
  have h2 : a.data = b.data := Array.toList_inj.1 h
  cases a; cases b; simp at h2; rw [h2]
theorem toB_of (s : ByteArray) : toB s.data.toList = s := data_inj (toB_data _)
theorem toB_nil : toB [] = ByteArray.empty := data_inj (by rw [toB_data]; rfl)
theorem extract_toB (s : ByteArray) (a b : Nat) : s.extract a b = toB ((s.data.toList.drop a).take (b - a)) := data_inj (by rw [toB_data, Lib.extract_data])
theorem len_data (s : ByteArray) : s.data.toList.length = s.size := (Lib.size_eq s).symm
theorem bt_data (s : ByteArray) (i : Nat) (h : i < s.size) : bt s (i : Int) = ((s.data.toList[i]'(by rw [len_data]; exact h)).toNat : Int) := by
  unfold bt
  rw [dif_pos (by omega)]
  rfl
theorem drop_data (s : ByteArray) (i : Nat) (h : i < s.size) : ∃ c, s.data.toList.drop i = c :: s.data.toList.drop (i + 1) ∧ bt s (i : Int) = (c.toNat : Int) ∧ s.data.toList[i]? = some c :=
  ⟨s.data.toList[i]'(by rw [len_data]; exact h), List.drop_eq_getElem_cons _, bt_data s i h, List.getElem?_eq_getElem _⟩
theorem take_more (l : List UInt8) (a i : Nat) (c : UInt8) (h : a ≤ i) (hc : l[i]? = some c) : (l.drop a).take (i + 1 - a) = (l.drop a).take (i - a) ++ [c] := by
  have : i + 1 - a = (i - a) + 1 := by omega
  rw [this, List.take_add_one, List.getElem?_drop, show a + (i - a) = i by omega, hc]
  rfl

/-- The lines of a text: as the reference cuts them. -/
def linesGo : List UInt8 → List UInt8 → List (List UInt8)
  | cur, [] => if cur.isEmpty then [] else [cur]
  | cur, c :: cs => if c = 10 then cur :: linesGo [] cs else linesGo (cur ++ [c]) cs
def linesL (l : List UInt8) : List (List UInt8) := linesGo [] l
theorem linesGo_mem : ∀ (l cur x : List UInt8), x ∈ linesGo cur l → ∀ c ∈ x, c ∈ cur ∨ c ∈ l ∧ c ≠ 10
  | [], cur, x, h, c, hc => by
    unfold linesGo at h
    split at h
    · cases h
    · rw [List.mem_singleton.1 h] at hc; exact .inl hc
  | d :: cs, cur, x, h, c, hc => by
    unfold linesGo at h
    by_cases hd : d = 10
    · rw [if_pos hd] at h
      rcases List.mem_cons.1 h with rfl | h
      · exact .inl hc
      · rcases linesGo_mem cs [] x h c hc with h2 | h2
        · cases h2
        · exact .inr ⟨List.mem_cons_of_mem _ h2.1, h2.2⟩
    · rw [if_neg hd] at h
      rcases linesGo_mem cs _ x h c hc with h2 | h2
      · rcases List.mem_append.1 h2 with h2 | h2
        · exact .inl h2
        · rw [List.mem_singleton.1 h2]; exact .inr ⟨List.mem_cons_self, hd⟩
      · exact .inr ⟨List.mem_cons_of_mem _ h2.1, h2.2⟩
theorem linesGo_len : ∀ (l cur x : List UInt8), x ∈ linesGo cur l → x.length ≤ cur.length + l.length
  | [], cur, x, h => by
    unfold linesGo at h
    split at h
    · cases h
    · rw [List.mem_singleton.1 h]; simp
  | d :: cs, cur, x, h => by
    unfold linesGo at h
    by_cases hd : d = 10
    · rw [if_pos hd] at h
      rcases List.mem_cons.1 h with rfl | h
      · simp
      · have := linesGo_len cs [] x h; simp at this ⊢; omega
    · rw [if_neg hd] at h
      have := linesGo_len cs _ x h; simp at this ⊢; omega

/-- The words between blanks and tabs: as the reference cuts them. -/
def wordsGo : List UInt8 → List UInt8 → List (List UInt8)
  | cur, [] => if cur.isEmpty then [] else [cur]
  | cur, c :: cs => if c = 32 ∨ c = 9 then (if cur.isEmpty then wordsGo [] cs else cur :: wordsGo [] cs) else wordsGo (cur ++ [c]) cs
def wordsL (l : List UInt8) : List (List UInt8) := wordsGo [] l
theorem words_fields : ∀ (l cur : List UInt8), (∀ c ∈ l, Lib.isSp c = true → c = 32 ∨ c = 9) → Lib.fieldsGo cur l = wordsGo cur l
  | [], cur, _ => rfl
  | c :: cs, cur, h => by
    unfold Lib.fieldsGo wordsGo
    have ih := fun cur => words_fields cs cur (fun d hd => h d (List.mem_cons_of_mem _ hd))
    by_cases hc : c = 32 ∨ c = 9
    · rw [if_pos (by rcases hc with rfl | rfl <;> rfl), if_pos hc, ih]
    · rw [if_neg (fun h2 => hc (h c List.mem_cons_self h2)), if_neg hc, ih]
theorem wordsGo_size : ∀ (l cur : List UInt8), (wordsGo cur l).length ≤ l.length + 1
  | [], cur => by unfold wordsGo; split <;> simp
  | c :: cs, cur => by
    unfold wordsGo
    have h1 := wordsGo_size cs []
    have h2 := wordsGo_size cs (cur ++ [c])
    split
    · split <;> simp <;> omega
    · simp; omega
theorem wordsGo_mem : ∀ (l cur x : List UInt8), x ∈ wordsGo cur l → x ≠ [] ∧ x.length ≤ cur.length + l.length ∧ ∀ c ∈ x, c ∈ cur ∨ c ∈ l
  | [], cur, x, h => by
    unfold wordsGo at h
    cases cur with
    | nil => simp at h
    | cons a b => simp at h; subst h; simp
  | d :: cs, cur, x, h => by
    unfold wordsGo at h
    by_cases hd : d = 32 ∨ d = 9
    · rw [if_pos hd] at h
      have hrec : x ∈ wordsGo [] cs → x ≠ [] ∧ x.length ≤ cur.length + (d :: cs).length ∧ ∀ c ∈ x, c ∈ cur ∨ c ∈ d :: cs := by
        intro h
        have h2 := wordsGo_mem cs [] x h
        refine ⟨h2.1, by have := h2.2.1; simp at this ⊢; omega, fun c hc => ?_⟩
        rcases h2.2.2 c hc with h3 | h3
        · cases h3
        · exact .inr (List.mem_cons_of_mem _ h3)
      cases cur with
      | nil => exact hrec (by simpa using h)
      | cons a b =>
        rw [if_neg (by simp)] at h
        rcases List.mem_cons.1 h with rfl | h
        · exact ⟨by simp, by simp, fun c hc => .inl hc⟩
        · exact hrec h
    · rw [if_neg hd] at h
      have h2 := wordsGo_mem cs _ x h
      refine ⟨h2.1, by have := h2.2.1; simp at this ⊢; omega, fun c hc => ?_⟩
      rcases h2.2.2 c hc with h3 | h3
      · rcases List.mem_append.1 h3 with h4 | h4
        · exact .inl h4
        · exact .inr (by rw [List.mem_singleton.1 h4]; exact List.mem_cons_self)
      · exact .inr (List.mem_cons_of_mem _ h3)
end Go.Proofs.YtdmpbaanonafbaaGreatDoorPt
