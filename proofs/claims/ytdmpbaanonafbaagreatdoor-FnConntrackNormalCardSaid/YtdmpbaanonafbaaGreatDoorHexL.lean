import Derived.Test.YtdmpbaanonafbaaGreatDoorL3
import Derived.Test.YtdmpbaanonafbaaGreatDoorPlain
import Derived.Test.YtdmpbaanonafbaaGreatDoorGivDec
import Derived.Test.YtdmpbaanonafbaaGreatDoorGivPW
import Derived.Test.YtdmpbaanonafbaaGreatDoorScanL
import Derived.Test.YtdmpbaanonafbaaGreatDoorR1
/- What the reference's common functions on texts answer: every text of at most 100,000 bytes; no condition else. -/
set_option linter.unusedVariables false
set_option linter.unusedSimpArgs false
namespace Go.Proofs.YtdmpbaanonafbaaGreatDoor.Texts
open Go.RowKit Go.Proofs.YtdmpbaanonafbaaGreatDoor.L Go.Proofs.YtdmpbaanonafbaaGreatDoorW.PrintWords Go.Proofs.YtdmpbaanonafbaaGreatDoorW.PrintLast Go.Proofs.YtdmpbaanonafbaaGreatDoorPt Go.Proofs.YtdmpbaanonafbaaGreatDoor.GivDec

theorem wrap_in {x : Int} (h0 : -9223372036854775808 ≤ x) (h : x ≤ 9223372036854775807) : wrap64 x = x := by
  unfold wrap64
  omega
theorem wrapu_in {x : Int} (h0 : 0 ≤ x) (h : x ≤ 18446744073709551615) : IntKind.u64.wrap x = x := by
  rw [IntKind.wrap_u64]
  omega
theorem toList_data (s : ByteArray) : s.toList = s.data.toList := Lib.toList_data s
/-- Lines. -/
theorem lines_loop (s : ByteArray) (hs : s.size ≤ 100000) (d : Nat) : ∀ (out : List ByteArray) (a i : Nat), a ≤ i → i ≤ s.size → s.size - i = d → out.length ≤ i →
    Ev (fun k => spec_Lines.l0 k s out (a : Int) (s.size : Int) (i : Int)) (out ++ (linesGo ((s.data.toList.drop a).take (i - a)) (s.data.toList.drop i)).map toB) := by
  have hlen := len_data s
  induction d with
  | zero =>
    intro out a i h0 h1 hd ho
    have hi : i = s.size := by omega
    subst hi
    rw [List.drop_of_length_le (show s.data.toList.length ≤ s.size by omega)]
    refine Ev.step (f := fun _ => some (out ++ (linesGo ((s.data.toList.drop a).take (s.size - a)) []).map toB)) (fun k => ?_) (Ev.now _)
    simp only [spec_Lines.l0]
    rw [if_neg (by omega)]
    by_cases c : a < s.size
    · rw [if_pos (by omega), if_pos (by omega), if_pos (by omega), if_pos (by omega), extract_toB]
      have e : ((a : Int)).toNat = a := by omega
      rw [e]
      unfold linesGo
      rw [if_neg (by
        intro h
        have h2 := List.isEmpty_iff.1 h
        have h3 := congrArg List.length h2
        simp at h3
        omega)]
      simp
    · rw [if_neg (by omega)]
      have : (s.data.toList.drop a).take (s.size - a) = [] := by rw [show s.size - a = 0 by omega]; rfl
      rw [this]
      simp [linesGo]
  | succ d ih =>
    intro out a i h0 h1 hd ho
    have hi : i < s.size := by omega
    obtain ⟨c, hc, hb, hg⟩ := drop_data s i hi
    rw [hc]
    unfold linesGo
    by_cases h10 : c = 10
    · rw [if_pos h10]
      refine Ev.step (f := fun k => spec_Lines.l0 k s (out ++ [toB ((s.data.toList.drop a).take (i - a))]) ((i + 1 : Nat) : Int) (s.size : Int) ((i + 1 : Nat) : Int)) (fun k => ?_) ?_
      · simp only [spec_Lines.l0]
        rw [if_pos (by omega), if_pos (by omega), if_pos (by omega), hb, if_pos (by rw [h10]; rfl), if_pos (by omega), if_pos (by omega), if_pos (by omega), if_pos (by omega), wrap_in (by omega) (by omega), extract_toB]
        simp
      · have := ih (out ++ [toB ((s.data.toList.drop a).take (i - a))]) (i + 1) (i + 1) (by omega) (by omega) (by omega) (by simp; omega)
        rw [Nat.sub_self, List.take_zero] at this
        simpa using this
    · rw [if_neg h10]
      refine Ev.step (f := fun k => spec_Lines.l0 k s out (a : Int) (s.size : Int) ((i + 1 : Nat) : Int)) (fun k => ?_) ?_
      · simp only [spec_Lines.l0]
        rw [if_pos (by omega), if_pos (by omega), if_pos (by omega), hb, if_neg (by
          intro h
          apply h10
          have : c.toNat = 10 := by omega
          exact UInt8.toNat_inj.1 (by simpa using this)), wrap_in (by omega) (by omega)]
        rfl
      · have := ih out a (i + 1) (by omega) (by omega) (by omega) (by omega)
        rw [take_more _ a i c h0 hg] at this
        exact this
theorem lines_ev (s : ByteArray) (hs : s.size ≤ 100000) : Ev (fun k => spec_Lines.f k s) ((linesL s.data.toList).map toB) := by
  have := lines_loop s hs s.size [] 0 0 (by omega) (by omega) (by omega) (by simp)
  simpa [spec_Lines.f, linesL] using this

/-- Fields. -/
theorem fields_loop (s : ByteArray) (hs : s.size ≤ 100000) (d : Nat) : ∀ (out : List ByteArray) (fr : Int) (i : Nat), i ≤ s.size → s.size - i = d → out.length ≤ i → (fr = -1 ∨ (0 ≤ fr ∧ fr < i)) →
    Ev (fun k => spec_Fields.l0 k s out fr (s.size : Int) (i : Int)) (out ++ (wordsGo (if fr = -1 then [] else (s.data.toList.drop fr.toNat).take (i - fr.toNat)) (s.data.toList.drop i)).map toB) := by
  have hlen := len_data s
  induction d with
  | zero =>
    intro out fr i h1 hd ho hf
    have hi : i = s.size := by omega
    subst hi
    rw [List.drop_of_length_le (show s.data.toList.length ≤ s.size by omega)]
    refine Ev.step (f := fun _ => some (out ++ (wordsGo (if fr = -1 then [] else (s.data.toList.drop fr.toNat).take (s.size - fr.toNat)) []).map toB)) (fun k => ?_) (Ev.now _)
    simp only [spec_Fields.l0]
    rw [if_neg (by omega)]
    rcases hf with rfl | ⟨hf0, hf1⟩
    · rw [if_neg (by omega), if_pos rfl]
      simp [wordsGo]
    · rw [if_pos (by omega), if_pos (by omega), if_pos (by omega), if_pos (by omega), extract_toB, if_neg (by omega)]
      unfold wordsGo
      rw [if_neg (by
        intro h
        have h2 := List.isEmpty_iff.1 h
        have h3 := congrArg List.length h2
        simp at h3
        omega)]
      simp
  | succ d ih =>
    intro out fr i h1 hd ho hf
    have hi : i < s.size := by omega
    obtain ⟨c, hc, hb, hg⟩ := drop_data s i hi
    rw [hc]
    unfold wordsGo
    by_cases hbl : c = 32 ∨ c = 9
    · rw [if_pos hbl]
      have hj : ∀ k, spec_Fields.l0 (k + 1) s out fr (s.size : Int) (i : Int) = spec_Fields.j1 k s out fr (i : Int) true (s.size : Int) (i : Int) := by
        intro k
        simp only [spec_Fields.l0]
        rw [if_pos (by omega), if_pos (by omega), if_pos (by omega), hb]
        rcases hbl with rfl | rfl
        · rw [if_pos (show ((32 : UInt8).toNat : Int) = 32 from rfl)]
        · rw [if_neg (by decide)]
          rfl
      refine Ev.step hj ?_
      refine Ev.step (f := fun k => spec_Fields.j2 k s out fr (i : Int) true (s.size : Int) (i : Int) (decide (fr ≥ 0))) (fun k => by simp only [spec_Fields.j1, if_true]) ?_
      rcases hf with rfl | ⟨hf0, hf1⟩
      · rw [if_pos rfl, if_pos (by rfl)]
        refine Ev.step (f := fun k => spec_Fields.l0 k s out (-1) (s.size : Int) ((i + 1 : Nat) : Int)) (fun k => ?_) ?_
        · simp only [spec_Fields.j2]
          rw [if_neg (by simp), if_pos trivial, wrap_in (by omega) (by omega)]
          rfl
        · have := ih out (-1) (i + 1) (by omega) (by omega) (by omega) (.inl rfl)
          rw [if_pos rfl] at this
          exact this
      · have e : (if fr = -1 then ([] : List UInt8) else (s.data.toList.drop fr.toNat).take (i - fr.toNat)) = (s.data.toList.drop fr.toNat).take (i - fr.toNat) := if_neg (by omega)
        rw [e, if_neg (by
          intro h
          have h2 := List.isEmpty_iff.1 h
          have h3 := congrArg List.length h2
          simp at h3
          omega)]
        refine Ev.step (f := fun k => spec_Fields.l0 k s (out ++ [toB ((s.data.toList.drop fr.toNat).take (i - fr.toNat))]) (-1) (s.size : Int) ((i + 1 : Nat) : Int)) (fun k => ?_) ?_
        · simp only [spec_Fields.j2]
          rw [if_pos (by simp; omega), if_pos (by omega), if_pos (by omega), if_pos (by omega), if_pos (by omega), wrap_in (by omega) (by omega), extract_toB]
          rfl
        · have := ih (out ++ [toB ((s.data.toList.drop fr.toNat).take (i - fr.toNat))]) (-1) (i + 1) (by omega) (by omega) (by simp; omega) (.inl rfl)
          rw [if_pos rfl] at this
          simpa using this
    · rw [if_neg hbl]
      have hj : ∀ k, spec_Fields.l0 (k + 1) s out fr (s.size : Int) (i : Int) = spec_Fields.j1 k s out fr (i : Int) false (s.size : Int) (i : Int) := by
        intro k
        simp only [spec_Fields.l0]
        have n1 : ¬ (c.toNat : Int) = 32 := fun h => hbl (.inl (UInt8.toNat_inj.1 (by show c.toNat = 32; omega)))
        have n2 : ((c.toNat : Int) == 9) = false := by
          simp only [beq_eq_false_iff_ne, ne_eq]
          exact fun h => hbl (.inr (UInt8.toNat_inj.1 (by show c.toNat = 9; omega)))
        rw [if_pos (by omega), if_pos (by omega), if_pos (by omega), hb, if_neg n1, n2]
      refine Ev.step hj ?_
      refine Ev.step (f := fun k => spec_Fields.j2 k s out fr (i : Int) false (s.size : Int) (i : Int) false) (fun k => by simp only [spec_Fields.j1]; rw [if_neg (by simp)]) ?_
      rcases hf with rfl | ⟨hf0, hf1⟩
      · rw [if_pos rfl]
        refine Ev.step (f := fun k => spec_Fields.l0 k s out (i : Int) (s.size : Int) ((i + 1 : Nat) : Int)) (fun k => ?_) ?_
        · simp only [spec_Fields.j2]
          rw [if_neg (by simp), if_neg (by simp), if_pos (by omega), wrap_in (by omega) (by omega)]
          rfl
        · have := ih out (i : Int) (i + 1) (by omega) (by omega) (by omega) (.inr ⟨by omega, by omega⟩)
          rw [if_neg (by omega), Int.toNat_natCast, take_more _ i i c (by omega) hg, Nat.sub_self, List.take_zero] at this
          exact this
      · rw [if_neg (by omega)]
        refine Ev.step (f := fun k => spec_Fields.l0 k s out fr (s.size : Int) ((i + 1 : Nat) : Int)) (fun k => ?_) ?_
        · simp only [spec_Fields.j2]
          rw [if_neg (by simp), if_neg (by simp), if_neg (by omega), wrap_in (by omega) (by omega)]
          rfl
        · have := ih out fr (i + 1) (by omega) (by omega) (by omega) (.inr ⟨by omega, by omega⟩)
          rw [if_neg (by omega), take_more _ fr.toNat i c (by omega) hg] at this
          exact this
theorem fields_ev (s : ByteArray) (hs : s.size ≤ 100000) : Ev (fun k => spec_Fields.f k s) ((wordsL s.data.toList).map toB) := by
  have := fields_loop s hs s.size [] (-1) 0 (by omega) (by omega) (by simp) (.inl rfl)
  simpa [spec_Fields.f, wordsL] using this

/-- Plain. -/
theorem plain_loop (s : ByteArray) (hs : s.size ≤ 100000) (d : Nat) : ∀ (i : Nat), i ≤ s.size → s.size - i = d →
    ∃ b, Ev (fun k => spec_Plain.l0 k s (s.size : Int) (i : Int)) b ∧ (b = true → ∀ c ∈ s.data.toList.drop i, c.toNat ≤ 126 ∧ (c.toNat < 32 → c = 10 ∨ c = 9)) := by
  have hlen := len_data s
  induction d with
  | zero =>
    intro i h1 hd
    have hi : i = s.size := by omega
    subst hi
    refine ⟨true, Ev.step (f := fun _ => some true) (fun k => ?_) (Ev.now _), fun _ c hc => ?_⟩
    · simp only [spec_Plain.l0]
      rw [if_neg (by omega)]
    · rw [List.drop_of_length_le (by omega)] at hc; cases hc
  | succ d ih =>
    intro i h1 hd
    have hi : i < s.size := by omega
    obtain ⟨c, hc, hb, hg⟩ := drop_data s i hi
    obtain ⟨b, hE, hP⟩ := ih (i + 1) (by omega) (by omega)
    have hpre : ∀ k, spec_Plain.l0 (k + 1) s (s.size : Int) (i : Int) = (if (c.toNat : Int) > 126 then (some false) else (if (c.toNat : Int) < 32 then (if (c.toNat : Int) = 10 then (spec_Plain.l0 k s (s.size : Int) ((i + 1 : Nat) : Int)) else (if (c.toNat : Int) = 9 then (spec_Plain.l0 k s (s.size : Int) ((i + 1 : Nat) : Int)) else (some false))) else (spec_Plain.l0 k s (s.size : Int) ((i + 1 : Nat) : Int)))) := by
      intro k
      simp only [spec_Plain.l0]
      rw [if_pos (by omega), if_pos (by omega), if_pos (by omega), hb, wrap_in (by omega) (by omega)]
      rfl
    have good : (c.toNat ≤ 126 ∧ (c.toNat < 32 → c = 10 ∨ c = 9)) → b = true → ∀ e ∈ s.data.toList.drop i, e.toNat ≤ 126 ∧ (e.toNat < 32 → e = 10 ∨ e = 9) := by
      intro h1 h2 e he
      rw [hc] at he
      rcases List.mem_cons.1 he with rfl | he
      · exact h1
      · exact hP h2 e he
    by_cases c1 : (c.toNat : Int) > 126
    · exact ⟨false, Ev.step (f := fun _ => some false) (fun k => by rw [hpre, if_pos c1]) (Ev.now _), fun h => by cases h⟩
    · by_cases c2 : (c.toNat : Int) < 32
      · by_cases c3 : (c.toNat : Int) = 10
        · exact ⟨b, Ev.step (fun k => by rw [hpre, if_neg c1, if_pos c2, if_pos c3]) hE, good ⟨by omega, fun _ => .inl (UInt8.toNat_inj.1 (by show c.toNat = 10; omega))⟩⟩
        · by_cases c4 : (c.toNat : Int) = 9
          · exact ⟨b, Ev.step (fun k => by rw [hpre, if_neg c1, if_pos c2, if_neg c3, if_pos c4]) hE, good ⟨by omega, fun _ => .inr (UInt8.toNat_inj.1 (by show c.toNat = 9; omega))⟩⟩
          · exact ⟨false, Ev.step (f := fun _ => some false) (fun k => by rw [hpre, if_neg c1, if_pos c2, if_neg c3, if_neg c4]) (Ev.now _), fun h => by cases h⟩
      · exact ⟨b, Ev.step (fun k => by rw [hpre, if_neg c1, if_neg c2]) hE, good ⟨by omega, fun h => by omega⟩⟩
theorem plain_ev (s : ByteArray) (hs : s.size ≤ 100000) : ∃ b, Ev (fun k => spec_Plain.f k s) b ∧ (b = true → ∀ c ∈ s.data.toList, c.toNat ≤ 126 ∧ (c.toNat < 32 → c = 10 ∨ c = 9)) := by
  obtain ⟨b, h1, h2⟩ := plain_loop s hs s.size 0 (by omega) (by omega)
  exact ⟨b, h1, by simpa using h2⟩
end Go.Proofs.YtdmpbaanonafbaaGreatDoor.Texts

/- What the reference's common functions on numbers answer; no condition but sizes. -/
set_option linter.unusedVariables false
set_option linter.unusedSimpArgs false
namespace Go.Proofs.YtdmpbaanonafbaaGreatDoor.Texts
open Go.RowKit Go.Proofs.YtdmpbaanonafbaaGreatDoor.L Go.Proofs.YtdmpbaanonafbaaGreatDoorW.PrintWords Go.Proofs.YtdmpbaanonafbaaGreatDoorW.PrintLast Go.Proofs.YtdmpbaanonafbaaGreatDoorPt Go.Proofs.YtdmpbaanonafbaaGreatDoor.GivDec

theorem tmod_nat (n m : Nat) : Int.tmod (n : Int) (m : Int) = ((n % m : Nat) : Int) := by
  rw [Int.tmod_eq_emod_of_nonneg (by omega)]
  rfl
theorem tdiv_nat (n m : Nat) : Int.tdiv (n : Int) (m : Int) = ((n / m : Nat) : Int) := by
  rw [Int.tdiv_eq_ediv_of_nonneg (by omega)]
  rfl
theorem ofNums_one (x : Int) : (strOfNums [x]).size = 1 := by
  rw [Lib.size_eq, strOfNums_data]
  rfl
theorem bt_range (s : ByteArray) (i : Int) : 0 ≤ bt s i ∧ bt s i ≤ 255 := by
  unfold bt
  split
  · rename_i h
    have := (s[i.toNat]'h).toNat_lt
    omega
  · omega
theorem drop_list {α : Type} (l : List α) (z : α) (i : Nat) (h : i < l.length) : l.drop i = l.getD i z :: l.drop (i + 1) := by
  rw [List.drop_eq_getElem_cons h]
  congr 1
  simp [List.getD_eq_getElem?_getD, List.getElem?_eq_getElem h]
end Go.Proofs.YtdmpbaanonafbaaGreatDoor.Texts

/- Numbers as texts, exactly: the digits are read back as the number. -/
set_option linter.unusedVariables false
set_option linter.unusedSimpArgs false
namespace Go.Proofs.YtdmpbaanonafbaaGreatDoor.Texts
open Go.RowKit Go.Proofs.YtdmpbaanonafbaaGreatDoor.L Go.Proofs.YtdmpbaanonafbaaGreatDoorW.PrintWords Go.Proofs.YtdmpbaanonafbaaGreatDoorW.PrintLast Go.Proofs.YtdmpbaanonafbaaGreatDoorPt Go.Proofs.YtdmpbaanonafbaaGreatDoor.GivDec
theorem decv_snoc : ∀ (l : List UInt8) (acc v : Nat) (c : UInt8), decv acc l = some v → 48 ≤ c.toNat → c.toNat ≤ 57 → decv acc (l ++ [c]) = some (v * 10 + (c.toNat - 48))
  | [], acc, v, c, h, h1, h2 => by
    simp only [decv, Option.some.injEq] at h
    subst h
    simp only [List.nil_append, decv]
    rw [if_pos ⟨h1, h2⟩]
  | a :: l, acc, v, c, h, h1, h2 => by
    rw [decv] at h
    rw [List.cons_append, decv]
    by_cases k : 48 ≤ a.toNat ∧ a.toNat ≤ 57
    · rw [if_pos k] at h ⊢
      exact decv_snoc l _ v c h h1 h2
    · rw [if_neg k] at h; cases h
theorem digit_char (r : Nat) (h : r < 10) : ∃ c : UInt8, (strOfNums [bt (⟨#[48, 49, 50, 51, 52, 53, 54, 55, 56, 57, 97, 98, 99, 100, 101, 102]⟩ : ByteArray) ((r : Nat) : Int)]).data.toList = [c] ∧ c.toNat = 48 + r := by
  have : r = 0 ∨ r = 1 ∨ r = 2 ∨ r = 3 ∨ r = 4 ∨ r = 5 ∨ r = 6 ∨ r = 7 ∨ r = 8 ∨ r = 9 := by omega
  rcases this with rfl | rfl | rfl | rfl | rfl | rfl | rfl | rfl | rfl | rfl <;> exact ⟨_, by rw [strOfNums_data]; rfl, by decide⟩
theorem app_data (a b : ByteArray) : (a ++ b).data.toList = a.data.toList ++ b.data.toList := by
  rw [ByteArray.data_append, Array.toList_append]
/-- The text x is of digits that say n. -/
def SaysN (x : ByteArray) (n : Nat) : Prop := 0 < x.size ∧ decv 0 x.data.toList = some n
theorem digits_is : ∀ (d n : Nat), n < 10 ^ (d + 1) → n ≤ 18446744073709551615 → d ≤ 100 → ∃ s : ByteArray, Ev (fun k => spec_Digits.f k (n : Int) 10) s ∧ s.size ≤ d + 1 ∧ SaysN s n
  | d, n, h, hn, hd => by
    have e1 : Int.tmod (n : Int) 10 = ((n % 10 : Nat) : Int) := tmod_nat n 10
    have e2 : Int.tdiv (n : Int) 10 = ((n / 10 : Nat) : Int) := tdiv_nat n 10
    obtain ⟨ch, hch, hcn⟩ := digit_char (n % 10) (by omega)
    rw [← e1] at hch
    by_cases hs : n < 10
    · refine ⟨strOfNums [bt (⟨#[48, 49, 50, 51, 52, 53, 54, 55, 56, 57, 97, 98, 99, 100, 101, 102]⟩ : ByteArray) (Int.tmod (n : Int) 10)], Ev.step (f := fun _ => some (strOfNums [bt (⟨#[48, 49, 50, 51, 52, 53, 54, 55, 56, 57, 97, 98, 99, 100, 101, 102]⟩ : ByteArray) (Int.tmod (n : Int) 10)])) (fun k => ?_) (Ev.now _), ?_, ?_, ?_⟩
      · simp only [spec_Digits.f]
        rw [if_neg (by decide), if_pos (by rw [e1]; omega), if_pos (by rw [e1]; omega), if_pos (by omega)]
      · rw [ofNums_one]; omega
      · rw [ofNums_one]; omega
      · rw [hch, decv, if_pos ⟨by omega, by omega⟩, decv, hcn]
        congr 1
        omega
    · cases d with
      | zero => simp at h; omega
      | succ d =>
        have hp : (10 : Nat) ^ (d + 1 + 1) = 10 ^ (d + 1) * 10 := Nat.pow_succ 10 (d + 1)
        obtain ⟨s, hE, hS, hS0, hS1⟩ := digits_is d (n / 10) (by omega) (by omega) (by omega)
        refine ⟨s ++ strOfNums [bt (⟨#[48, 49, 50, 51, 52, 53, 54, 55, 56, 57, 97, 98, 99, 100, 101, 102]⟩ : ByteArray) (Int.tmod (n : Int) 10)], Ev.step (f := fun k => (spec_Digits.f k ((n / 10 : Nat) : Int) 10).bind fun t => (some [bt (⟨#[48, 49, 50, 51, 52, 53, 54, 55, 56, 57, 97, 98, 99, 100, 101, 102]⟩ : ByteArray) (Int.tmod (n : Int) 10)]).bind fun y => if t.size + (strOfNums y).size ≤ 9223372036854775807 then some (t ++ strOfNums y) else none) (fun k => ?_) (Ev.bind hE ?_), ?_, ?_, ?_⟩
        · simp only [spec_Digits.f]
          rw [if_neg (by decide), if_pos (by rw [e1]; omega), if_pos (by rw [e1]; omega), if_neg (by omega), e2, wrapu_in (by omega) (by omega)]
        · exact Ev.congr (f := fun _ => some (s ++ strOfNums [bt (⟨#[48, 49, 50, 51, 52, 53, 54, 55, 56, 57, 97, 98, 99, 100, 101, 102]⟩ : ByteArray) (Int.tmod (n : Int) 10)])) (fun k => by simp only [Option.bind_some]; rw [if_pos (by rw [ofNums_one]; omega)]) (Ev.now _)
        · rw [ByteArray.size_append, ofNums_one]; omega
        · rw [ByteArray.size_append, ofNums_one]; omega
        · rw [app_data, hch, decv_snoc _ _ _ _ hS1 (by omega) (by omega), hcn]
          congr 1
          omega
theorem text_is (v : Int) (h0 : 0 ≤ v) (h1 : v ≤ 18446744073709551615) : ∃ s : ByteArray, Ev (fun k => spec_Text.f k v) s ∧ s.size ≤ 20 ∧ SaysN s v.toNat ∧ (v < 10000000000 → s.size ≤ 10) := by
  obtain ⟨n, rfl⟩ := Int.eq_ofNat_of_zero_le h0
  by_cases c : n < 10000000000
  · obtain ⟨s, hE, hS, hN⟩ := digits_is 9 n c (by omega) (by omega)
    exact ⟨s, Ev.bind hE (Ev.now _), by omega, hN, fun _ => hS⟩
  · obtain ⟨s, hE, hS, hN⟩ := digits_is 19 n (Nat.lt_of_le_of_lt (show n ≤ 18446744073709551615 by omega) (by decide)) (by omega) (by omega)
    exact ⟨s, Ev.bind hE (Ev.now _), hS, hN, fun h => absurd h (by omega)⟩
end Go.Proofs.YtdmpbaanonafbaaGreatDoor.Texts

/- Numbers of base sixteen as texts, exactly: what the reference reads and writes. -/
set_option linter.unusedVariables false
set_option linter.unusedSimpArgs false
namespace Go.Proofs.YtdmpbaanonafbaaGreatDoor.HexT
open Go.RowKit Go.Proofs.YtdmpbaanonafbaaGreatDoor.L Go.Proofs.YtdmpbaanonafbaaGreatDoorW.PrintWords Go.Proofs.YtdmpbaanonafbaaGreatDoorW.PrintLast Go.Proofs.YtdmpbaanonafbaaGreatDoorPt Go.Proofs.YtdmpbaanonafbaaGreatDoor.GivHex Go.Proofs.YtdmpbaanonafbaaGreatDoor.Texts
/-- A sign's value to the reference. -/
def digS (c : Int) : Int := if 48 ≤ c ∧ c ≤ 57 then c - 48 else if 97 ≤ c ∧ c ≤ 102 then c - 97 + 10 else if 65 ≤ c ∧ c ≤ 70 then c - 65 + 10 else 99
theorem digit_is (c : Int) (h0 : 0 ≤ c) (h1 : c ≤ 255) : Ev (fun k => spec_digit.f k c) (digS c) := by
  unfold digS
  by_cases a : 48 ≤ c ∧ c ≤ 57
  · rw [if_pos a]
    refine Ev.congr (f := fun k => spec_digit.j0 k c true) (fun k => by unfold spec_digit.f; rw [if_pos (by omega), decide_eq_true (by omega)]) (Ev.step (f := fun _ => some (c - 48)) (fun k => ?_) (Ev.now _))
    simp only [spec_digit.j0]
    rw [if_pos trivial, Int.emod_eq_of_lt (by omega) (by omega)]
  · rw [if_neg a]
    have hj : ∀ k, spec_digit.f (k + 1) c = if c ≥ 97 then spec_digit.j1 k c (decide (c ≤ 102)) else spec_digit.j1 k c false := by
      intro k
      unfold spec_digit.f
      by_cases b : c ≥ 48
      · rw [if_pos b, decide_eq_false (by omega)]
        simp only [spec_digit.j0]
        rw [if_neg (by simp)]
      · rw [if_neg b]
        simp only [spec_digit.j0]
        rw [if_neg (by simp)]
    by_cases b : 97 ≤ c ∧ c ≤ 102
    · rw [if_pos b]
      refine Ev.step (f := fun k => spec_digit.j1 k c true) (fun k => by rw [hj, if_pos (show c ≥ 97 from b.1), decide_eq_true b.2]) (Ev.step (f := fun _ => some (c - 97 + 10)) (fun k => ?_) (Ev.now _))
      simp only [spec_digit.j1]
      rw [if_pos trivial, Int.emod_eq_of_lt (by omega) (by omega)]
    · rw [if_neg b]
      have hj2 : ∀ k, spec_digit.f (k + 1) c = spec_digit.j1 k c false := by
        intro k
        rw [hj]
        by_cases b2 : c ≥ 97
        · rw [if_pos b2, decide_eq_false (by omega)]
        · rw [if_neg b2]
      by_cases d : 65 ≤ c ∧ c ≤ 70
      · rw [if_pos d]
        refine Ev.step hj2 (Ev.step (f := fun _ => some (c - 65 + 10)) (fun k => ?_) (Ev.now _))
        simp only [spec_digit.j1]
        rw [if_neg (by simp), if_pos (show c ≥ 65 from d.1), if_pos d.2, Int.emod_eq_of_lt (by omega) (by omega)]
      · rw [if_neg d]
        refine Ev.step hj2 (Ev.step (f := fun _ => some 99) (fun k => ?_) (Ev.now _))
        simp only [spec_digit.j1]
        rw [if_neg (by simp)]
        by_cases d2 : c ≥ 65
        · rw [if_pos d2, if_neg (by omega)]
        · rw [if_neg d2]
theorem digS_dig (c : UInt8) (h : digS (c.toNat : Int) < 16) : ∃ d : Nat, dig c = some d ∧ digS (c.toNat : Int) = (d : Int) ∧ d < 16 := by
  by_cases a : 48 ≤ c.toNat ∧ c.toNat ≤ 57
  · refine ⟨c.toNat - 48, by unfold dig; rw [if_pos a], ?_, by omega⟩
    unfold digS; rw [if_pos (by omega)]; omega
  · by_cases b : 97 ≤ c.toNat ∧ c.toNat ≤ 102
    · refine ⟨c.toNat - 87, by unfold dig; rw [if_neg a, if_pos b], ?_, by omega⟩
      unfold digS; rw [if_neg (by omega), if_pos (by omega)]; omega
    · by_cases d : 65 ≤ c.toNat ∧ c.toNat ≤ 70
      · refine ⟨c.toNat - 55, by unfold dig; rw [if_neg a, if_neg b, if_pos d], ?_, by omega⟩
        unfold digS; rw [if_neg (by omega), if_neg (by omega), if_pos (by omega)]; omega
      · exfalso
        unfold digS at h; rw [if_neg (by omega), if_neg (by omega), if_neg (by omega)] at h; omega
theorem digS_range (c : Int) : 0 ≤ digS c ∧ digS c ≤ 99 := by
  unfold digS
  split
  · omega
  · split
    · omega
    · split <;> omega
theorem number16_loop (s : ByteArray) (hs : s.size ≤ 100000) (d : Nat) : ∀ (n i : Nat), n ≤ 18446744073709551615 → i ≤ s.size → s.size - i = d →
    ∃ (v : Int) (ok : Bool), Ev (fun k => spec_Number.l0 k s 16 (n : Int) (s.size : Int) (i : Int)) (v, ok) ∧ 0 ≤ v ∧ v ≤ 18446744073709551615 ∧ (ok = true → hexv n (s.data.toList.drop i) = some v.toNat ∧ 0 < s.size) := by
  have hlen := len_data s
  induction d with
  | zero =>
    intro n i hn h1 hd
    have hi : i = s.size := by omega
    subst hi
    refine ⟨(n : Int), (s.toList != ([] : List UInt8)), Ev.step (f := fun _ => some ((n : Int), (s.toList != ([] : List UInt8)))) (fun k => ?_) (Ev.now _), by omega, by omega, fun h => ?_⟩
    · simp only [spec_Number.l0]
      rw [if_neg (by omega)]
    · rw [List.drop_of_length_le (by omega)]
      refine ⟨by simp [hexv], ?_⟩
      rw [toList_data] at h
      rcases Nat.eq_zero_or_pos s.size with h0 | h0
      · have : s.data.toList = [] := List.length_eq_zero_iff.1 (by omega)
        rw [this] at h
        simp at h
      · exact h0
  | succ d ih =>
    intro n i hn h1 hd
    have hi : i < s.size := by omega
    obtain ⟨c, hc, hb, hg⟩ := drop_data s i hi
    have hc256 := c.toNat_lt
    have hT := digit_is (c.toNat : Int) (by omega) (by omega)
    obtain ⟨t0, t1⟩ := digS_range (c.toNat : Int)
    have hD := digS_dig c
    generalize digS (c.toNat : Int) = t at hT t0 t1 hD
    have hpre : ∀ k, spec_Number.l0 (k + 1) s 16 (n : Int) (s.size : Int) (i : Int) = (spec_digit.f k (c.toNat : Int)).bind fun t138 => (if t138 ≥ 16 then (some (0, false)) else (if (16 : Int) = 0 then (none) else (if (n : Int) > (IntKind.u64.wrap (Int.tdiv (IntKind.u64.wrap (18446744073709551615 - t138)) 16)) then (some (0, false)) else (spec_Number.l0 k s 16 (IntKind.u64.wrap ((IntKind.u64.wrap ((n : Int) * 16)) + t138)) (s.size : Int) ((i + 1 : Nat) : Int))))) := by
      intro k
      simp only [spec_Number.l0]
      rw [if_pos (by omega), if_pos (by omega), if_pos (by omega), hb, wrap_in (by omega) (by omega)]
      rfl
    by_cases c1 : t ≥ 16
    · exact ⟨0, false, Ev.step hpre (Ev.bind hT (Ev.congr (f := fun _ => some (0, false)) (fun k => by rw [if_pos c1]) (Ev.now _))), by omega, by omega, fun h => by cases h⟩
    · have c1' : t < 16 := by omega
      obtain ⟨dg, hdg, ht, hd16⟩ := hD c1'
      subst ht
      clear hD c1'
      obtain ⟨m, hm⟩ := Int.eq_ofNat_of_zero_le (show 0 ≤ 18446744073709551615 - (dg : Int) by omega)
      have hq : IntKind.u64.wrap (Int.tdiv (IntKind.u64.wrap (18446744073709551615 - (dg : Int))) 16) = ((m / 16 : Nat) : Int) := by
        rw [wrapu_in (x := 18446744073709551615 - (dg : Int)) (by omega) (by omega), hm, show (16 : Int) = ((16 : Nat) : Int) from rfl, tdiv_nat, wrapu_in (by omega) (by omega)]
      by_cases c2 : (n : Int) > ((m / 16 : Nat) : Int)
      · exact ⟨0, false, Ev.step hpre (Ev.bind hT (Ev.congr (f := fun _ => some (0, false)) (fun k => by rw [if_neg c1, if_neg (by decide), hq, if_pos c2]) (Ev.now _))), by omega, by omega, fun h => by cases h⟩
      · have hn2 : n * 16 + dg ≤ 18446744073709551615 := by omega
        obtain ⟨v, ok, hE, v0, v1, hV⟩ := ih (n * 16 + dg) (i + 1) hn2 (by omega) (by omega)
        refine ⟨v, ok, Ev.step hpre (Ev.bind hT (Ev.congr (fun k => ?_) hE)), v0, v1, fun h => ?_⟩
        · rw [if_neg c1, if_neg (by decide), hq, if_neg c2, wrapu_in (x := (n : Int) * 16) (by omega) (by omega), wrapu_in (by omega) (by omega)]
          congr 1
        · obtain ⟨h2, h3⟩ := hV h
          refine ⟨?_, h3⟩
          rw [hc]
          unfold hexv
          rw [hdg, Option.bind_some]
          exact h2
/-- A text's number in base sixteen. -/
def HexOf (x : ByteArray) (v : Int) : Prop := 0 ≤ v ∧ v ≤ 18446744073709551615 ∧ 0 < x.size ∧ hexv 0 x.data.toList = some v.toNat
theorem hex_ev (s : ByteArray) (hs : s.size ≤ 100000) : ∃ (v : Int) (ok : Bool), Ev (fun k => spec_Number.f k s 16) (v, ok) ∧ 0 ≤ v ∧ v ≤ 18446744073709551615 ∧ (ok = true → HexOf s v) := by
  obtain ⟨v, ok, hE, h0, h1, h2⟩ := number16_loop s hs s.size 0 0 (by omega) (by omega) (by omega)
  refine ⟨v, ok, hE, h0, h1, fun h => ?_⟩
  obtain ⟨h3, h4⟩ := h2 h
  exact ⟨h0, h1, h4, by simpa using h3⟩
theorem hexv_snoc : ∀ (l : List UInt8) (acc v : Nat) (c : UInt8) (d : Nat), hexv acc l = some v → dig c = some d → hexv acc (l ++ [c]) = some (v * 16 + d)
  | [], acc, v, c, d, h, h1 => by
    simp only [hexv, Option.some.injEq] at h
    subst h
    simp [hexv, h1]
  | a :: l, acc, v, c, d, h, h1 => by
    rw [hexv] at h
    rw [List.cons_append, hexv]
    cases k : dig a with
    | none => rw [k] at h; cases h
    | some e =>
      rw [k, Option.bind_some] at h
      rw [Option.bind_some]
      exact hexv_snoc l _ v c d h h1
theorem hex_char (r : Nat) (h : r < 16) : ∃ c : UInt8, (strOfNums [bt (⟨#[48, 49, 50, 51, 52, 53, 54, 55, 56, 57, 97, 98, 99, 100, 101, 102]⟩ : ByteArray) ((r : Nat) : Int)]).data.toList = [c] ∧ dig c = some r := by
  have : r = 0 ∨ r = 1 ∨ r = 2 ∨ r = 3 ∨ r = 4 ∨ r = 5 ∨ r = 6 ∨ r = 7 ∨ r = 8 ∨ r = 9 ∨ r = 10 ∨ r = 11 ∨ r = 12 ∨ r = 13 ∨ r = 14 ∨ r = 15 := by omega
  rcases this with rfl | rfl | rfl | rfl | rfl | rfl | rfl | rfl | rfl | rfl | rfl | rfl | rfl | rfl | rfl | rfl <;> exact ⟨_, by rw [strOfNums_data]; rfl, by decide⟩
/-- The text x is of hexadecimal digits that say n. -/
def SaysH (x : ByteArray) (n : Nat) : Prop := 0 < x.size ∧ hexv 0 x.data.toList = some n
theorem digits16_is : ∀ (d n : Nat), n < 16 ^ (d + 1) → n ≤ 18446744073709551615 → d ≤ 100 → ∃ s : ByteArray, Ev (fun k => spec_Digits.f k (n : Int) 16) s ∧ s.size ≤ d + 1 ∧ SaysH s n
  | d, n, h, hn, hd => by
    have e1 : Int.tmod (n : Int) 16 = ((n % 16 : Nat) : Int) := tmod_nat n 16
    have e2 : Int.tdiv (n : Int) 16 = ((n / 16 : Nat) : Int) := tdiv_nat n 16
    obtain ⟨ch, hch, hcn⟩ := hex_char (n % 16) (by omega)
    rw [← e1] at hch
    by_cases hs : n < 16
    · refine ⟨strOfNums [bt (⟨#[48, 49, 50, 51, 52, 53, 54, 55, 56, 57, 97, 98, 99, 100, 101, 102]⟩ : ByteArray) (Int.tmod (n : Int) 16)], Ev.step (f := fun _ => some (strOfNums [bt (⟨#[48, 49, 50, 51, 52, 53, 54, 55, 56, 57, 97, 98, 99, 100, 101, 102]⟩ : ByteArray) (Int.tmod (n : Int) 16)])) (fun k => ?_) (Ev.now _), ?_, ?_, ?_⟩
      · simp only [spec_Digits.f]
        rw [if_neg (by decide), if_pos (by rw [e1]; omega), if_pos (by rw [e1]; omega), if_pos (by omega)]
      · rw [ofNums_one]; omega
      · rw [ofNums_one]; omega
      · rw [hch, hexv, hcn, Option.bind_some, hexv]
        congr 1
        omega
    · cases d with
      | zero => simp at h; omega
      | succ d =>
        have hp : (16 : Nat) ^ (d + 1 + 1) = 16 ^ (d + 1) * 16 := Nat.pow_succ 16 (d + 1)
        obtain ⟨s, hE, hS, hS0, hS1⟩ := digits16_is d (n / 16) (by omega) (by omega) (by omega)
        refine ⟨s ++ strOfNums [bt (⟨#[48, 49, 50, 51, 52, 53, 54, 55, 56, 57, 97, 98, 99, 100, 101, 102]⟩ : ByteArray) (Int.tmod (n : Int) 16)], Ev.step (f := fun k => (spec_Digits.f k ((n / 16 : Nat) : Int) 16).bind fun t => (some [bt (⟨#[48, 49, 50, 51, 52, 53, 54, 55, 56, 57, 97, 98, 99, 100, 101, 102]⟩ : ByteArray) (Int.tmod (n : Int) 16)]).bind fun y => if t.size + (strOfNums y).size ≤ 9223372036854775807 then some (t ++ strOfNums y) else none) (fun k => ?_) (Ev.bind hE ?_), ?_, ?_, ?_⟩
        · simp only [spec_Digits.f]
          rw [if_neg (by decide), if_pos (by rw [e1]; omega), if_pos (by rw [e1]; omega), if_neg (by omega), e2, wrapu_in (by omega) (by omega)]
        · exact Ev.congr (f := fun _ => some (s ++ strOfNums [bt (⟨#[48, 49, 50, 51, 52, 53, 54, 55, 56, 57, 97, 98, 99, 100, 101, 102]⟩ : ByteArray) (Int.tmod (n : Int) 16)])) (fun k => by simp only [Option.bind_some]; rw [if_pos (by rw [ofNums_one]; omega)]) (Ev.now _)
        · rw [ByteArray.size_append, ofNums_one]; omega
        · rw [ByteArray.size_append, ofNums_one]; omega
        · rw [app_data, hch, hexv_snoc _ _ _ _ _ hS1 hcn]
          congr 1
          omega
end Go.Proofs.YtdmpbaanonafbaaGreatDoor.HexT

/- Rows of hexadecimal numbers as texts: what the reference writes of them, and what the program reads of a plain line. -/
set_option linter.unusedVariables false
set_option linter.unusedSimpArgs false
namespace Go.Proofs.YtdmpbaanonafbaaGreatDoor.HexL
open Go.RowKit Go.Proofs.YtdmpbaanonafbaaGreatDoorW.PrintWords Go.Proofs.YtdmpbaanonafbaaGreatDoorW.PrintLast Go.Proofs.YtdmpbaanonafbaaGreatDoorPt Go.Proofs.YtdmpbaanonafbaaGreatDoor.GivZ Go.Proofs.YtdmpbaanonafbaaGreatDoor.GivHex Go.Proofs.YtdmpbaanonafbaaGreatDoor.GivPW Go.Proofs.YtdmpbaanonafbaaGreatDoor.Texts Go.Proofs.YtdmpbaanonafbaaGreatDoor.HexT Go.Proofs.YtdmpbaanonafbaaGreatDoor.ScanL Go.Proofs.YtdmpbaanonafbaaGreatDoor.R
theorem dig_lt {c : UInt8} {d : Nat} (h : dig c = some d) : d < 16 ∧ 33 ≤ c.toNat ∧ c.toNat ≤ 126 := by
  unfold dig at h
  by_cases a : 48 ≤ c.toNat ∧ c.toNat ≤ 57
  · rw [if_pos a] at h; have := Option.some.inj h; omega
  · rw [if_neg a] at h
    by_cases b : 97 ≤ c.toNat ∧ c.toNat ≤ 102
    · rw [if_pos b] at h; have := Option.some.inj h; omega
    · rw [if_neg b] at h
      by_cases e : 65 ≤ c.toNat ∧ c.toNat ≤ 70
      · rw [if_pos e] at h; have := Option.some.inj h; omega
      · rw [if_neg e] at h; cases h
theorem hexv_lt : ∀ (l : List UInt8) (acc v : Nat), hexv acc l = some v → v < (acc + 1) * 16 ^ l.length
  | [], acc, v, h => by simp [hexv] at h; simp; omega
  | c :: l, acc, v, h => by
    rw [hexv] at h
    obtain ⟨d, hd, h⟩ := Option.bind_eq_some_iff.1 h
    have h1 := (dig_lt hd).1
    have h2 := hexv_lt l _ v h
    have h3 : (acc * 16 + d + 1) * 16 ^ l.length ≤ ((acc + 1) * 16) * 16 ^ l.length := Nat.mul_le_mul_right _ (by omega)
    rw [List.length_cons, Nat.pow_succ, Nat.mul_comm (16 ^ l.length) 16, ← Nat.mul_assoc]
    omega
theorem hexv_bytes : ∀ (l : List UInt8) (acc v : Nat), hexv acc l = some v → ∀ c ∈ l, 33 ≤ c.toNat ∧ c.toNat ≤ 126
  | [], _, _, _, c, hc => by cases hc
  | a :: l, acc, v, h, c, hc => by
    rw [hexv] at h
    obtain ⟨d, hd, h⟩ := Option.bind_eq_some_iff.1 h
    rcases List.mem_cons.1 hc with rfl | hc
    · exact (dig_lt hd).2
    · exact hexv_bytes l _ v h c hc
/-- A word of eight hexadecimal digits that says v. -/
structure H8 (x : List UInt8) (v : Int) : Prop where
  len : x.length = 8
  lo : 0 ≤ v
  hi : v ≤ 4294967295
  val : hexv 0 x = some v.toNat
theorem h8_of {s : ByteArray} {v : Int} (h : HexOf s v) (h8 : s.size = 8) : H8 s.data.toList v := by
  obtain ⟨h0, h1, h2, h3⟩ := h
  have hl : s.data.toList.length = 8 := by rw [len_data]; exact h8
  have := hexv_lt _ _ _ h3
  rw [hl] at this
  exact ⟨hl, h0, by omega, h3⟩
theorem H8.bytes {x : List UInt8} {v : Int} (h : H8 x v) : ∀ c ∈ x, 33 ≤ c.toNat ∧ c.toNat ≤ 126 := hexv_bytes _ _ _ h.val
theorem H8.ne {x : List UInt8} {v : Int} (h : H8 x v) : x ≠ [] := by
  rintro rfl
  exact absurd h.len (by decide)
theorem hexv_zeros (l : List UInt8) : hexv 0 (48 :: l) = hexv 0 l := by
  rw [hexv, show dig 48 = some 0 from rfl, Option.bind_some]
theorem padded_loop (d : Nat) : ∀ (x : ByteArray) (v : Nat), x.size + d = 8 → hexv 0 x.data.toList = some v → ∃ s : ByteArray, Ev (fun k => spec_Padded.l0 k 8 x) s ∧ s.size = 8 ∧ hexv 0 s.data.toList = some v := by
  induction d with
  | zero =>
    intro x v hx hv
    refine ⟨x, Ev.step (f := fun _ => some x) (fun k => ?_) (Ev.now _), by omega, hv⟩
    simp only [spec_Padded.l0]
    rw [if_neg (by omega)]
  | succ d ih =>
    intro x v hx hv
    obtain ⟨s, hE, hs, hv2⟩ := ih ((⟨#[48]⟩ : ByteArray) ++ x) v (by rw [ByteArray.size_append]; show 1 + _ + _ = _; omega) (by
      rw [app_data, show (⟨#[48]⟩ : ByteArray).data.toList = [48] from rfl, List.singleton_append, hexv_zeros]
      exact hv)
    refine ⟨s, Ev.step (fun k => ?_) hE, hs, hv2⟩
    simp only [spec_Padded.l0]
    rw [if_pos (by omega), if_pos (by omega)]
theorem padded_is (v : Int) (h0 : 0 ≤ v) (h1 : v ≤ 4294967295) : ∃ s : ByteArray, Ev (fun k => spec_Padded.f k v 16 8) s ∧ H8 s.data.toList v := by
  obtain ⟨n, rfl⟩ := Int.eq_ofNat_of_zero_le h0
  obtain ⟨s, hE, hS, hS0, hS1⟩ := digits16_is 7 n (Nat.lt_of_lt_of_eq (show n < 4294967296 by omega) (by decide)) (by omega) (by omega)
  obtain ⟨t, hT, t1, t2⟩ := padded_loop (8 - s.size) s n (by omega) hS1
  exact ⟨t, Ev.bind hE hT, by rw [len_data]; exact t1, h0, h1, by rw [t2]; rfl⟩
theorem counted_loop (l : List Int) (f0 : ByteArray) (f2 : List ByteArray) (hl : l.length ≤ 200000) (hb : ∀ v ∈ l, 0 ≤ v ∧ v ≤ 4294967295) (m : Int) (hm : (l.length : Int) = m) (d : Nat) : ∀ (i : Nat), i ≤ l.length → l.length - i = d →
    Ev (fun k => spec_counted.l0 k m 32 0 l (l.length : Int) (i : Int) f0 l f2) ((f2.length : Int) == 0) := by
  have hw1 : wrap64 (32 - 1) = 31 := by decide +kernel
  have hw2 : IntKind.u64.wrap (IntKind.u64.wrap (shl .u64 1 31 * 2) - 1) = 4294967295 := by decide +kernel
  induction d with
  | zero =>
    intro i h1 hd
    refine Ev.step (f := fun _ => some ((f2.length : Int) == 0)) (fun k => ?_) (Ev.now _)
    simp only [spec_counted.l0]
    rw [if_neg (by omega), if_pos hm]
  | succ d ih =>
    intro i h1 hd
    have hi : i < l.length := by omega
    have hmem : l.getD i 0 ∈ l := by
      rw [List.getD_eq_getElem?_getD, List.getElem?_eq_getElem hi]
      exact List.getElem_mem hi
    have hv := hb _ hmem
    refine Ev.step (fun k => ?_) (ih (i + 1) (by omega) (by omega))
    simp only [spec_counted.l0]
    rw [if_pos (by omega), if_pos (by omega), if_pos (by omega), hw1, if_pos (by decide), hw2, if_neg (show ¬ rd l (i : Int) > 4294967295 by
      show ¬ l.getD ((i : Int)).toNat 0 > _
      rw [Int.toNat_natCast]
      omega), wrap_in (by omega) (by omega)]
    rfl
theorem counted_is (l : List Int) (f0 : ByteArray) (f2 : List ByteArray) (hl : l.length ≤ 200000) (hb : ∀ v ∈ l, 0 ≤ v ∧ v ≤ 4294967295) (m : Int) (hm : (l.length : Int) = m) : Ev (fun k => spec_counted.f k f0 l f2 m 32 0) ((f2.length : Int) == 0) :=
  counted_loop l f0 f2 hl hb m hm l.length 0 (by omega) (by omega)
/-- A line without signs of control but tabs. -/
def PlainL (l : List UInt8) : Prop := ∀ c ∈ l, c.toNat ≤ 126 ∧ (c.toNat < 32 → c = 9)
theorem fields_plain (l : List UInt8) (h : PlainL l) (hl : l.length ≤ 100000) : strings_Fields.f (toB l) = some ((wordsL l).map toB) := by
  unfold strings_Fields.f
  rw [toB_size, toB_data, if_pos ⟨by omega, List.all_eq_true.2 (fun c hc => decide_eq_true (by have := (h c hc).1; omega))⟩]
  unfold Lib.fields wordsL
  rw [words_fields l [] (fun c hc hsp => ?_)]
  · rfl
  · simp only [Lib.isSp, Bool.or_eq_true, beq_iff_eq] at hsp
    rcases hsp with ((((h1 | h1) | h1) | h1) | h1) | h1
    all_goals first | exact .inl h1 | exact .inr h1 | (exfalso; subst h1; have := (h _ hc).2 (by decide); exact absurd this (by decide))
theorem lines_plain {l : List UInt8} (h : ∀ c ∈ l, c.toNat ≤ 126 ∧ (c.toNat < 32 → c = 10 ∨ c = 9)) : ∀ x ∈ linesL l, PlainL x := by
  intro x hx c hc
  rcases linesGo_mem l [] x hx c hc with h1 | ⟨h1, h2⟩
  · cases h1
  · refine ⟨(h c h1).1, fun h3 => ?_⟩
    rcases (h c h1).2 h3 with h4 | h4
    · exact absurd h4 h2
    · exact h4
theorem plain_fits {l : List UInt8} (h : ∀ x ∈ linesL l, PlainL x) (hl : l.length ≤ 60000) : fits l = true := by
  refine fits_of (by omega) (fun x hx => ⟨?_, fun e => ?_⟩)
  · have := linesGo_len l [] x hx
    simp at this
    omega
  · have := (h x hx 13 (List.mem_of_getLast? e)).2 (by decide)
    exact absurd this (by decide)
theorem words_last : ∀ (p cur : List UInt8), (∀ c ∈ p, c ≠ 32 ∧ c ≠ 9) → cur ++ p ≠ [] → wordsGo cur p = [cur ++ p]
  | [], cur, h, hne => by
    rw [List.append_nil] at hne ⊢
    rw [wordsGo, if_neg (by simpa using hne)]
  | a :: p, cur, h, hne => by
    have ha := h a List.mem_cons_self
    rw [wordsGo, if_neg (by intro e; rcases e with e | e; exact ha.1 e; exact ha.2 e)]
    have := words_last p (cur ++ [a]) (fun c hc => h c (List.mem_cons_of_mem _ hc)) (by simp)
    rw [this]
    simp
theorem all2_left {α β : Type} {P : α → β → Prop} {Q : α → Prop} (hPQ : ∀ x y, P x y → Q x) : ∀ (xs : List α) (ys : List β), all2 P xs ys → ∀ x ∈ xs, Q x
  | [], _, _, x, hx => by cases hx
  | a :: xs, b :: ys, h, x, hx => by
    rcases List.mem_cons.1 hx with rfl | hx
    · exact hPQ _ _ h.1
    · exact all2_left hPQ xs ys h.2 x hx
  | _ :: _, [], h, _, _ => h.elim
theorem all2_right {α β : Type} {P : α → β → Prop} {Q : β → Prop} (hPQ : ∀ x y, P x y → Q y) : ∀ (xs : List α) (ys : List β), all2 P xs ys → ∀ y ∈ ys, Q y
  | _, [], _, y, hy => by cases hy
  | a :: xs, b :: ys, h, y, hy => by
    rcases List.mem_cons.1 hy with rfl | hy
    · exact hPQ _ _ h.1
    · exact all2_right hPQ xs ys h.2 y hy
  | [], _ :: _, h, _, _ => h.elim
end Go.Proofs.YtdmpbaanonafbaaGreatDoor.HexL
