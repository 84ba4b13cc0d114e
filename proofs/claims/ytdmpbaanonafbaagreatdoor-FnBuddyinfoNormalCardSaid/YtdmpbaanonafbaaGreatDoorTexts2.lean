import Derived.Test.YtdmpbaanonafbaaGreatDoorL3
import Derived.Test.YtdmpbaanonafbaaGreatDoorPlain
import Derived.Test.YtdmpbaanonafbaaGreatDoorGivDec
/- What the reference's common functions on texts answer: every text of at most 100,000 bytes; no condition else. -/
set_option linter.unusedVariables false
set_option linter.unusedSimpArgs false
namespace Go.Proofs.YtdmpbaanonafbaaGreatDoor.Texts
open Go.RowKit Go.Proofs.YtdmpbaanonafbaaGreatDoor.L Go.Proofs.YtdmpbaanonafbaaGreatDoorW.PrintWords Go.Proofs.YtdmpbaanonafbaaGreatDoorW.PrintLast Go.Proofs.YtdmpbaanonafbaaGreatDoorPt Go.Proofs.YtdmpbaanonafbaaGreatDoor.GivDec

theorem wrap_in {x : Int} (h0 : -9223372036854775808 ≤ x) (h : x ≤ 9223372036854775807) : wrap64 x = x := by
  unfold wrap64
  omega
theorem wrapu_in {x : Int} (h0 : 0 ≤ x) (h : x ≤ 18446744073709551615) : IntKind.u64.wrap x = x := by
  rw [IntKind.wrap_u64]
  omega
theorem toList_data (s : ByteArray) : s.toList = s.data.toList := Lib.toList_data s
theorem toList_eq_iff (a b : ByteArray) : a.toList = b.toList ↔ a = b := by
  constructor
  · intro h
    rw [Lib.toList_data, Lib.toList_data] at h
    exact data_inj h
  · rintro rfl; rfl

/-- Lines. -/
theorem lines_loop (s : ByteArray) (hs : s.size ≤ 100000) (d : Nat) : ∀ (out : List ByteArray) (a i : Nat), a ≤ i → i ≤ s.size → s.size - i = d → out.length ≤ i →
    Ev (fun k => spec_Lines.l0 k s out (a : Int) (s.size : Int) (i : Int)) (out ++ (linesGo ((s.data.toList.drop a).take (i - a)) (s.data.toList.drop i)).map toB) := by
  have hlen := len_data s
  induction d with
  | zero =>
    intro out a i h0 h1 hd ho
    have hi : i = s.size := by omega
    subst hi
    rw [List.drop_of_length_le (show s.data.toList.length ≤ s.size by omega)]
    refine Ev.step (f := fun _ => some (out ++ (linesGo ((s.data.toList.drop a).take (s.size - a)) []).map toB)) (fun k => ?_) (Ev.now _)
    simp only [spec_Lines.l0]
    rw [if_neg (by omega)]
    by_cases c : a < s.size
    · rw [if_pos (by omega), if_pos (by omega), if_pos (by omega), if_pos (by omega), extract_toB]
      have e : ((a : Int)).toNat = a := by omega
      rw [e]
      unfold linesGo
      rw [if_neg (by
        intro h
        have h2 := List.isEmpty_iff.1 h
        have h3 := congrArg List.length h2
        simp at h3
        omega)]
      simp
    · rw [if_neg (by omega)]
      have : (s.data.toList.drop a).take (s.size - a) = [] := by rw [show s.size - a = 0 by omega]; rfl
      rw [this]
      simp [linesGo]
  | succ d ih =>
    intro out a i h0 h1 hd ho
    have hi : i < s.size := by omega
    obtain ⟨c, hc, hb, hg⟩ := drop_data s i hi
    rw [hc]
    unfold linesGo
    by_cases h10 : c = 10
    · rw [if_pos h10]
      refine Ev.step (f := fun k => spec_Lines.l0 k s (out ++ [toB ((s.data.toList.drop a).take (i - a))]) ((i + 1 : Nat) : Int) (s.size : Int) ((i + 1 : Nat) : Int)) (fun k => ?_) ?_
      · simp only [spec_Lines.l0]
        rw [if_pos (by omega), if_pos (by omega), if_pos (by omega), hb, if_pos (by rw [h10]; rfl), if_pos (by omega), if_pos (by omega), if_pos (by omega), if_pos (by omega), wrap_in (by omega) (by omega), extract_toB]
        simp
      · have := ih (out ++ [toB ((s.data.toList.drop a).take (i - a))]) (i + 1) (i + 1) (by omega) (by omega) (by omega) (by simp; omega)
        rw [Nat.sub_self, List.take_zero] at this
        simpa using this
    · rw [if_neg h10]
      refine Ev.step (f := fun k => spec_Lines.l0 k s out (a : Int) (s.size : Int) ((i + 1 : Nat) : Int)) (fun k => ?_) ?_
      · simp only [spec_Lines.l0]
        rw [if_pos (by omega), if_pos (by omega), if_pos (by omega), hb, if_neg (by
          intro h
          apply h10
          have : c.toNat = 10 := by omega
          exact UInt8.toNat_inj.1 (by simpa using this)), wrap_in (by omega) (by omega)]
        rfl
      · have := ih out a (i + 1) (by omega) (by omega) (by omega) (by omega)
        rw [take_more _ a i c h0 hg] at this
        exact this
theorem lines_ev (s : ByteArray) (hs : s.size ≤ 100000) : Ev (fun k => spec_Lines.f k s) ((linesL s.data.toList).map toB) := by
  have := lines_loop s hs s.size [] 0 0 (by omega) (by omega) (by omega) (by simp)
  simpa [spec_Lines.f, linesL] using this

/-- Fields. -/
theorem fields_loop (s : ByteArray) (hs : s.size ≤ 100000) (d : Nat) : ∀ (out : List ByteArray) (fr : Int) (i : Nat), i ≤ s.size → s.size - i = d → out.length ≤ i → (fr = -1 ∨ (0 ≤ fr ∧ fr < i)) →
    Ev (fun k => spec_Fields.l0 k s out fr (s.size : Int) (i : Int)) (out ++ (wordsGo (if fr = -1 then [] else (s.data.toList.drop fr.toNat).take (i - fr.toNat)) (s.data.toList.drop i)).map toB) := by
  have hlen := len_data s
  induction d with
  | zero =>
    intro out fr i h1 hd ho hf
    have hi : i = s.size := by omega
    subst hi
    rw [List.drop_of_length_le (show s.data.toList.length ≤ s.size by omega)]
    refine Ev.step (f := fun _ => some (out ++ (wordsGo (if fr = -1 then [] else (s.data.toList.drop fr.toNat).take (s.size - fr.toNat)) []).map toB)) (fun k => ?_) (Ev.now _)
    simp only [spec_Fields.l0]
    rw [if_neg (by omega)]
    rcases hf with rfl | ⟨hf0, hf1⟩
    · rw [if_neg (by omega), if_pos rfl]
      simp [wordsGo]
    · rw [if_pos (by omega), if_pos (by omega), if_pos (by omega), if_pos (by omega), extract_toB, if_neg (by omega)]
      unfold wordsGo
      rw [if_neg (by
        intro h
        have h2 := List.isEmpty_iff.1 h
        have h3 := congrArg List.length h2
        simp at h3
        omega)]
      simp
  | succ d ih =>
    intro out fr i h1 hd ho hf
    have hi : i < s.size := by omega
    obtain ⟨c, hc, hb, hg⟩ := drop_data s i hi
    rw [hc]
    unfold wordsGo
    by_cases hbl : c = 32 ∨ c = 9
    · rw [if_pos hbl]
      have hj : ∀ k, spec_Fields.l0 (k + 1) s out fr (s.size : Int) (i : Int) = spec_Fields.j1 k s out fr (i : Int) true (s.size : Int) (i : Int) := by
        intro k
        simp only [spec_Fields.l0]
        rw [if_pos (by omega), if_pos (by omega), if_pos (by omega), hb]
        rcases hbl with rfl | rfl
        · rw [if_pos (show ((32 : UInt8).toNat : Int) = 32 from rfl)]
        · rw [if_neg (by decide)]
          rfl
      refine Ev.step hj ?_
      refine Ev.step (f := fun k => spec_Fields.j2 k s out fr (i : Int) true (s.size : Int) (i : Int) (decide (fr ≥ 0))) (fun k => by simp only [spec_Fields.j1, if_true]) ?_
      rcases hf with rfl | ⟨hf0, hf1⟩
      · rw [if_pos rfl, if_pos (by rfl)]
        refine Ev.step (f := fun k => spec_Fields.l0 k s out (-1) (s.size : Int) ((i + 1 : Nat) : Int)) (fun k => ?_) ?_
        · simp only [spec_Fields.j2]
          rw [if_neg (by simp), if_pos trivial, wrap_in (by omega) (by omega)]
          rfl
        · have := ih out (-1) (i + 1) (by omega) (by omega) (by omega) (.inl rfl)
          rw [if_pos rfl] at this
          exact this
      · have e : (if fr = -1 then ([] : List UInt8) else (s.data.toList.drop fr.toNat).take (i - fr.toNat)) = (s.data.toList.drop fr.toNat).take (i - fr.toNat) := if_neg (by omega)
        rw [e, if_neg (by
          intro h
          have h2 := List.isEmpty_iff.1 h
          have h3 := congrArg List.length h2
          simp at h3
          omega)]
        refine Ev.step (f := fun k => spec_Fields.l0 k s (out ++ [toB ((s.data.toList.drop fr.toNat).take (i - fr.toNat))]) (-1) (s.size : Int) ((i + 1 : Nat) : Int)) (fun k => ?_) ?_
        · simp only [spec_Fields.j2]
          rw [if_pos (by simp; omega), if_pos (by omega), if_pos (by omega), if_pos (by omega), if_pos (by omega), wrap_in (by omega) (by omega), extract_toB]
          rfl
        · have := ih (out ++ [toB ((s.data.toList.drop fr.toNat).take (i - fr.toNat))]) (-1) (i + 1) (by omega) (by omega) (by simp; omega) (.inl rfl)
          rw [if_pos rfl] at this
          simpa using this
    · rw [if_neg hbl]
      have hj : ∀ k, spec_Fields.l0 (k + 1) s out fr (s.size : Int) (i : Int) = spec_Fields.j1 k s out fr (i : Int) false (s.size : Int) (i : Int) := by
        intro k
        simp only [spec_Fields.l0]
        have n1 : ¬ (c.toNat : Int) = 32 := fun h => hbl (.inl (UInt8.toNat_inj.1 (by show c.toNat = 32; omega)))
        have n2 : ((c.toNat : Int) == 9) = false := by
          simp only [beq_eq_false_iff_ne, ne_eq]
          exact fun h => hbl (.inr (UInt8.toNat_inj.1 (by show c.toNat = 9; omega)))
        rw [if_pos (by omega), if_pos (by omega), if_pos (by omega), hb, if_neg n1, n2]
      refine Ev.step hj ?_
      refine Ev.step (f := fun k => spec_Fields.j2 k s out fr (i : Int) false (s.size : Int) (i : Int) false) (fun k => by simp only [spec_Fields.j1]; rw [if_neg (by simp)]) ?_
      rcases hf with rfl | ⟨hf0, hf1⟩
      · rw [if_pos rfl]
        refine Ev.step (f := fun k => spec_Fields.l0 k s out (i : Int) (s.size : Int) ((i + 1 : Nat) : Int)) (fun k => ?_) ?_
        · simp only [spec_Fields.j2]
          rw [if_neg (by simp), if_neg (by simp), if_pos (by omega), wrap_in (by omega) (by omega)]
          rfl
        · have := ih out (i : Int) (i + 1) (by omega) (by omega) (by omega) (.inr ⟨by omega, by omega⟩)
          rw [if_neg (by omega), Int.toNat_natCast, take_more _ i i c (by omega) hg, Nat.sub_self, List.take_zero] at this
          exact this
      · rw [if_neg (by omega)]
        refine Ev.step (f := fun k => spec_Fields.l0 k s out fr (s.size : Int) ((i + 1 : Nat) : Int)) (fun k => ?_) ?_
        · simp only [spec_Fields.j2]
          rw [if_neg (by simp), if_neg (by simp), if_neg (by omega), wrap_in (by omega) (by omega)]
          rfl
        · have := ih out fr (i + 1) (by omega) (by omega) (by omega) (.inr ⟨by omega, by omega⟩)
          rw [if_neg (by omega), take_more _ fr.toNat i c (by omega) hg] at this
          exact this
theorem fields_ev (s : ByteArray) (hs : s.size ≤ 100000) : Ev (fun k => spec_Fields.f k s) ((wordsL s.data.toList).map toB) := by
  have := fields_loop s hs s.size [] (-1) 0 (by omega) (by omega) (by simp) (.inl rfl)
  simpa [spec_Fields.f, wordsL] using this

/-- Plain. -/
theorem plain_loop (s : ByteArray) (hs : s.size ≤ 100000) (d : Nat) : ∀ (i : Nat), i ≤ s.size → s.size - i = d →
    ∃ b, Ev (fun k => spec_Plain.l0 k s (s.size : Int) (i : Int)) b ∧ (b = true → ∀ c ∈ s.data.toList.drop i, c.toNat ≤ 126 ∧ (c.toNat < 32 → c = 10 ∨ c = 9)) := by
  have hlen := len_data s
  induction d with
  | zero =>
    intro i h1 hd
    have hi : i = s.size := by omega
    subst hi
    refine ⟨true, Ev.step (f := fun _ => some true) (fun k => ?_) (Ev.now _), fun _ c hc => ?_⟩
    · simp only [spec_Plain.l0]
      rw [if_neg (by omega)]
    · rw [List.drop_of_length_le (by omega)] at hc; cases hc
  | succ d ih =>
    intro i h1 hd
    have hi : i < s.size := by omega
    obtain ⟨c, hc, hb, hg⟩ := drop_data s i hi
    obtain ⟨b, hE, hP⟩ := ih (i + 1) (by omega) (by omega)
    have hpre : ∀ k, spec_Plain.l0 (k + 1) s (s.size : Int) (i : Int) = (if (c.toNat : Int) > 126 then (some false) else (if (c.toNat : Int) < 32 then (if (c.toNat : Int) = 10 then (spec_Plain.l0 k s (s.size : Int) ((i + 1 : Nat) : Int)) else (if (c.toNat : Int) = 9 then (spec_Plain.l0 k s (s.size : Int) ((i + 1 : Nat) : Int)) else (some false))) else (spec_Plain.l0 k s (s.size : Int) ((i + 1 : Nat) : Int)))) := by
      intro k
      simp only [spec_Plain.l0]
      rw [if_pos (by omega), if_pos (by omega), if_pos (by omega), hb, wrap_in (by omega) (by omega)]
      rfl
    have good : (c.toNat ≤ 126 ∧ (c.toNat < 32 → c = 10 ∨ c = 9)) → b = true → ∀ e ∈ s.data.toList.drop i, e.toNat ≤ 126 ∧ (e.toNat < 32 → e = 10 ∨ e = 9) := by
      intro h1 h2 e he
      rw [hc] at he
      rcases List.mem_cons.1 he with rfl | he
      · exact h1
      · exact hP h2 e he
    by_cases c1 : (c.toNat : Int) > 126
    · exact ⟨false, Ev.step (f := fun _ => some false) (fun k => by rw [hpre, if_pos c1]) (Ev.now _), fun h => by cases h⟩
    · by_cases c2 : (c.toNat : Int) < 32
      · by_cases c3 : (c.toNat : Int) = 10
        · exact ⟨b, Ev.step (fun k => by rw [hpre, if_neg c1, if_pos c2, if_pos c3]) hE, good ⟨by omega, fun _ => .inl (UInt8.toNat_inj.1 (by show c.toNat = 10; omega))⟩⟩
        · by_cases c4 : (c.toNat : Int) = 9
          · exact ⟨b, Ev.step (fun k => by rw [hpre, if_neg c1, if_pos c2, if_neg c3, if_pos c4]) hE, good ⟨by omega, fun _ => .inr (UInt8.toNat_inj.1 (by show c.toNat = 9; omega))⟩⟩
          · exact ⟨false, Ev.step (f := fun _ => some false) (fun k => by rw [hpre, if_neg c1, if_pos c2, if_neg c3, if_neg c4]) (Ev.now _), fun h => by cases h⟩
      · exact ⟨b, Ev.step (fun k => by rw [hpre, if_neg c1, if_neg c2]) hE, good ⟨by omega, fun h => by omega⟩⟩
theorem plain_ev (s : ByteArray) (hs : s.size ≤ 100000) : ∃ b, Ev (fun k => spec_Plain.f k s) b ∧ (b = true → ∀ c ∈ s.data.toList, c.toNat ≤ 126 ∧ (c.toNat < 32 → c = 10 ∨ c = 9)) := by
  obtain ⟨b, h1, h2⟩ := plain_loop s hs s.size 0 (by omega) (by omega)
  exact ⟨b, h1, by simpa using h2⟩
end Go.Proofs.YtdmpbaanonafbaaGreatDoor.Texts

/- What the reference's common functions on numbers answer; no condition but sizes. -/
set_option linter.unusedVariables false
set_option linter.unusedSimpArgs false
namespace Go.Proofs.YtdmpbaanonafbaaGreatDoor.Texts
open Go.RowKit Go.Proofs.YtdmpbaanonafbaaGreatDoor.L Go.Proofs.YtdmpbaanonafbaaGreatDoorW.PrintWords Go.Proofs.YtdmpbaanonafbaaGreatDoorW.PrintLast Go.Proofs.YtdmpbaanonafbaaGreatDoorPt Go.Proofs.YtdmpbaanonafbaaGreatDoor.GivDec

theorem tmod_nat (n m : Nat) : Int.tmod (n : Int) (m : Int) = ((n % m : Nat) : Int) := by
  rw [Int.tmod_eq_emod_of_nonneg (by omega)]
  rfl
theorem tdiv_nat (n m : Nat) : Int.tdiv (n : Int) (m : Int) = ((n / m : Nat) : Int) := by
  rw [Int.tdiv_eq_ediv_of_nonneg (by omega)]
  rfl
theorem ofNums_one (x : Int) : (strOfNums [x]).size = 1 := by
  rw [Lib.size_eq, strOfNums_data]
  rfl
/-- Digits in base ten: there are some, and not many. -/
theorem digits_ev : ∀ (d n : Nat), n < 10 ^ (d + 1) → n ≤ 18446744073709551615 → d ≤ 100 → ∃ s : ByteArray, Ev (fun k => spec_Digits.f k (n : Int) 10) s ∧ s.size ≤ d + 1
  | d, n, h, hn, hd => by
    have e1 : Int.tmod (n : Int) 10 = ((n % 10 : Nat) : Int) := tmod_nat n 10
    have e2 : Int.tdiv (n : Int) 10 = ((n / 10 : Nat) : Int) := tdiv_nat n 10
    by_cases hs : n < 10
    · refine ⟨strOfNums [bt (⟨#[48, 49, 50, 51, 52, 53, 54, 55, 56, 57, 97, 98, 99, 100, 101, 102]⟩ : ByteArray) (Int.tmod (n : Int) 10)], Ev.step (f := fun _ => some (strOfNums [bt (⟨#[48, 49, 50, 51, 52, 53, 54, 55, 56, 57, 97, 98, 99, 100, 101, 102]⟩ : ByteArray) (Int.tmod (n : Int) 10)])) (fun k => ?_) (Ev.now _), ?_⟩
      · simp only [spec_Digits.f]
        rw [if_neg (by decide), if_pos (by rw [e1]; omega), if_pos (by rw [e1]; omega), if_pos (by omega)]
      · rw [ofNums_one]; omega
    · cases d with
      | zero => simp at h; omega
      | succ d =>
        have hp : (10 : Nat) ^ (d + 1 + 1) = 10 ^ (d + 1) * 10 := Nat.pow_succ 10 (d + 1)
        obtain ⟨s, hE, hS⟩ := digits_ev d (n / 10) (by omega) (by omega) (by omega)
        refine ⟨s ++ strOfNums [bt (⟨#[48, 49, 50, 51, 52, 53, 54, 55, 56, 57, 97, 98, 99, 100, 101, 102]⟩ : ByteArray) (Int.tmod (n : Int) 10)], Ev.step (f := fun k => (spec_Digits.f k ((n / 10 : Nat) : Int) 10).bind fun t => (some [bt (⟨#[48, 49, 50, 51, 52, 53, 54, 55, 56, 57, 97, 98, 99, 100, 101, 102]⟩ : ByteArray) (Int.tmod (n : Int) 10)]).bind fun y => if t.size + (strOfNums y).size ≤ 9223372036854775807 then some (t ++ strOfNums y) else none) (fun k => ?_) (Ev.bind hE ?_), ?_⟩
        · simp only [spec_Digits.f]
          rw [if_neg (by decide), if_pos (by rw [e1]; omega), if_pos (by rw [e1]; omega), if_neg (by omega), e2, wrapu_in (by omega) (by omega)]
        · exact Ev.congr (f := fun _ => some (s ++ strOfNums [bt (⟨#[48, 49, 50, 51, 52, 53, 54, 55, 56, 57, 97, 98, 99, 100, 101, 102]⟩ : ByteArray) (Int.tmod (n : Int) 10)])) (fun k => by simp only [Option.bind_some]; rw [if_pos (by rw [ofNums_one]; omega)]) (Ev.now _)
        · rw [ByteArray.size_append, ofNums_one]; omega
theorem text_ev (v : Int) (h0 : 0 ≤ v) (h1 : v ≤ 18446744073709551615) : ∃ s : ByteArray, Ev (fun k => spec_Text.f k v) s ∧ s.size ≤ 20 := by
  obtain ⟨n, rfl⟩ := Int.eq_ofNat_of_zero_le h0
  obtain ⟨s, hE, hS⟩ := digits_ev 19 n (Nat.lt_of_le_of_lt (show n ≤ 18446744073709551615 by omega) (by decide)) (by omega) (by omega)
  exact ⟨s, Ev.bind hE (Ev.now _), hS⟩

theorem digit_ev (c : Int) (h0 : 0 ≤ c) (h1 : c ≤ 255) : ∃ d : Int, Ev (fun k => spec_digit.f k c) d ∧ 0 ≤ d ∧ d ≤ 99 ∧ (d < 10 → 48 ≤ c ∧ c ≤ 57 ∧ d = c - 48) := by
  by_cases a : 48 ≤ c ∧ c ≤ 57
  · refine ⟨c - 48, Ev.congr (f := fun k => spec_digit.j0 k c true) (fun k => by unfold spec_digit.f; rw [if_pos (by omega), decide_eq_true (by omega)]) (Ev.step (f := fun _ => some (c - 48)) (fun k => ?_) (Ev.now _)), by omega, by omega, fun _ => ⟨a.1, a.2, rfl⟩⟩
    simp only [spec_digit.j0]
    rw [if_pos trivial, Int.emod_eq_of_lt (by omega) (by omega)]
  · have hj : ∀ k, spec_digit.f (k + 1) c = if c ≥ 97 then spec_digit.j1 k c (decide (c ≤ 102)) else spec_digit.j1 k c false := by
      intro k
      unfold spec_digit.f
      by_cases b : c ≥ 48
      · rw [if_pos b, decide_eq_false (by omega)]
        simp only [spec_digit.j0]
        rw [if_neg (by simp)]
      · rw [if_neg b]
        simp only [spec_digit.j0]
        rw [if_neg (by simp)]
    by_cases b : c ≥ 97 ∧ c ≤ 102
    · refine ⟨c - 97 + 10, Ev.step (f := fun k => spec_digit.j1 k c true) (fun k => by rw [hj, if_pos b.1, decide_eq_true b.2]) (Ev.step (f := fun _ => some (c - 97 + 10)) (fun k => ?_) (Ev.now _)), by omega, by omega, fun h => by omega⟩
      simp only [spec_digit.j1]
      rw [if_pos trivial, Int.emod_eq_of_lt (by omega) (by omega)]
    · have hj2 : ∀ k, spec_digit.f (k + 1) c = spec_digit.j1 k c false := by
        intro k
        rw [hj]
        by_cases b2 : c ≥ 97
        · rw [if_pos b2, decide_eq_false (by omega)]
        · rw [if_neg b2]
      by_cases d : c ≥ 65 ∧ c ≤ 70
      · refine ⟨c - 65 + 10, Ev.step hj2 (Ev.step (f := fun _ => some (c - 65 + 10)) (fun k => ?_) (Ev.now _)), by omega, by omega, fun h => by omega⟩
        simp only [spec_digit.j1]
        rw [if_neg (by simp), if_pos d.1, if_pos d.2, Int.emod_eq_of_lt (by omega) (by omega)]
      · refine ⟨99, Ev.step hj2 (Ev.step (f := fun _ => some 99) (fun k => ?_) (Ev.now _)), by omega, by omega, fun h => by omega⟩
        simp only [spec_digit.j1]
        rw [if_neg (by simp)]
        by_cases d2 : c ≥ 65
        · rw [if_pos d2, if_neg (by omega)]
        · rw [if_neg d2]

theorem bt_range (s : ByteArray) (i : Int) : 0 ≤ bt s i ∧ bt s i ≤ 255 := by
  unfold bt
  split
  · rename_i h
    have := (s[i.toNat]'h).toNat_lt
    omega
  · omega
theorem number_loop (s : ByteArray) (hs : s.size ≤ 100000) (d : Nat) : ∀ (n i : Nat), n ≤ 18446744073709551615 → i ≤ s.size → s.size - i = d →
    ∃ (v : Int) (ok : Bool), Ev (fun k => spec_Number.l0 k s 10 (n : Int) (s.size : Int) (i : Int)) (v, ok) ∧ 0 ≤ v ∧ v ≤ 18446744073709551615 ∧ (ok = true → decv n (s.data.toList.drop i) = some v.toNat ∧ 0 < s.size) := by
  have hlen := len_data s
  induction d with
  | zero =>
    intro n i hn h1 hd
    have hi : i = s.size := by omega
    subst hi
    refine ⟨(n : Int), (s.toList != ([] : List UInt8)), Ev.step (f := fun _ => some ((n : Int), (s.toList != ([] : List UInt8)))) (fun k => ?_) (Ev.now _), by omega, by omega, fun h => ?_⟩
    · simp only [spec_Number.l0]
      rw [if_neg (by omega)]
    · rw [List.drop_of_length_le (by omega)]
      refine ⟨by simp [decv], ?_⟩
      rw [toList_data] at h
      rcases Nat.eq_zero_or_pos s.size with h0 | h0
      · have : s.data.toList = [] := List.length_eq_zero_iff.1 (by omega)
        rw [this] at h
        simp at h
      · exact h0
  | succ d ih =>
    intro n i hn h1 hd
    have hi : i < s.size := by omega
    obtain ⟨c, hc, hb, hg⟩ := drop_data s i hi
    have hc256 := c.toNat_lt
    obtain ⟨t, hT, t0, t1, t2⟩ := digit_ev (c.toNat : Int) (by omega) (by omega)
    have hpre : ∀ k, spec_Number.l0 (k + 1) s 10 (n : Int) (s.size : Int) (i : Int) = (spec_digit.f k (c.toNat : Int)).bind fun t138 => (if t138 ≥ 10 then (some (0, false)) else (if (10 : Int) = 0 then (none) else (if (n : Int) > (IntKind.u64.wrap (Int.tdiv (IntKind.u64.wrap (18446744073709551615 - t138)) 10)) then (some (0, false)) else (spec_Number.l0 k s 10 (IntKind.u64.wrap ((IntKind.u64.wrap ((n : Int) * 10)) + t138)) (s.size : Int) ((i + 1 : Nat) : Int))))) := by
      intro k
      simp only [spec_Number.l0]
      rw [if_pos (by omega), if_pos (by omega), if_pos (by omega), hb, wrap_in (by omega) (by omega)]
      rfl
    by_cases c1 : t ≥ 10
    · exact ⟨0, false, Ev.step hpre (Ev.bind hT (Ev.congr (f := fun _ => some (0, false)) (fun k => by rw [if_pos c1]) (Ev.now _))), by omega, by omega, fun h => by cases h⟩
    · obtain ⟨t3, t4, t5⟩ := t2 (by omega)
      obtain ⟨m, hm⟩ := Int.eq_ofNat_of_zero_le (show 0 ≤ 18446744073709551615 - t by omega)
      have hq : IntKind.u64.wrap (Int.tdiv (IntKind.u64.wrap (18446744073709551615 - t)) 10) = ((m / 10 : Nat) : Int) := by
        rw [wrapu_in (x := 18446744073709551615 - t) (by omega) (by omega), hm, show (10 : Int) = ((10 : Nat) : Int) from rfl, tdiv_nat, wrapu_in (by omega) (by omega)]
      by_cases c2 : (n : Int) > ((m / 10 : Nat) : Int)
      · exact ⟨0, false, Ev.step hpre (Ev.bind hT (Ev.congr (f := fun _ => some (0, false)) (fun k => by rw [if_neg c1, if_neg (by decide), hq, if_pos c2]) (Ev.now _))), by omega, by omega, fun h => by cases h⟩
      · have hn2 : n * 10 + (c.toNat - 48) ≤ 18446744073709551615 := by omega
        obtain ⟨v, ok, hE, v0, v1, hV⟩ := ih (n * 10 + (c.toNat - 48)) (i + 1) hn2 (by omega) (by omega)
        refine ⟨v, ok, Ev.step hpre (Ev.bind hT (Ev.congr (fun k => ?_) hE)), v0, v1, fun h => ?_⟩
        · rw [if_neg c1, if_neg (by decide), hq, if_neg c2, wrapu_in (x := (n : Int) * 10) (by omega) (by omega), wrapu_in (by omega) (by omega)]
          congr 1
          omega
        · obtain ⟨h2, h3⟩ := hV h
          refine ⟨?_, h3⟩
          rw [hc]
          unfold decv
          rw [if_pos (by omega)]
          exact h2
/-- A text's number in base ten. -/
def DecOf (x : ByteArray) (v : Int) : Prop := 0 ≤ v ∧ v ≤ 18446744073709551615 ∧ 0 < x.size ∧ decv 0 x.data.toList = some v.toNat
theorem dec_ev (s : ByteArray) (hs : s.size ≤ 100000) : ∃ (v : Int) (ok : Bool), Ev (fun k => spec_Dec.f k s) (v, ok) ∧ 0 ≤ v ∧ v ≤ 18446744073709551615 ∧ (ok = true → DecOf s v) := by
  obtain ⟨v, ok, hE, h0, h1, h2⟩ := number_loop s hs s.size 0 0 (by omega) (by omega) (by omega)
  refine ⟨v, ok, Ev.bind hE (Ev.now _), h0, h1, fun h => ?_⟩
  obtain ⟨h3, h4⟩ := h2 h
  exact ⟨h0, h1, h4, by simpa using h3⟩
def allDec : List ByteArray → List Int → Prop
  | [], [] => True
  | x :: xs, v :: vs => DecOf x v ∧ allDec xs vs
  | _, _ => False
theorem allDec_len : ∀ (xs : List ByteArray) (vs : List Int), allDec xs vs → xs.length = vs.length
  | [], [], _ => rfl
  | x :: xs, v :: vs, h => by simp [allDec_len xs vs h.2]
  | [], _ :: _, h => h.elim
  | _ :: _, [], h => h.elim
theorem allDec_get : ∀ (xs : List ByteArray) (vs : List Int), allDec xs vs → ∀ i, i < xs.length → DecOf (xs.getD i ByteArray.empty) (vs.getD i 0)
  | [], _, _, i, h => by simp at h
  | x :: xs, v :: vs, h, 0, _ => by simpa using h.1
  | x :: xs, v :: vs, h, i + 1, hi => by simpa using allDec_get xs vs h.2 i (by simpa using hi)
  | _ :: _, [], h, _, _ => h.elim
theorem drop_list {α : Type} (l : List α) (z : α) (i : Nat) (h : i < l.length) : l.drop i = l.getD i z :: l.drop (i + 1) := by
  rw [List.drop_eq_getElem_cons h]
  congr 1
  simp [List.getD_eq_getElem?_getD, List.getElem?_eq_getElem h]
theorem decimals_loop (l : List ByteArray) (hl : l.length ≤ 200000) (hs : ∀ x ∈ l, x.size ≤ 100000) (d : Nat) : ∀ (out : List Int) (i : Nat), i ≤ l.length → l.length - i = d → out.length ≤ i →
    ∃ (ns : List Int) (ok : Bool), Ev (fun k => spec_decimals.l0 k out l (l.length : Int) (i : Int)) (ns, ok) ∧ (ok = true → ∃ more, ns = out ++ more ∧ allDec (l.drop i) more) := by
  induction d with
  | zero =>
    intro out i h1 hd ho
    refine ⟨out, true, Ev.step (f := fun _ => some (out, true)) (fun k => ?_) (Ev.now _), fun _ => ⟨[], by simp, ?_⟩⟩
    · simp only [spec_decimals.l0]
      rw [if_neg (by omega)]
    · rw [List.drop_of_length_le (by omega)]
      trivial
  | succ d ih =>
    intro out i h1 hd ho
    have hi : i < l.length := by omega
    have hx : l.getD i ByteArray.empty ∈ l := by
      rw [List.getD_eq_getElem?_getD, List.getElem?_eq_getElem hi]
      exact List.getElem_mem hi
    have hdr := drop_list l ByteArray.empty i hi
    obtain ⟨v, ok, hD, v0, v1, hV⟩ := dec_ev (l.getD i ByteArray.empty) (hs _ hx)
    obtain ⟨t, hT, tS⟩ := text_ev v v0 v1
    have hpre : ∀ k, spec_decimals.l0 (k + 1) out l (l.length : Int) (i : Int) = (spec_Dec.f k (l.getD i ByteArray.empty)).bind fun bt142 => (if bt142.2 = true then ((spec_Text.f k bt142.1).bind fun t144 => (if t144.toList = (l.getD i ByteArray.empty).toList then (if out.length < 17592186044416 then (spec_decimals.l0 k (out ++ [bt142.1]) l (l.length : Int) ((i + 1 : Nat) : Int)) else (none)) else (some (([] : List Int), false)))) else (some (([] : List Int), false))) := by
      intro k
      simp only [spec_decimals.l0]
      rw [if_pos (by omega), if_pos (by omega), if_pos (by omega), wrap_in (by omega) (by omega)]
      rfl
    cases ok with
    | false => exact ⟨[], false, Ev.step hpre (Ev.bind hD (Ev.congr (f := fun _ => some ([], false)) (fun k => by dsimp only; rw [if_neg (by simp)]) (Ev.now _))), fun h => by cases h⟩
    | true =>
      by_cases c : t.toList = (l.getD i ByteArray.empty).toList
      · obtain ⟨ns, ok, hE, hR⟩ := ih (out ++ [v]) (i + 1) (by omega) (by omega) (by simp; omega)
        refine ⟨ns, ok, Ev.step hpre (Ev.bind hD ?_), fun h => ?_⟩
        · refine Ev.congr (f := fun k => (spec_Text.f k v).bind fun t144 => (if t144.toList = (l.getD i ByteArray.empty).toList then (if out.length < 17592186044416 then (spec_decimals.l0 k (out ++ [v]) l (l.length : Int) ((i + 1 : Nat) : Int)) else (none)) else (some (([] : List Int), false)))) (fun k => by dsimp only; rw [if_pos rfl]) (Ev.bind hT (Ev.congr (fun k => ?_) hE))
          rw [if_pos c, if_pos (by omega)]
        · obtain ⟨more, rfl, hm⟩ := hR h
          refine ⟨v :: more, by simp, ?_⟩
          rw [hdr]
          exact ⟨hV rfl, hm⟩
      · refine ⟨[], false, Ev.step hpre (Ev.bind hD ?_), fun h => by cases h⟩
        refine Ev.congr (f := fun k => (spec_Text.f k v).bind fun t144 => (if t144.toList = (l.getD i ByteArray.empty).toList then (if out.length < 17592186044416 then (spec_decimals.l0 k (out ++ [v]) l (l.length : Int) ((i + 1 : Nat) : Int)) else (none)) else (some (([] : List Int), false)))) (fun k => by dsimp only; rw [if_pos rfl]) (Ev.bind hT (Ev.congr (f := fun _ => some ([], false)) (fun k => ?_) (Ev.now _)))
        rw [if_neg c]
theorem decimals_ev (l : List ByteArray) (hl : l.length ≤ 200000) (hs : ∀ x ∈ l, x.size ≤ 100000) :
    ∃ (ns : List Int) (ok : Bool), Ev (fun k => spec_decimals.f k l) (ns, ok) ∧ (ok = true → allDec l ns) := by
  obtain ⟨ns, ok, hE, h⟩ := decimals_loop l hl hs l.length [] 0 (by omega) (by omega) (by simp)
  refine ⟨ns, ok, hE, fun h2 => ?_⟩
  obtain ⟨more, rfl, hm⟩ := h h2
  simpa using hm

end Go.Proofs.YtdmpbaanonafbaaGreatDoor.Texts
