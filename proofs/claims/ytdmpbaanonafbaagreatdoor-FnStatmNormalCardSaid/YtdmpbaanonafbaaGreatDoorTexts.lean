/- What the reference's common functions on texts answer: every text of at most 100,000 bytes; no condition else. -/
import Derived.Test.YtdmpbaanonafbaaGreatDoorQ3
import Derived.Test.YtdmpbaanonafbaaGreatDoorPlain
import Derived.Test.YtdmpbaanonafbaaGreatDoorGivDec
set_option linter.unusedVariables false
set_option linter.unusedSimpArgs false
namespace Go.Proofs.YtdmpbaanonafbaaGreatDoor.Texts
open Go.RowKit Go.Proofs.YtdmpbaanonafbaaGreatDoor.Q Go.Proofs.YtdmpbaanonafbaaGreatDoorW.PrintWords Go.Proofs.YtdmpbaanonafbaaGreatDoorW.PrintLast Go.Proofs.YtdmpbaanonafbaaGreatDoorPt Go.Proofs.YtdmpbaanonafbaaGreatDoor.GivDec

theorem wrap_in {x : Int} (h0 : -9223372036854775808 ≤ x) (h : x ≤ 9223372036854775807) : wrap64 x = x := by
  unfold wrap64
  omega
theorem wrapu_in {x : Int} (h0 : 0 ≤ x) (h : x ≤ 18446744073709551615) : IntKind.u64.wrap x = x := by
  rw [IntKind.wrap_u64]
  omega
theorem toList_data (s : ByteArray) : s.toList = s.data.toList := Lib.toList_data s
theorem toList_eq_iff (a b : ByteArray) : a.toList = b.toList ↔ a = b := by
  constructor
  · intro h
    rw [Lib.toList_data, Lib.toList_data] at h
    exact data_inj h
  · rintro rfl; rfl

/-- Lines. -/
theorem lines_loop (s : ByteArray) (hs : s.size ≤ 100000) (d : Nat) : ∀ (out : List ByteArray) (a i : Nat), a ≤ i → i ≤ s.size → s.size - i = d → out.length ≤ i →
    Ev (fun k => spec_Lines.l0 k s out (a : Int) (s.size : Int) (i : Int)) (out ++ (linesGo ((s.data.toList.drop a).take (i - a)) (s.data.toList.drop i)).map toB) := by
  have hlen := len_data s
  induction d with
  | zero =>
    intro out a i h0 h1 hd ho
    have hi : i = s.size := by omega
    subst hi
    rw [List.drop_of_length_le (show s.data.toList.length ≤ s.size by omega)]
    refine Ev.step (f := fun _ => some (out ++ (linesGo ((s.data.toList.drop a).take (s.size - a)) []).map toB)) (fun k => ?_) (Ev.now _)
    simp only [spec_Lines.l0]
    rw [if_neg (by omega)]
    by_cases c : a < s.size
    · rw [if_pos (by omega), if_pos (by omega), if_pos (by omega), if_pos (by omega), extract_toB]
      have e : ((a : Int)).toNat = a := by omega
      rw [e]
      unfold linesGo
      rw [if_neg (by
        intro h
        have h2 := List.isEmpty_iff.1 h
        have h3 := congrArg List.length h2
        simp at h3
        omega)]
      simp
    · rw [if_neg (by omega)]
      have : (s.data.toList.drop a).take (s.size - a) = [] := by rw [show s.size - a = 0 by omega]; rfl
      rw [this]
      simp [linesGo]
  | succ d ih =>
    intro out a i h0 h1 hd ho
    have hi : i < s.size := by omega
    obtain ⟨c, hc, hb, hg⟩ := drop_data s i hi
    rw [hc]
    unfold linesGo
    by_cases h10 : c = 10
    · rw [if_pos h10]
      refine Ev.step (f := fun k => spec_Lines.l0 k s (out ++ [toB ((s.data.toList.drop a).take (i - a))]) ((i + 1 : Nat) : Int) (s.size : Int) ((i + 1 : Nat) : Int)) (fun k => ?_) ?_
      · simp only [spec_Lines.l0]
        rw [if_pos (by omega), if_pos (by omega), if_pos (by omega), hb, if_pos (by rw [h10]; rfl), if_pos (by omega), if_pos (by omega), if_pos (by omega), if_pos (by omega), wrap_in (by omega) (by omega), extract_toB]
        simp
      · have := ih (out ++ [toB ((s.data.toList.drop a).take (i - a))]) (i + 1) (i + 1) (by omega) (by omega) (by omega) (by simp; omega)
        rw [Nat.sub_self, List.take_zero] at this
        simpa using this
    · rw [if_neg h10]
      refine Ev.step (f := fun k => spec_Lines.l0 k s out (a : Int) (s.size : Int) ((i + 1 : Nat) : Int)) (fun k => ?_) ?_
      · simp only [spec_Lines.l0]
        rw [if_pos (by omega), if_pos (by omega), if_pos (by omega), hb, if_neg (by
          intro h
          apply h10
          have : c.toNat = 10 := by omega
          exact UInt8.toNat_inj.1 (by simpa using this)), wrap_in (by omega) (by omega)]
        rfl
      · have := ih out a (i + 1) (by omega) (by omega) (by omega) (by omega)
        rw [take_more _ a i c h0 hg] at this
        exact this
theorem lines_ev (s : ByteArray) (hs : s.size ≤ 100000) : Ev (fun k => spec_Lines.f k s) ((linesL s.data.toList).map toB) := by
  have := lines_loop s hs s.size [] 0 0 (by omega) (by omega) (by omega) (by simp)
  simpa [spec_Lines.f, linesL] using this

/-- The line of a text of one line; nothing for others. -/
def single (l : List UInt8) : List UInt8 := match linesL l with | [x] => x | _ => []
theorem single_ev (s : ByteArray) (hs : s.size ≤ 100000) : Ev (fun k => spec_single.f k s) (toB (single s.data.toList)) := by
  unfold spec_single.f
  refine Ev.bind (lines_ev s hs) ?_
  refine Ev.congr (f := fun _ => some (toB (single s.data.toList))) (fun k => ?_) (Ev.now _)
  unfold single
  match h : linesL s.data.toList with
  | [] => simp; rfl
  | [x] => simp [rdOf]
  | x :: y :: z => simp; rw [if_neg (by omega)]; rfl

/-- Fields. -/
theorem fields_loop (s : ByteArray) (hs : s.size ≤ 100000) (d : Nat) : ∀ (out : List ByteArray) (fr : Int) (i : Nat), i ≤ s.size → s.size - i = d → out.length ≤ i → (fr = -1 ∨ (0 ≤ fr ∧ fr < i)) →
    Ev (fun k => spec_Fields.l0 k s out fr (s.size : Int) (i : Int)) (out ++ (wordsGo (if fr = -1 then [] else (s.data.toList.drop fr.toNat).take (i - fr.toNat)) (s.data.toList.drop i)).map toB) := by
  have hlen := len_data s
  induction d with
  | zero =>
    intro out fr i h1 hd ho hf
    have hi : i = s.size := by omega
    subst hi
    rw [List.drop_of_length_le (show s.data.toList.length ≤ s.size by omega)]
    refine Ev.step (f := fun _ => some (out ++ (wordsGo (if fr = -1 then [] else (s.data.toList.drop fr.toNat).take (s.size - fr.toNat)) []).map toB)) (fun k => ?_) (Ev.now _)
    simp only [spec_Fields.l0]
    rw [if_neg (by omega)]
    rcases hf with rfl | ⟨hf0, hf1⟩
    · rw [if_neg (by omega), if_pos rfl]
      simp [wordsGo]
    · rw [if_pos (by omega), if_pos (by omega), if_pos (by omega), if_pos (by omega), extract_toB, if_neg (by omega)]
      unfold wordsGo
      rw [if_neg (by
        intro h
        have h2 := List.isEmpty_iff.1 h
        have h3 := congrArg List.length h2
        simp at h3
        omega)]
      simp
  | succ d ih =>
    intro out fr i h1 hd ho hf
    have hi : i < s.size := by omega
    obtain ⟨c, hc, hb, hg⟩ := drop_data s i hi
    rw [hc]
    unfold wordsGo
    by_cases hbl : c = 32 ∨ c = 9
    · rw [if_pos hbl]
      have hj : ∀ k, spec_Fields.l0 (k + 1) s out fr (s.size : Int) (i : Int) = spec_Fields.j1 k s out fr (i : Int) true (s.size : Int) (i : Int) := by
        intro k
        simp only [spec_Fields.l0]
        rw [if_pos (by omega), if_pos (by omega), if_pos (by omega), hb]
        rcases hbl with rfl | rfl
        · rw [if_pos (show ((32 : UInt8).toNat : Int) = 32 from rfl)]
        · rw [if_neg (by decide)]
          rfl
      refine Ev.step hj ?_
      refine Ev.step (f := fun k => spec_Fields.j2 k s out fr (i : Int) true (s.size : Int) (i : Int) (decide (fr ≥ 0))) (fun k => by simp only [spec_Fields.j1, if_true]) ?_
      rcases hf with rfl | ⟨hf0, hf1⟩
      · rw [if_pos rfl, if_pos (by rfl)]
        refine Ev.step (f := fun k => spec_Fields.l0 k s out (-1) (s.size : Int) ((i + 1 : Nat) : Int)) (fun k => ?_) ?_
        · simp only [spec_Fields.j2]
          rw [if_neg (by simp), if_pos trivial, wrap_in (by omega) (by omega)]
          rfl
        · have := ih out (-1) (i + 1) (by omega) (by omega) (by omega) (.inl rfl)
          rw [if_pos rfl] at this
          exact this
      · have e : (if fr = -1 then ([] : List UInt8) else (s.data.toList.drop fr.toNat).take (i - fr.toNat)) = (s.data.toList.drop fr.toNat).take (i - fr.toNat) := if_neg (by omega)
        rw [e, if_neg (by
          intro h
          have h2 := List.isEmpty_iff.1 h
          have h3 := congrArg List.length h2
          simp at h3
          omega)]
        refine Ev.step (f := fun k => spec_Fields.l0 k s (out ++ [toB ((s.data.toList.drop fr.toNat).take (i - fr.toNat))]) (-1) (s.size : Int) ((i + 1 : Nat) : Int)) (fun k => ?_) ?_
        · simp only [spec_Fields.j2]
          rw [if_pos (by simp; omega), if_pos (by omega), if_pos (by omega), if_pos (by omega), if_pos (by omega), wrap_in (by omega) (by omega), extract_toB]
          rfl
        · have := ih (out ++ [toB ((s.data.toList.drop fr.toNat).take (i - fr.toNat))]) (-1) (i + 1) (by omega) (by omega) (by simp; omega) (.inl rfl)
          rw [if_pos rfl] at this
          simpa using this
    · rw [if_neg hbl]
      have hj : ∀ k, spec_Fields.l0 (k + 1) s out fr (s.size : Int) (i : Int) = spec_Fields.j1 k s out fr (i : Int) false (s.size : Int) (i : Int) := by
        intro k
        simp only [spec_Fields.l0]
        have n1 : ¬ (c.toNat : Int) = 32 := fun h => hbl (.inl (UInt8.toNat_inj.1 (by show c.toNat = 32; omega)))
        have n2 : ((c.toNat : Int) == 9) = false := by
          simp only [beq_eq_false_iff_ne, ne_eq]
          exact fun h => hbl (.inr (UInt8.toNat_inj.1 (by show c.toNat = 9; omega)))
        rw [if_pos (by omega), if_pos (by omega), if_pos (by omega), hb, if_neg n1, n2]
      refine Ev.step hj ?_
      refine Ev.step (f := fun k => spec_Fields.j2 k s out fr (i : Int) false (s.size : Int) (i : Int) false) (fun k => by simp only [spec_Fields.j1]; rw [if_neg (by simp)]) ?_
      rcases hf with rfl | ⟨hf0, hf1⟩
      · rw [if_pos rfl]
        refine Ev.step (f := fun k => spec_Fields.l0 k s out (i : Int) (s.size : Int) ((i + 1 : Nat) : Int)) (fun k => ?_) ?_
        · simp only [spec_Fields.j2]
          rw [if_neg (by simp), if_neg (by simp), if_pos (by omega), wrap_in (by omega) (by omega)]
          rfl
        · have := ih out (i : Int) (i + 1) (by omega) (by omega) (by omega) (.inr ⟨by omega, by omega⟩)
          rw [if_neg (by omega), Int.toNat_natCast, take_more _ i i c (by omega) hg, Nat.sub_self, List.take_zero] at this
          exact this
      · rw [if_neg (by omega)]
        refine Ev.step (f := fun k => spec_Fields.l0 k s out fr (s.size : Int) ((i + 1 : Nat) : Int)) (fun k => ?_) ?_
        · simp only [spec_Fields.j2]
          rw [if_neg (by simp), if_neg (by simp), if_neg (by omega), wrap_in (by omega) (by omega)]
          rfl
        · have := ih out fr (i + 1) (by omega) (by omega) (by omega) (.inr ⟨by omega, by omega⟩)
          rw [if_neg (by omega), take_more _ fr.toNat i c (by omega) hg] at this
          exact this
theorem fields_ev (s : ByteArray) (hs : s.size ≤ 100000) : Ev (fun k => spec_Fields.f k s) ((wordsL s.data.toList).map toB) := by
  have := fields_loop s hs s.size [] (-1) 0 (by omega) (by omega) (by simp) (.inl rfl)
  simpa [spec_Fields.f, wordsL] using this

/-- Plain. -/
theorem plain_loop (s : ByteArray) (hs : s.size ≤ 100000) (d : Nat) : ∀ (i : Nat), i ≤ s.size → s.size - i = d →
    ∃ b, Ev (fun k => spec_Plain.l0 k s (s.size : Int) (i : Int)) b ∧ (b = true → ∀ c ∈ s.data.toList.drop i, c.toNat ≤ 126 ∧ (c.toNat < 32 → c = 10 ∨ c = 9)) := by
  have hlen := len_data s
  induction d with
  | zero =>
    intro i h1 hd
    have hi : i = s.size := by omega
    subst hi
    refine ⟨true, Ev.step (f := fun _ => some true) (fun k => ?_) (Ev.now _), fun _ c hc => ?_⟩
    · simp only [spec_Plain.l0]
      rw [if_neg (by omega)]
    · rw [List.drop_of_length_le (by omega)] at hc; cases hc
  | succ d ih =>
    intro i h1 hd
    have hi : i < s.size := by omega
    obtain ⟨c, hc, hb, hg⟩ := drop_data s i hi
    obtain ⟨b, hE, hP⟩ := ih (i + 1) (by omega) (by omega)
    have hpre : ∀ k, spec_Plain.l0 (k + 1) s (s.size : Int) (i : Int) = (if (c.toNat : Int) > 126 then (some false) else (if (c.toNat : Int) < 32 then (if (c.toNat : Int) = 10 then (spec_Plain.l0 k s (s.size : Int) ((i + 1 : Nat) : Int)) else (if (c.toNat : Int) = 9 then (spec_Plain.l0 k s (s.size : Int) ((i + 1 : Nat) : Int)) else (some false))) else (spec_Plain.l0 k s (s.size : Int) ((i + 1 : Nat) : Int)))) := by
      intro k
      simp only [spec_Plain.l0]
      rw [if_pos (by omega), if_pos (by omega), if_pos (by omega), hb, wrap_in (by omega) (by omega)]
      rfl
    have good : (c.toNat ≤ 126 ∧ (c.toNat < 32 → c = 10 ∨ c = 9)) → b = true → ∀ e ∈ s.data.toList.drop i, e.toNat ≤ 126 ∧ (e.toNat < 32 → e = 10 ∨ e = 9) := by
      intro h1 h2 e he
      rw [hc] at he
      rcases List.mem_cons.1 he with rfl | he
      · exact h1
      · exact hP h2 e he
    by_cases c1 : (c.toNat : Int) > 126
    · exact ⟨false, Ev.step (f := fun _ => some false) (fun k => by rw [hpre, if_pos c1]) (Ev.now _), fun h => by cases h⟩
    · by_cases c2 : (c.toNat : Int) < 32
      · by_cases c3 : (c.toNat : Int) = 10
        · exact ⟨b, Ev.step (fun k => by rw [hpre, if_neg c1, if_pos c2, if_pos c3]) hE, good ⟨by omega, fun _ => .inl (UInt8.toNat_inj.1 (by show c.toNat = 10; omega))⟩⟩
        · by_cases c4 : (c.toNat : Int) = 9
          · exact ⟨b, Ev.step (fun k => by rw [hpre, if_neg c1, if_pos c2, if_neg c3, if_pos c4]) hE, good ⟨by omega, fun _ => .inr (UInt8.toNat_inj.1 (by show c.toNat = 9; omega))⟩⟩
          · exact ⟨false, Ev.step (f := fun _ => some false) (fun k => by rw [hpre, if_neg c1, if_pos c2, if_neg c3, if_neg c4]) (Ev.now _), fun h => by cases h⟩
      · exact ⟨b, Ev.step (fun k => by rw [hpre, if_neg c1, if_neg c2]) hE, good ⟨by omega, fun h => by omega⟩⟩
theorem plain_ev (s : ByteArray) (hs : s.size ≤ 100000) : ∃ b, Ev (fun k => spec_Plain.f k s) b ∧ (b = true → ∀ c ∈ s.data.toList, c.toNat ≤ 126 ∧ (c.toNat < 32 → c = 10 ∨ c = 9)) := by
  obtain ⟨b, h1, h2⟩ := plain_loop s hs s.size 0 (by omega) (by omega)
  exact ⟨b, h1, by simpa using h2⟩
end Go.Proofs.YtdmpbaanonafbaaGreatDoor.Texts
