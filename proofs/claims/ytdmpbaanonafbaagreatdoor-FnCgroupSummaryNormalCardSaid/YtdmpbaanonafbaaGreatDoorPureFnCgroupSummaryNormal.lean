import Derived.Test.YtdmpbaanonafbaaGreatDoorC2
import Derived.Test.YtdmpbaanonafbaaGreatDoorCgText2
import Derived.Test.YtdmpbaanonafbaaGreatDoorC4
/- The reference's side of /proc/cgroups: the table is read, and it is written anew. -/
set_option linter.unusedVariables false
set_option linter.unusedSimpArgs false
namespace Go.Proofs.YtdmpbaanonafbaaGreatDoor.PureCg
open Go.RowKit Go.Proofs.YtdmpbaanonafbaaGreatDoorW.PrintWords Go.Proofs.YtdmpbaanonafbaaGreatDoorW.PrintLast Go.Proofs.YtdmpbaanonafbaaGreatDoor.GivZ Go.Proofs.YtdmpbaanonafbaaGreatDoorPt Go.Proofs.YtdmpbaanonafbaaGreatDoor.GivDec Go.Proofs.YtdmpbaanonafbaaGreatDoor.L Go.Proofs.YtdmpbaanonafbaaGreatDoor.C Go.Proofs.YtdmpbaanonafbaaGreatDoor.Texts Go.Proofs.YtdmpbaanonafbaaGreatDoor.Trees Go.Proofs.YtdmpbaanonafbaaGreatDoor.CgText
theorem word_loop (s : ByteArray) (hs : s.size ≤ 100000) (d : Nat) : ∀ (i : Nat), i ≤ s.size → s.size - i = d →
    ∃ b, Ev (fun k => spec_Word.l0 k s (s.size : Int) (i : Int)) b ∧ (b = true → s.toList ≠ [] ∧ ∀ c ∈ s.data.toList.drop i, 33 ≤ c.toNat ∧ c.toNat ≤ 126) := by
  have hlen := len_data s
  induction d with
  | zero =>
    intro i h1 hd
    have hi : i = s.size := by omega
    subst hi
    refine ⟨(s.toList != ([] : List UInt8)), Ev.step (f := fun _ => some (s.toList != ([] : List UInt8))) (fun k => ?_) (Ev.now _), fun h => ⟨by simpa using h, fun c hc => ?_⟩⟩
    · simp only [spec_Word.l0]
      rw [if_neg (by omega)]
    · rw [List.drop_of_length_le (by omega)] at hc; cases hc
  | succ d ih =>
    intro i h1 hd
    have hi : i < s.size := by omega
    obtain ⟨c, hc, hb, hg⟩ := drop_data s i hi
    obtain ⟨b, hE, hP⟩ := ih (i + 1) (by omega) (by omega)
    have hpre : ∀ k, spec_Word.l0 (k + 1) s (s.size : Int) (i : Int) = (if (c.toNat : Int) ≤ 32 then (some false) else (if (c.toNat : Int) > 126 then (some false) else (spec_Word.l0 k s (s.size : Int) ((i + 1 : Nat) : Int)))) := by
      intro k
      simp only [spec_Word.l0]
      rw [if_pos (by omega), if_pos (by omega), if_pos (by omega), hb, wrap_in (by omega) (by omega)]
      rfl
    by_cases c1 : (c.toNat : Int) ≤ 32
    · exact ⟨false, Ev.step (f := fun _ => some false) (fun k => by rw [hpre, if_pos c1]) (Ev.now _), fun h => by cases h⟩
    · by_cases c2 : (c.toNat : Int) > 126
      · exact ⟨false, Ev.step (f := fun _ => some false) (fun k => by rw [hpre, if_neg c1, if_pos c2]) (Ev.now _), fun h => by cases h⟩
      · refine ⟨b, Ev.step (fun k => by rw [hpre, if_neg c1, if_neg c2]) hE, fun h => ⟨(hP h).1, fun e he => ?_⟩⟩
        rw [hc] at he
        rcases List.mem_cons.1 he with rfl | he
        · omega
        · exact (hP h).2 e he
theorem word_is (s : ByteArray) (hs : s.size ≤ 100000) : ∃ b, Ev (fun k => spec_Word.f k s) b ∧ (b = true → s.toList ≠ [] ∧ ∀ c ∈ s.data.toList, 33 ≤ c.toNat ∧ c.toNat ≤ 126) := by
  obtain ⟨b, h1, h2⟩ := word_loop s hs s.size 0 (by omega) (by omega)
  exact ⟨b, h1, by simpa using h2⟩
theorem small_loop (m : Int) (l : List Int) (hl : l.length ≤ 200000) (d : Nat) : ∀ (i : Nat), i ≤ l.length → l.length - i = d →
    ∃ b, Ev (fun k => spec_small.l0 k m l (l.length : Int) (i : Int)) b ∧ (b = true → ∀ v ∈ l.drop i, v < m) := by
  induction d with
  | zero =>
    intro i h1 hd
    refine ⟨true, Ev.step (f := fun _ => some true) (fun k => ?_) (Ev.now _), fun h v hv => ?_⟩
    · simp only [spec_small.l0]
      rw [if_neg (by omega)]
    · rw [List.drop_of_length_le (by omega)] at hv; cases hv
  | succ d ih =>
    intro i h1 hd
    have hi : i < l.length := by omega
    obtain ⟨b, hE, hP⟩ := ih (i + 1) (by omega) (by omega)
    have hr : rd l (i : Int) = l.getD i 0 := by simp [rd]
    have hpre : ∀ k, spec_small.l0 (k + 1) m l (l.length : Int) (i : Int) = (if l.getD i 0 ≥ m then (some false) else (spec_small.l0 k m l (l.length : Int) ((i + 1 : Nat) : Int))) := by
      intro k
      simp only [spec_small.l0]
      rw [if_pos (by omega), if_pos (by omega), if_pos (by omega), hr, wrap_in (by omega) (by omega)]
      rfl
    by_cases c1 : l.getD i 0 ≥ m
    · exact ⟨false, Ev.step (f := fun _ => some false) (fun k => by rw [hpre, if_pos c1]) (Ev.now _), fun h => by cases h⟩
    · refine ⟨b, Ev.step (fun k => by rw [hpre, if_neg c1]) hE, fun h v hv => ?_⟩
      rw [drop_list l 0 i hi] at hv
      rcases List.mem_cons.1 hv with rfl | hv
      · omega
      · exact hP h v hv
theorem small_is (m : Int) (l : List Int) (hl : l.length ≤ 200000) : ∃ b, Ev (fun k => spec_small.f k m l) b ∧ (b = true → ∀ v ∈ l, v < m) := by
  obtain ⟨b, h1, h2⟩ := small_loop m l hl l.length 0 (by omega) (by omega)
  exact ⟨b, h1, by simpa using h2⟩
/-- A row that the table may hold. -/
def RB (r : S48) : Prop := r.f0.size ≤ 100000 ∧ r.f1.length ≤ 200000 ∧ ∀ v ∈ r.f1, 0 ≤ v ∧ v ≤ 18446744073709551615
theorem num_of {x : ByteArray} {v : Int} (h : SaysN x v.toNat ∧ x.size ≤ 20 ∧ (v < 10000000000 → x.size ≤ 10)) (hv : v < 2147483648) : Num x.data.toList v.toNat := by
  have hl := len_data x
  refine ⟨?_, by have := h.2.2 (by omega); omega, h.1.2⟩
  have := h.1.1
  intro e
  rw [e] at hl
  simp at hl
  omega
/-- One row, written. -/
theorem row_is (r : S48) (hr : RB r) : ∃ (b : Bool) (line : ByteArray), (b = true → ∃ n ta tb tc : List UInt8, ∃ a b2 c : Nat, line.data.toList = (n ++ 9 :: (ta ++ 9 :: (tb ++ 9 :: tc))) ++ [10] ∧ Name n ∧ Num ta a ∧ Num tb b2 ∧ Num tc c) ∧ line.size ≤ 200000 ∧
    ∀ (g : Nat → ByteArray → Option (ByteArray × Int)) (acc : ByteArray) (res : ByteArray × Int), acc.size ≤ 1000000000000 → (b = true → Ev (fun k => g k (acc ++ line)) res) → (b = false → res = ((⟨#[]⟩ : ByteArray), 2)) →
      Ev (fun k => (spec_Word.f k r.f0).bind fun t104 => (if t104 = true then (if 0 < (r.f0.size : Int) then (if (bt r.f0 0) = 35 then (some ((⟨#[]⟩ : ByteArray), 2)) else ((spec_sized.f r.f0 r.f1 r.f2 3 0).bind fun t105 => (if t105 = true then ((spec_small.f k 2147483648 r.f1).bind fun t106 => (if t106 = true then (if (r.f0).size + 1 ≤ 9223372036854775807 then ((spec_numbers.f k r.f1 (⟨#[9]⟩ : ByteArray)).bind fun t107 => (if (r.f0 ++ (⟨#[9]⟩ : ByteArray)).size + t107.size ≤ 9223372036854775807 then (if ((r.f0 ++ (⟨#[9]⟩ : ByteArray)) ++ t107).size + 1 ≤ 9223372036854775807 then (if acc.size + (((r.f0 ++ (⟨#[9]⟩ : ByteArray)) ++ t107) ++ (⟨#[10]⟩ : ByteArray)).size ≤ 9223372036854775807 then g k (acc ++ (((r.f0 ++ (⟨#[9]⟩ : ByteArray)) ++ t107) ++ (⟨#[10]⟩ : ByteArray))) else (none)) else (none)) else (none))) else (none)) else (some ((⟨#[]⟩ : ByteArray), 2)))) else (some ((⟨#[]⟩ : ByteArray), 2))))) else (none)) else (some ((⟨#[]⟩ : ByteArray), 2)))) res := by
  obtain ⟨h1, h2, h3⟩ := hr
  obtain ⟨wb, hW, hWp⟩ := word_is r.f0 h1
  obtain ⟨sb, hS, hSp⟩ := small_is 2147483648 r.f1 h2
  obtain ⟨ts, hN, hNp⟩ := numbers_is r.f1 (⟨#[9]⟩ : ByteArray) h2 (by decide) h3
  cases wb with
  | false =>
    refine ⟨false, ByteArray.empty, (fun h => by cases h), by decide, fun g acc res ha hg hb => ?_⟩
    rw [hb rfl]
    exact Ev.bind hW (Ev.congr (f := fun _ => some ((⟨#[]⟩ : ByteArray), 2)) (fun k => by rw [if_neg (by simp)]) (Ev.now _))
  | true =>
    obtain ⟨hne, hby⟩ := hWp rfl
    have hl0 := len_data r.f0
    have hpos : 0 < r.f0.size := by
      have := List.length_pos_iff.2 hne
      rw [toList_data] at this
      omega
    by_cases c1 : bt r.f0 0 = 35
    · refine ⟨false, ByteArray.empty, (fun h => by cases h), by decide, fun g acc res ha hg hb => ?_⟩
      rw [hb rfl]
      exact Ev.bind hW (Ev.congr (f := fun _ => some ((⟨#[]⟩ : ByteArray), 2)) (fun k => by rw [if_pos rfl, if_pos (by omega), if_pos c1]) (Ev.now _))
    · obtain ⟨zb, hz⟩ : ∃ zb, spec_sized.f r.f0 r.f1 r.f2 3 0 = some zb := by
        unfold spec_sized.f
        by_cases c : (r.f1.length : Int) = 3
        · rw [if_pos c]; exact ⟨_, rfl⟩
        · rw [if_neg c]; exact ⟨_, rfl⟩
      cases zb with
      | false =>
        refine ⟨false, ByteArray.empty, (fun h => by cases h), by decide, fun g acc res ha hg hb => ?_⟩
        rw [hb rfl]
        exact Ev.bind hW (Ev.congr (f := fun _ => some ((⟨#[]⟩ : ByteArray), 2)) (fun k => by rw [if_pos rfl, if_pos (by omega), if_neg c1, hz]; rfl) (Ev.now _))
      | true =>
        have hlen3 : (r.f1.length : Int) = 3 := by
          unfold spec_sized.f at hz
          by_cases c : (r.f1.length : Int) = 3
          · exact c
          · rw [if_neg c] at hz; cases hz
        cases sb with
        | false =>
          refine ⟨false, ByteArray.empty, (fun h => by cases h), by decide, fun g acc res ha hg hb => ?_⟩
          rw [hb rfl]
          refine Ev.bind hW (Ev.congr (f := fun k => (spec_small.f k 2147483648 r.f1).bind fun t106 => _) (fun k => by rw [if_pos rfl, if_pos (by omega), if_neg c1, hz]; rfl) (Ev.bind hS (Ev.congr (f := fun _ => some ((⟨#[]⟩ : ByteArray), 2)) (fun k => by rw [if_neg (by simp)]) (Ev.now _))))
        | true =>
          have hsm := hSp rfl
          match hf1 : r.f1, hlen3, ts, hNp with
          | [v0, v1, v2], _, [x0, x1, x2], hNp =>
            rw [hf1] at hsm hN
            obtain ⟨p0, p1, p2, _⟩ := hNp
            have hj : joinL (⟨#[9]⟩ : ByteArray) [x0, x1, x2] = ((((⟨#[]⟩ : ByteArray) ++ x0) ++ (⟨#[9]⟩ : ByteArray)) ++ x1) ++ (⟨#[9]⟩ : ByteArray) ++ x2 := rfl
            have hjd : (joinL (⟨#[9]⟩ : ByteArray) [x0, x1, x2]).data.toList = x0.data.toList ++ 9 :: (x1.data.toList ++ 9 :: x2.data.toList) := by
              rw [hj]
              simp only [app_data]
              simp
            have hjs : (joinL (⟨#[9]⟩ : ByteArray) [x0, x1, x2]).size ≤ 62 := by
              rw [Lib.size_eq, hjd]
              simp only [List.length_append, List.length_cons, len_data]
              have := p0.2.1
              have := p1.2.1
              have := p2.2.1
              omega
            generalize joinL (⟨#[9]⟩ : ByteArray) [x0, x1, x2] = jn at hN hjd hjs
            have hs9 : (⟨#[9]⟩ : ByteArray).size = 1 := rfl
            have hs10 : (⟨#[10]⟩ : ByteArray).size = 1 := rfl
            refine ⟨true, ((r.f0 ++ (⟨#[9]⟩ : ByteArray)) ++ jn) ++ (⟨#[10]⟩ : ByteArray), fun _ => ⟨r.f0.data.toList, x0.data.toList, x1.data.toList, x2.data.toList, v0.toNat, v1.toNat, v2.toNat, ?_, ⟨?_, hby, ?_⟩, num_of p0 (hsm _ (by simp)), num_of p1 (hsm _ (by simp)), num_of p2 (hsm _ (by simp))⟩, ?_, fun g acc res ha hg hb => ?_⟩
            · simp only [app_data, hjd]
              simp
            · rw [← toList_data]; exact hne
            · intro e
              apply c1
              obtain ⟨c, hc, hb, _⟩ := drop_data r.f0 0 hpos
              rw [List.drop_zero] at hc
              rw [hc] at e
              simp at e
              have hb' : bt r.f0 0 = (c.toNat : Int) := hb
              rw [hb', e]
              rfl
            · simp only [ByteArray.size_append, hs9, hs10]
              omega
            · refine Ev.bind hW (Ev.congr (f := fun k => (spec_small.f k 2147483648 [v0, v1, v2]).bind fun t106 => (if t106 = true then ((spec_numbers.f k [v0, v1, v2] (⟨#[9]⟩ : ByteArray)).bind fun t107 => (if (r.f0 ++ (⟨#[9]⟩ : ByteArray)).size + t107.size ≤ 9223372036854775807 then (if ((r.f0 ++ (⟨#[9]⟩ : ByteArray)) ++ t107).size + 1 ≤ 9223372036854775807 then (if acc.size + (((r.f0 ++ (⟨#[9]⟩ : ByteArray)) ++ t107) ++ (⟨#[10]⟩ : ByteArray)).size ≤ 9223372036854775807 then g k (acc ++ (((r.f0 ++ (⟨#[9]⟩ : ByteArray)) ++ t107) ++ (⟨#[10]⟩ : ByteArray))) else (none)) else (none)) else (none))) else (some ((⟨#[]⟩ : ByteArray), 2)))) (fun k => by rw [if_pos rfl, if_pos (by omega), if_neg c1, ← hf1, hz]; simp only [Option.bind_some]; rw [if_pos trivial]; congr 1; funext t; by_cases ct : t = true; rw [if_pos ct, if_pos ct, if_pos (by omega)]; rw [if_neg ct, if_neg ct]) (Ev.bind (by rw [hf1] at hS; exact hS) (Ev.congr (fun k => by rw [if_pos rfl]) (Ev.bind hN (Ev.congr (fun k => ?_) (hg rfl))))))
              rw [if_pos (by simp only [ByteArray.size_append, hs9]; omega), if_pos (by simp only [ByteArray.size_append, hs9]; omega), if_pos (by simp only [ByteArray.size_append, hs9, hs10]; omega)]
          | [v0, v1, v2], _, [], h => exact h.elim
          | [v0, v1, v2], _, [_], h => exact h.2.elim
          | [v0, v1, v2], _, [_, _], h => exact h.2.2.elim
          | [v0, v1, v2], _, _ :: _ :: _ :: _ :: _, h => exact h.2.2.2.elim
          | [], h, _, _ => simp at h
          | [_], h, _, _ => simp at h
          | [_, _], h, _, _ => simp at h
          | _ :: _ :: _ :: _ :: _, h, _, _ => simp at h; omega
end Go.Proofs.YtdmpbaanonafbaaGreatDoor.PureCg

/- Any text as /proc/cgroups that means something is read as that, written anew in the documented form, is: every text (the law itself lets texts of more than 40,000 bytes by). -/
set_option linter.unusedVariables false
set_option linter.unusedSimpArgs false
namespace Go.Proofs.YtdmpbaanonafbaaGreatDoor.Pure
open Go.RowKit Go.Proofs.YtdmpbaanonafbaaGreatDoorW.PrintWords Go.Proofs.YtdmpbaanonafbaaGreatDoorW.PrintLast Go.Proofs.YtdmpbaanonafbaaGreatDoor.GivZ Go.Proofs.YtdmpbaanonafbaaGreatDoorPt Go.Proofs.YtdmpbaanonafbaaGreatDoor.GivDec Go.Proofs.YtdmpbaanonafbaaGreatDoor.L Go.Proofs.YtdmpbaanonafbaaGreatDoor.V Go.Proofs.YtdmpbaanonafbaaGreatDoor.C Go.Proofs.YtdmpbaanonafbaaGreatDoor.E Go.Proofs.YtdmpbaanonafbaaGreatDoor.H Go.Proofs.YtdmpbaanonafbaaGreatDoor.DoorCg Go.Proofs.YtdmpbaanonafbaaGreatDoor.Lives Go.Proofs.YtdmpbaanonafbaaGreatDoor.Texts Go.Proofs.YtdmpbaanonafbaaGreatDoor.Trees Go.Proofs.YtdmpbaanonafbaaGreatDoor.CgText Go.Proofs.YtdmpbaanonafbaaGreatDoor.PureCg
theorem print_go (l : List S48) (hl : l.length ≤ 200000) (hb : ∀ r ∈ l, RB r) (d : Nat) : ∀ (acc : ByteArray) (i : Nat), i ≤ l.length → l.length - i = d → acc.size ≤ 1000 + i * 200000 →
    ∃ (s : ByteArray) (t : Int), Ev (fun k => spec_CgroupSummaryPrint.l0 k acc l (l.length : Int) (i : Int)) (s, t) ∧ (t = 1 → ∃ (tl : List UInt8) (zs : List S142), s.data.toList = acc.data.toList ++ tl ∧ CgText.Rows tl zs) := by
  induction d with
  | zero =>
    intro acc i h1 hd ha
    refine ⟨acc, 1, Ev.step (f := fun _ => some (acc, 1)) (fun k => ?_) (Ev.now _), fun _ => ⟨[], [], by simp, .nil⟩⟩
    simp only [spec_CgroupSummaryPrint.l0]
    rw [if_neg (by omega)]
  | succ d ih =>
    intro acc i h1 hd ha
    have hi : i < l.length := by omega
    have hm : l.getD i z48 ∈ l := by
      rw [List.getD_eq_getElem?_getD, List.getElem?_eq_getElem hi]
      exact List.getElem_mem hi
    have hr : rd_T48 l (i : Int) = l.getD i z48 := by simp [rd_T48]
    have hi2 : i * 200000 ≤ 200000 * 200000 := Nat.mul_le_mul_right _ (by omega)
    obtain ⟨b, line, hB, hsz, hE⟩ := row_is (l.getD i z48) (hb _ hm)
    have hstep : ∀ res, Ev (fun k => (spec_Word.f k (l.getD i z48).f0).bind fun t104 => (if t104 = true then (if 0 < ((l.getD i z48).f0.size : Int) then (if (bt (l.getD i z48).f0 0) = 35 then (some ((⟨#[]⟩ : ByteArray), 2)) else ((spec_sized.f (l.getD i z48).f0 (l.getD i z48).f1 (l.getD i z48).f2 3 0).bind fun t105 => (if t105 = true then ((spec_small.f k 2147483648 (l.getD i z48).f1).bind fun t106 => (if t106 = true then (if ((l.getD i z48).f0).size + 1 ≤ 9223372036854775807 then ((spec_numbers.f k (l.getD i z48).f1 (⟨#[9]⟩ : ByteArray)).bind fun t107 => (if ((l.getD i z48).f0 ++ (⟨#[9]⟩ : ByteArray)).size + t107.size ≤ 9223372036854775807 then (if (((l.getD i z48).f0 ++ (⟨#[9]⟩ : ByteArray)) ++ t107).size + 1 ≤ 9223372036854775807 then (if acc.size + ((((l.getD i z48).f0 ++ (⟨#[9]⟩ : ByteArray)) ++ t107) ++ (⟨#[10]⟩ : ByteArray)).size ≤ 9223372036854775807 then spec_CgroupSummaryPrint.l0 k (acc ++ ((((l.getD i z48).f0 ++ (⟨#[9]⟩ : ByteArray)) ++ t107) ++ (⟨#[10]⟩ : ByteArray))) l (l.length : Int) ((i + 1 : Nat) : Int) else (none)) else (none)) else (none))) else (none)) else (some ((⟨#[]⟩ : ByteArray), 2)))) else (some ((⟨#[]⟩ : ByteArray), 2))))) else (none)) else (some ((⟨#[]⟩ : ByteArray), 2)))) res → Ev (fun k => spec_CgroupSummaryPrint.l0 k acc l (l.length : Int) (i : Int)) res := by
      intro res h
      refine Ev.step (fun k => ?_) h
      simp only [spec_CgroupSummaryPrint.l0]
      rw [if_pos (by omega), if_pos (by omega), if_pos (by omega), hr, wrap_in (by omega) (by omega)]
      rfl
    cases b with
    | false =>
      exact ⟨⟨#[]⟩, 2, hstep _ (hE (fun k a => spec_CgroupSummaryPrint.l0 k a l (l.length : Int) ((i + 1 : Nat) : Int)) acc ((⟨#[]⟩ : ByteArray), 2) (by omega) (fun h => by cases h) (fun _ => rfl)), fun h => by omega⟩
    | true =>
      obtain ⟨s, t, hS, hT⟩ := ih (acc ++ line) (i + 1) (by omega) (by omega) (by rw [ByteArray.size_append]; omega)
      refine ⟨s, t, hstep (s, t) (hE (fun k a => spec_CgroupSummaryPrint.l0 k a l (l.length : Int) ((i + 1 : Nat) : Int)) acc (s, t) (by omega) (fun _ => hS) (fun h => by cases h)), fun h => ?_⟩
      obtain ⟨tl, zs, e, hR⟩ := hT h
      obtain ⟨n, ta, tb, tc, a, b2, c, el, hn, h0, h1', h2⟩ := hB rfl
      refine ⟨(n ++ 9 :: (ta ++ 9 :: (tb ++ 9 :: tc))) ++ 10 :: tl, _, ?_, .cons hn h0 h1' h2 hR⟩
      rw [e, app_data, el]
      simp
theorem print_is (l : List S48) (hl : l.length ≤ 200000) (hb : ∀ r ∈ l, RB r) : ∃ (s : ByteArray) (t : Int), Ev (fun k => spec_CgroupSummaryPrint.f k l) (s, t) ∧ (t = 1 → ∃ (tl : List UInt8) (zs : List S142), s.data.toList = hline ++ 10 :: tl ∧ CgText.Rows tl zs) := by
  obtain ⟨s, t, h1, h2⟩ := print_go l hl hb l.length (⟨#[35, 115, 117, 98, 115, 121, 115, 95, 110, 97, 109, 101, 9, 104, 105, 101, 114, 97, 114, 99, 104, 121, 9, 110, 117, 109, 95, 99, 103, 114, 111, 117, 112, 115, 9, 101, 110, 97, 98, 108, 101, 100, 10]⟩ : ByteArray) 0 (by omega) (by omega) (by decide)
  refine ⟨s, t, h1, fun h => ?_⟩
  obtain ⟨tl, zs, e, hR⟩ := h2 h
  exact ⟨tl, zs, by rw [e]; rfl, hR⟩
theorem lines_count : ∀ (l cur : List UInt8), (linesGo cur l).length ≤ l.length + 1
  | [], cur => by unfold linesGo; split <;> simp
  | c :: cs, cur => by
    unfold linesGo
    have h1 := lines_count cs []
    have h2 := lines_count cs (cur ++ [c])
    split
    · simp; omega
    · simp; omega
theorem ends_some (a b : ByteArray) (h : a.size ≤ 100000) (hb : b.size = 0) : ∃ eb, spec_Ends.f a b = some eb := by
  unfold spec_Ends.f
  rw [hb]
  rw [if_pos (by omega), wrap_in (by omega) (by omega), if_pos (by omega), if_pos (by omega)]
  exact ⟨_, rfl⟩
theorem rb_mk (x : ByteArray) (ns : List Int) (h : x.size ≤ 90000) (hn : ns.length ≤ 200000) (hv : ∀ v ∈ ns, 0 ≤ v ∧ v ≤ 18446744073709551615) : RB (⟨x.extract 0 x.size, ns, ([] : List ByteArray)⟩ : S48) := by
  refine ⟨?_, hn, hv⟩
  show (x.extract 0 x.size).size ≤ 100000
  rw [ByteArray.size_extract]
  omega
theorem j1_is (k : Nat) (e : ByteArray) (he : e.size = 0) (out : List S48) (f L : List ByteArray) (n i : Int) (hf : 1 ≤ (f.length : Int)) (hy : (rdOf ByteArray.empty f 0).size ≤ 90000) (ho : out.length ≤ 100000) :
    spec_table.j1 (k + 1) e out f L n i false = (spec_decimals.f k (f.drop 1)).bind fun t => if t.2 = true then spec_table.l0 k e (out ++ [(⟨(rdOf ByteArray.empty f 0).extract 0 (rdOf ByteArray.empty f 0).size, t.1, ([] : List ByteArray)⟩ : S48)]) L n (wrap64 (i + 1)) else some (([] : List (S48)), false) := by
  simp only [spec_table.j1]
  rw [if_neg (by simp), if_pos hf, he]
  generalize rdOf ByteArray.empty f 0 = y at hy ⊢
  have hw : wrap64 ((y.size : Int) - ((0 : Nat) : Int)) = (y.size : Int) := by
    rw [wrap_in (by omega) (by omega)]
    omega
  rw [hw]
  congr 1
  funext t
  by_cases ct : t.2 = true
  · rw [if_pos ct, if_pos ct, if_pos (by omega), if_pos (by omega), if_pos (by omega), if_pos (by omega), Int.toNat_natCast]
  · rw [if_neg ct, if_neg ct]
theorem table_go (L : List ByteArray) (hl : L.length ≤ 100000) (hs : ∀ x ∈ L, x.size ≤ 90000) (d : Nat) : ∀ (out : List S48) (i : Nat), i ≤ L.length → L.length - i = d → out.length ≤ i → (∀ r ∈ out, RB r) →
    ∃ (rows : List S48) (ok : Bool), Ev (fun k => spec_table.l0 k (⟨#[]⟩ : ByteArray) out L (L.length : Int) (i : Int)) (rows, ok) ∧ rows.length ≤ L.length ∧ ∀ r ∈ rows, RB r := by
  induction d with
  | zero =>
    intro out i h1 hd ho hb
    refine ⟨out, true, Ev.step (f := fun _ => some (out, true)) (fun k => ?_) (Ev.now _), by omega, hb⟩
    simp only [spec_table.l0]
    rw [if_neg (by omega)]
  | succ d ih =>
    intro out i h1 hd ho hb
    have hi : i < L.length := by omega
    have hm : L.getD i ByteArray.empty ∈ L := by
      rw [List.getD_eq_getElem?_getD, List.getElem?_eq_getElem hi]
      exact List.getElem_mem hi
    have hxs := hs _ hm
    have hrd : rdOf ByteArray.empty L (i : Int) = L.getD i ByteArray.empty := by simp [rdOf]
    generalize L.getD i ByteArray.empty = x at hm hxs hrd
    have hlx := len_data x
    have hF := fields_ev x (by omega)
    have hws : (wordsL x.data.toList).length ≤ 90001 := by
      have := wordsGo_size x.data.toList []
      unfold wordsL
      omega
    have hwm : ∀ y ∈ (wordsL x.data.toList).map toB, y.size ≤ 90000 := by
      intro y hy
      obtain ⟨w, hw, rfl⟩ := List.mem_map.1 hy
      have := (wordsGo_mem _ [] w hw).2.1
      rw [toB_size]
      simp at this
      omega
    have hwl : ((wordsL x.data.toList).map toB).length ≤ 90001 := by rw [List.length_map]; exact hws
    generalize (wordsL x.data.toList).map toB = f at hF hwm hwl
    have bad : ∀ k, spec_table.j1 (k + 1) (⟨#[]⟩ : ByteArray) out f L (L.length : Int) (i : Int) true = some ([], false) := by
      intro k
      simp only [spec_table.j1]
      rw [if_pos trivial]
    have nob : ∀ r ∈ ([] : List S48), RB r := fun r h => by cases h
    by_cases c0 : (f.length : Int) = 0
    · refine ⟨[], false, Ev.step (f := fun k => (spec_Fields.f k x).bind fun t115 => (if (t115.length : Int) = 0 then (spec_table.j1 k (⟨#[]⟩ : ByteArray) out t115 L (L.length : Int) (i : Int) true) else (if 0 < (t115.length : Int) then ((spec_Ends.f (rdOf ByteArray.empty t115 0) (⟨#[]⟩ : ByteArray)).bind fun t119 => (spec_table.j1 k (⟨#[]⟩ : ByteArray) out t115 L (L.length : Int) (i : Int) (!t119))) else (none)))) (fun k => ?_) (Ev.bind hF (Ev.congr (fun k => by rw [if_pos c0]) (Ev.step (f := fun _ => some ([], false)) bad (Ev.now _)))), by simp, nob⟩
      simp only [spec_table.l0]
      rw [if_pos (by omega), if_pos (by omega), if_pos (by omega), hrd]
    · have hm0 : rdOf ByteArray.empty f 0 ∈ f := by
        have hf0 : 0 < f.length := by omega
        rw [show rdOf ByteArray.empty f 0 = f.getD 0 ByteArray.empty by simp [rdOf], List.getD_eq_getElem?_getD, List.getElem?_eq_getElem hf0]
        exact List.getElem_mem hf0
      have hs0 := hwm _ hm0
      have hz0 : ((⟨#[]⟩ : ByteArray).size : Int) = 0 := rfl
      have hw0 : wrap64 (((rdOf ByteArray.empty f 0).size : Int) - ((⟨#[]⟩ : ByteArray).size : Int)) = ((rdOf ByteArray.empty f 0).size : Int) := by
        rw [hz0, wrap_in (by omega) (by omega)]
        omega
      obtain ⟨eb, hEnds⟩ := ends_some (rdOf ByteArray.empty f 0) (⟨#[]⟩ : ByteArray) (Nat.le_trans hs0 (by omega)) (by rfl)
      have hgo : ∀ res, Ev (fun k => spec_table.j1 k (⟨#[]⟩ : ByteArray) out f L (L.length : Int) (i : Int) (!eb)) res → Ev (fun k => spec_table.l0 k (⟨#[]⟩ : ByteArray) out L (L.length : Int) (i : Int)) res := by
        intro res h
        refine Ev.step (f := fun k => (spec_Fields.f k x).bind fun t115 => (if (t115.length : Int) = 0 then (spec_table.j1 k (⟨#[]⟩ : ByteArray) out t115 L (L.length : Int) (i : Int) true) else (if 0 < (t115.length : Int) then ((spec_Ends.f (rdOf ByteArray.empty t115 0) (⟨#[]⟩ : ByteArray)).bind fun t119 => (spec_table.j1 k (⟨#[]⟩ : ByteArray) out t115 L (L.length : Int) (i : Int) (!t119))) else (none)))) (fun k => ?_) (Ev.bind hF (Ev.congr (fun k => by rw [if_neg c0, if_pos (by omega), hEnds, Option.bind_some]) h))
        simp only [spec_table.l0]
        rw [if_pos (by omega), if_pos (by omega), if_pos (by omega), hrd]
      cases eb with
      | false =>
        simp only [Bool.not_false] at hgo
        exact ⟨[], false, hgo ([], false) (Ev.step (f := fun _ => some ([], false)) bad (Ev.now _)), by simp, nob⟩
      | true =>
        obtain ⟨ns, ok, hD, hok⟩ := decimals_ev (f.drop 1) (by rw [List.length_drop]; omega) (fun y hy => by have := hwm y (List.mem_of_mem_drop hy); omega)
        have hii : ((i + 1 : Nat) : Int) = (i : Int) + 1 := by omega
        have hj : ∀ res, Ev (fun k => (spec_decimals.f k (f.drop 1)).bind fun bt124 => (if bt124.2 = true then (spec_table.l0 k (⟨#[]⟩ : ByteArray) (out ++ [(⟨(rdOf ByteArray.empty f 0).extract 0 (rdOf ByteArray.empty f 0).size, bt124.1, ([] : List ByteArray)⟩ : S48)]) L (L.length : Int) ((i + 1 : Nat) : Int)) else (some (([] : List (S48)), false)))) res → Ev (fun k => spec_table.j1 k (⟨#[]⟩ : ByteArray) out f L (L.length : Int) (i : Int) (!true)) res := by
          intro res h
          refine Ev.step (fun k => ?_) h
          rw [Bool.not_true, j1_is k _ (by rfl) out f L _ _ (by omega) hs0 (by omega), wrap_in (by omega) (by omega), hii]
        cases ok with
        | false => exact ⟨[], false, hgo _ (hj _ (Ev.bind hD (Ev.congr (f := fun _ => some ([], false)) (fun k => by rw [if_neg (by simp)]) (Ev.now _)))), by simp, nob⟩
        | true =>
          have hall := hok rfl
          have hnl := allDec_len _ _ hall
          have hRB : RB (⟨(rdOf ByteArray.empty f 0).extract 0 (rdOf ByteArray.empty f 0).size, ns, ([] : List ByteArray)⟩ : S48) := by
            refine rb_mk _ _ hs0 (by rw [← hnl, List.length_drop]; omega) (fun v hv => ?_)
            obtain ⟨j, hj2, rfl⟩ := List.getElem_of_mem hv
            have := allDec_get _ _ hall j (by omega)
            rw [List.getD_eq_getElem?_getD (l := ns), List.getElem?_eq_getElem hj2] at this
            exact ⟨this.1, this.2.1⟩
          obtain ⟨rows, ok2, hE, hR1, hR2⟩ := ih (out ++ [(⟨(rdOf ByteArray.empty f 0).extract 0 (rdOf ByteArray.empty f 0).size, ns, ([] : List ByteArray)⟩ : S48)]) (i + 1) (by omega) (by omega) (by simp; omega) (fun r h => by
            rcases List.mem_append.1 h with h | h
            · exact hb r h
            · rw [List.mem_singleton.1 h]; exact hRB)
          exact ⟨rows, ok2, hgo _ (hj _ (Ev.bind hD (Ev.congr (fun k => by rw [if_pos rfl]) hE))), hR1, hR2⟩
def Told (a0 : ByteArray) (l : List S48) (ok : Bool) (told : Int) : Prop := told = 1 → ok = true ∧ Ev (fun k => spec_CgroupSummaryPrint.f k l) (a0, 1) ∧ ∃ (n1 : ByteArray) (n2 : Int) (n3 : Bool) (n4 n5 : Int) (n6 : Nat) (n7 : ByteArray) (n8 : List S35), impl_CgroupSummary.f a0 = some (n1, n2, n3, n4, n5, n6, n7, n8, 0) ∧ good 2 n8
theorem meant_is (a0 : ByteArray) (ha : a0.size ≤ 40000) (rows : List S48) (ok : Bool) (hl : rows.length ≤ 200000) (hb : ∀ r ∈ rows, RB r) : ∃ (l : List S48) (ok2 : Bool) (told : Int), Ev (fun k => spec_meant__CgroupSummaryPrint.f k a0 rows ok false) (l, ok2, told) ∧ Told a0 l ok2 told := by
  obtain ⟨s, t, hPr, ht⟩ := print_is rows hl hb
  obtain ⟨pb, hPl, _⟩ := plain_ev a0 (by omega)
  have no : Told a0 [] false 2 := fun h => by omega
  cases ok with
  | false =>
    refine ⟨[], false, 2, Ev.step (f := fun _ => some ([], false, 2)) (fun k => ?_) (Ev.now _), no⟩
    unfold spec_meant__CgroupSummaryPrint.f
    rw [if_neg (by simp)]
    simp only [spec_meant__CgroupSummaryPrint.j0]
    rw [if_pos trivial]
  | true =>
    have h1 : ∀ res, Ev (fun k => spec_meant__CgroupSummaryPrint.j0 k a0 rows false (!pb)) res → Ev (fun k => spec_meant__CgroupSummaryPrint.f k a0 rows true false) res := fun res h =>
      Ev.congr (f := fun k => (spec_Plain.f k a0).bind fun t133 => (spec_meant__CgroupSummaryPrint.j0 k a0 rows false (!t133))) (fun k => by unfold spec_meant__CgroupSummaryPrint.f; rw [if_pos rfl]) (Ev.bind hPl h)
    cases pb with
    | false =>
      refine ⟨[], false, 2, h1 _ (Ev.step (f := fun _ => some ([], false, 2)) (fun k => ?_) (Ev.now _)), no⟩
      simp only [spec_meant__CgroupSummaryPrint.j0]
      rw [if_pos (by rfl)]
    | true =>
      have hj : ∀ res, Ev (fun k => (spec_CgroupSummaryPrint.f k rows).bind fun bt134 => (if bt134.2 = 1 then (if bt134.1.toList = a0.toList then (some (rows, true, 1)) else some (([] : List (S48)), false, 2)) else (some (([] : List (S48)), false, 2)))) res → Ev (fun k => spec_meant__CgroupSummaryPrint.f k a0 rows true false) res := by
        intro res h
        refine h1 _ (Ev.step (fun k => ?_) h)
        simp only [spec_meant__CgroupSummaryPrint.j0]
        rw [if_neg (by simp)]
        simp
      by_cases c : t = 1
      · by_cases c2 : s.toList = a0.toList
        · have hs : s = a0 := (toList_eq_iff _ _).1 c2
          subst hs
          obtain ⟨tl, zs, e, hR⟩ := ht c
          subst c
          refine ⟨rows, true, 1, hj _ (Ev.bind hPr (Ev.congr (f := fun _ => some (rows, true, 1)) (fun k => by dsimp only; rw [if_pos rfl, if_pos rfl]) (Ev.now _))), fun _ => ⟨rfl, hPr, door_ok s ha tl zs e hR⟩⟩
        · exact ⟨[], false, 2, hj _ (Ev.bind hPr (Ev.congr (f := fun _ => some ([], false, 2)) (fun k => by dsimp only; rw [if_pos c, if_neg c2]) (Ev.now _))), no⟩
      · exact ⟨[], false, 2, hj _ (Ev.bind hPr (Ev.congr (f := fun _ => some ([], false, 2)) (fun k => by dsimp only; rw [if_neg c]) (Ev.now _))), no⟩
theorem read_ev (a0 : ByteArray) (ha : a0.size ≤ 40000) : ∃ (l : List S48) (ok : Bool) (told : Int), Ev (fun k => spec_CgroupSummaryRead.f k a0) (l, ok, told) ∧ Told a0 l ok told := by
  have hlen := len_data a0
  have hL := lines_ev a0 (by omega)
  have hc : ((linesL a0.data.toList).map toB).length ≤ 40001 := by
    have := lines_count a0.data.toList []
    rw [List.length_map]
    unfold linesL
    omega
  have hm : ∀ x ∈ (linesL a0.data.toList).map toB, x.size ≤ 90000 := by
    intro x hx
    obtain ⟨w, hw, rfl⟩ := List.mem_map.1 hx
    have := linesGo_len _ [] w hw
    rw [toB_size]
    simp at this
    omega
  generalize (linesL a0.data.toList).map toB = L at hL hc hm
  by_cases c : (L.length : Int) < 1
  · exact ⟨[], false, 2, Ev.bind hL (Ev.congr (f := fun _ => some ([], false, 2)) (fun k => by rw [if_pos c]) (Ev.now _)), fun h => by omega⟩
  · obtain ⟨rows, ok, hT, hr1, hr2⟩ := table_go (L.drop 1) (by rw [List.length_drop]; omega) (fun x hx => hm x (List.mem_of_mem_drop hx)) (L.drop 1).length [] 0 (by omega) (by omega) (by simp) (fun r h => by cases h)
    obtain ⟨l, ok2, told, hM, hTold⟩ := meant_is a0 ha rows ok (by rw [List.length_drop] at hr1; omega) hr2
    refine ⟨l, ok2, told, Ev.bind hL (Ev.congr (fun k => by rw [if_neg c, if_pos (by omega)]) (Ev.bind (g := fun k => spec_table.f k (L.drop 1) (⟨#[]⟩ : ByteArray)) hT (Ev.bind hM (Ev.now _)))), hTold⟩
theorem normal_ev (a0 : ByteArray) : Ev (fun k => laws_normal__CgroupSummary.f k a0) true := by
  by_cases c : (a0.size : Int) > 40000
  · exact Ev.congr (f := fun _ => some true) (fun k => by unfold laws_normal__CgroupSummary.f; rw [if_pos c]) (Ev.now _)
  · obtain ⟨l, ok, told, hR, hprop⟩ := read_ev a0 (by omega)
    have hpre : ∀ (h : Ev (fun k => if told = 1 then (laws_normal__CgroupSummary.j0 k a0 l (!ok)) else (laws_normal__CgroupSummary.j0 k a0 l true)) true), Ev (fun k => laws_normal__CgroupSummary.f k a0) true := fun h =>
      Ev.congr (fun k => by unfold laws_normal__CgroupSummary.f; rw [if_neg c]) (Ev.bind hR h)
    by_cases ct : told = 1
    · obtain ⟨rfl, hPr, n1, n2, n3, n4, n5, n6, n7, n8, hD, hg⟩ := hprop ct
      obtain ⟨l', g', hN⟩ := toNode_ev 2 n8 hg
      have hS := same_ev 2 l' g' n1 n2 n3 n4 n5 n6 n7
      refine hpre (Ev.congr (f := fun k => laws_normal__CgroupSummary.j0 k a0 l false) (fun k => by rw [if_pos ct]; rfl) (Ev.step (f := fun k => (spec_CgroupSummaryPrint.f k l).bind fun bt218 => (if bt218.2 = 1 then (laws_normal__CgroupSummary.j1 k a0 bt218.1 (decide ((bt218.1.size : Int) > 40000))) else (laws_normal__CgroupSummary.j1 k a0 bt218.1 true))) (fun k => by simp only [laws_normal__CgroupSummary.j0]; rw [if_neg (by simp)]) (Ev.bind hPr ?_)))
      refine Ev.congr (f := fun k => laws_normal__CgroupSummary.j1 k a0 a0 false) (fun k => by dsimp only; rw [if_pos rfl, decide_eq_false c]) ?_
      refine Ev.step (f := fun k => (laws_toNode.f k n1 n2 n3 n4 n5 n6 n7 n8).bind fun bt245 => ((laws_toNode.f k n1 n2 n3 n4 n5 n6 n7 n8).bind fun bt255 => ((spec_SameNode.f k bt245.1 bt245.2.1 bt245.2.2.1 bt245.2.2.2.1 bt245.2.2.2.2.1 bt245.2.2.2.2.2.1 bt245.2.2.2.2.2.2.1 bt245.2.2.2.2.2.2.2 bt255.1 bt255.2.1 bt255.2.2.1 bt255.2.2.2.1 bt255.2.2.2.2.1 bt255.2.2.2.2.2.1 bt255.2.2.2.2.2.2.1 bt255.2.2.2.2.2.2.2).bind fun t265 => (if t265 = true then ((laws_lives.f).bind fun t266 => (some t266)) else (some false))))) (fun k => ?_) (Ev.bind (hN n1 n2 n3 n4 n5 n6 n7) (Ev.bind (hN n1 n2 n3 n4 n5 n6 n7) (Ev.bind hS (Ev.now _))))
      simp only [laws_normal__CgroupSummary.j1]
      rw [if_neg (by simp), hD]
      simp only [Option.bind_some]
      rw [if_pos trivial, if_pos trivial]
    · refine hpre (Ev.congr (f := fun k => laws_normal__CgroupSummary.j0 k a0 l true) (fun k => by rw [if_neg ct]) (Ev.step (f := fun _ => some true) (fun k => ?_) (Ev.now _)))
      simp only [laws_normal__CgroupSummary.j0]
      rw [if_pos trivial]
      rfl
theorem FnCgroupSummaryNormal : laws_FnCgroupSummaryNormal.Pure := by
  intro a0 ha
  obtain ⟨K, hK⟩ := normal_ev a0
  refine ⟨K, ?_⟩
  unfold laws_FnCgroupSummaryNormal.f
  by_cases c : (a0.size : Int) > 2147483647
  · rw [if_pos c]
  · rw [if_neg c, show laws_normal__CgroupSummary.f K a0 = some true from hK K (Nat.le_refl _)]
    rfl
end Go.Proofs.YtdmpbaanonafbaaGreatDoor.Pure
