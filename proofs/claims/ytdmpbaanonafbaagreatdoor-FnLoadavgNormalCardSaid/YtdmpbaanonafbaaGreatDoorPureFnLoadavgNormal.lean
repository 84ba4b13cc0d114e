/- Any text as /proc/loadavg that means something is read as that, written anew in the documented form, is: every text (the law itself lets texts of more than 40,000 bytes by). -/
import Derived.Test.YtdmpbaanonafbaaGreatDoorA5
import Derived.Test.YtdmpbaanonafbaaGreatDoorLdF
import Derived.Test.YtdmpbaanonafbaaGreatDoorTexts2
import Derived.Test.YtdmpbaanonafbaaGreatDoorTreesV
set_option linter.unusedVariables false
set_option linter.unusedSimpArgs false
namespace Go.Proofs.YtdmpbaanonafbaaGreatDoor.Pure
open Go.RowKit Go.Proofs.YtdmpbaanonafbaaGreatDoorW.PrintWords Go.Proofs.YtdmpbaanonafbaaGreatDoorW.PrintLast Go.Proofs.YtdmpbaanonafbaaGreatDoor.GivZ Go.Proofs.YtdmpbaanonafbaaGreatDoor.GivDec Go.Proofs.YtdmpbaanonafbaaGreatDoorPt Go.Proofs.YtdmpbaanonafbaaGreatDoor.E Go.Proofs.YtdmpbaanonafbaaGreatDoor.V Go.Proofs.YtdmpbaanonafbaaGreatDoor.L Go.Proofs.YtdmpbaanonafbaaGreatDoor.R Go.Proofs.YtdmpbaanonafbaaGreatDoor.A Go.Proofs.YtdmpbaanonafbaaGreatDoor.G Go.Proofs.YtdmpbaanonafbaaGreatDoor.Texts Go.Proofs.YtdmpbaanonafbaaGreatDoor.Trees Go.Proofs.YtdmpbaanonafbaaGreatDoor.LdF Go.Proofs.YtdmpbaanonafbaaGreatDoor.Fl2 Go.Proofs.YtdmpbaanonafbaaGreatDoor.DoorLoad Go.Proofs.YtdmpbaanonafbaaGreatDoor.Lives
theorem small_loop (m : Int) (l : List Int) (hl : l.length ≤ 200000) (d : Nat) : ∀ (i : Nat), i ≤ l.length → l.length - i = d →
    ∃ b, Ev (fun k => spec_small.l0 k m l (l.length : Int) (i : Int)) b ∧ (b = true → ∀ v ∈ l.drop i, v < m) := by
  induction d with
  | zero =>
    intro i h1 hd
    refine ⟨true, Ev.step (f := fun _ => some true) (fun k => ?_) (Ev.now _), fun h v hv => ?_⟩
    · simp only [spec_small.l0]
      rw [if_neg (by omega)]
    · rw [List.drop_of_length_le (by omega)] at hv; cases hv
  | succ d ih =>
    intro i h1 hd
    have hi : i < l.length := by omega
    obtain ⟨b, hE, hP⟩ := ih (i + 1) (by omega) (by omega)
    have hr : rd l (i : Int) = l.getD i 0 := by simp [rd]
    have hpre : ∀ k, spec_small.l0 (k + 1) m l (l.length : Int) (i : Int) = (if l.getD i 0 ≥ m then (some false) else (spec_small.l0 k m l (l.length : Int) ((i + 1 : Nat) : Int))) := by
      intro k
      simp only [spec_small.l0]
      rw [if_pos (by omega), if_pos (by omega), if_pos (by omega), hr, wrap_in (by omega) (by omega)]
      rfl
    by_cases c1 : l.getD i 0 ≥ m
    · exact ⟨false, Ev.step (f := fun _ => some false) (fun k => by rw [hpre, if_pos c1]) (Ev.now _), fun h => by cases h⟩
    · refine ⟨b, Ev.step (fun k => by rw [hpre, if_neg c1]) hE, fun h v hv => ?_⟩
      rw [drop_list l 0 i hi] at hv
      rcases List.mem_cons.1 hv with rfl | hv
      · omega
      · exact hP h v hv
theorem small_is (m : Int) (l : List Int) (hl : l.length ≤ 200000) : ∃ b, Ev (fun k => spec_small.f k m l) b ∧ (b = true → ∀ v ∈ l, v < m) := by
  obtain ⟨b, h1, h2⟩ := small_loop m l hl l.length 0 (by omega) (by omega)
  exact ⟨b, h1, by simpa using h2⟩
theorem ends (l : List UInt8) (h : ∀ c ∈ l, c.toNat ≤ 126 ∧ (c.toNat < 32 → c = 10 ∨ c = 9)) (hne : single l ≠ []) : Lib.fields l = wordsL (single l) ∧ (∀ c ∈ single l, c ∈ l) ∧ (single l).length ≤ l.length := by
  unfold single at hne ⊢
  match hL : linesL l with
  | [] => rw [hL] at hne; exact absurd rfl hne
  | x :: y :: z => rw [hL] at hne; exact absurd rfl hne
  | [x] =>
    have hx : x ∈ linesL l := by rw [hL]; exact List.mem_singleton.2 rfl
    have hm := linesGo_mem l [] x hx
    have hmem : ∀ c ∈ x, c ∈ l ∧ c ≠ 10 := fun c hc => by
      rcases hm c hc with h2 | h2
      · cases h2
      · exact h2
    have hsp : ∀ c ∈ x, Lib.isSp c = true → c = 32 ∨ c = 9 := by
      intro c hc hs
      have h1 := h c (hmem c hc).1
      have h2 := (hmem c hc).2
      have hn : c.toNat = 9 ∨ c.toNat = 10 ∨ c.toNat = 11 ∨ c.toNat = 12 ∨ c.toNat = 13 ∨ c.toNat = 32 := by
        simp only [Lib.isSp, Bool.or_eq_true, beq_iff_eq] at hs
        rcases hs with ((((rfl | rfl) | rfl) | rfl) | rfl) | rfl <;> decide
      rcases hn with e | e | e | e | e | e
      · exact .inr (UInt8.toNat_inj.1 e)
      · exact absurd (UInt8.toNat_inj.1 e) h2
      · have := h1.2 (by omega); rcases this with h3 | h3 <;> rw [h3] at e <;> simp at e
      · have := h1.2 (by omega); rcases this with h3 | h3 <;> rw [h3] at e <;> simp at e
      · have := h1.2 (by omega); rcases this with h3 | h3 <;> rw [h3] at e <;> simp at e
      · exact .inl (UInt8.toNat_inj.1 e)
    have hl := linesGo_len l [] x hx
    refine ⟨?_, fun c hc => (hmem c hc).1, by simpa using hl⟩
    rcases linesGo_one l [] x hL with e | e
    · rw [List.nil_append] at e
      rw [e]
      exact words_fields x [] hsp
    · rw [List.nil_append] at e
      rw [e]
      unfold Lib.fields
      rw [fieldsGo_line]
      exact words_fields x [] hsp

theorem u64_rng (n : Int) : 0 ≤ IntKind.u64.wrap n ∧ IntKind.u64.wrap n ≤ 18446744073709551615 := by rw [IntKind.wrap_u64]; omega
theorem pad_loop (d : Nat) : ∀ (x : ByteArray), x.size + d = 2 → ∃ s : ByteArray, Ev (fun k => spec_Padded.l0 k 2 x) s ∧ s.size = 2 := by
  induction d with
  | zero =>
    intro x hx
    refine ⟨x, Ev.step (f := fun _ => some x) (fun k => ?_) (Ev.now _), by omega⟩
    simp only [spec_Padded.l0]
    rw [if_neg (by omega)]
  | succ d ih =>
    intro x hx
    obtain ⟨z, hz⟩ : ∃ z : ByteArray, z = (⟨#[48]⟩ : ByteArray) := ⟨_, rfl⟩
    have hzs : z.size = 1 := by rw [hz]; rfl
    obtain ⟨s, hE, h1⟩ := ih (z ++ x) (by rw [ByteArray.size_append]; omega)
    refine ⟨s, Ev.step (fun k => ?_) hE, h1⟩
    simp only [spec_Padded.l0]
    rw [if_pos (by omega), if_pos (by omega), hz]
theorem padded2 (v : Int) (h0 : 0 ≤ v) (h1 : v < 100) : ∃ s : ByteArray, Ev (fun k => spec_Padded.f k v 10 2) s ∧ s.size = 2 := by
  obtain ⟨n, rfl⟩ := Int.eq_ofNat_of_zero_le h0
  obtain ⟨s, hE, hs⟩ := digits_ev 1 n (by have : 10 ^ (1 + 1) = 100 := by decide
                                          omega) (by omega) (by omega)
  obtain ⟨t, hT, h2⟩ := pad_loop (2 - s.size) s (by omega)
  exact ⟨t, Ev.bind hE hT, h2⟩
theorem hun_ev (n : Int) (h0 : 0 ≤ n) : ∃ s : ByteArray, Ev (fun k => spec_Hundredths.f k n) s ∧ s.size ≤ 23 := by
  obtain ⟨a, hA, ha⟩ := text_ev (IntKind.u64.wrap (Int.tdiv n 100)) (u64_rng _).1 (u64_rng _).2
  obtain ⟨b, hB, hb⟩ := padded2 (Int.tmod n 100) (Int.tmod_nonneg _ h0) (Int.tmod_lt_of_pos _ (by decide))
  obtain ⟨z, hz⟩ : ∃ z : ByteArray, z = (⟨#[46]⟩ : ByteArray) := ⟨_, rfl⟩
  have hzs : z.size = 1 := by rw [hz]; rfl
  have hpre : ∀ k, spec_Hundredths.f k n = (spec_Text.f k (IntKind.u64.wrap (Int.tdiv n 100))).bind fun t101 => (if t101.size + 1 ≤ 9223372036854775807 then ((spec_Padded.f k (Int.tmod n 100) 10 2).bind fun t102 => (if (t101 ++ z).size + t102.size ≤ 9223372036854775807 then (some ((t101 ++ z) ++ t102)) else (none))) else (none)) := fun k => by rw [hz]; rfl
  have hsz : (a ++ z).size ≤ 21 := by rw [ByteArray.size_append]; omega
  refine ⟨(a ++ z) ++ b, Ev.congr hpre (Ev.bind hA (Ev.congr (fun k => if_pos (by omega)) (Ev.bind hB (Ev.congr (f := fun _ => some ((a ++ z) ++ b)) (fun k => if_pos (by omega)) (Ev.now _))))), ?_⟩
  rw [ByteArray.size_append]
  omega
theorem parts_loop (s : ByteArray) (hs : s.size ≤ 100000) (c : Int) (d : Nat) : ∀ (acc : List ByteArray) (st i : Nat), i ≤ s.size → s.size - i = d → st ≤ i → acc.length ≤ i → (∀ p ∈ acc, p.size ≤ s.size) →
    ∃ ps, Ev (fun k => spec_Parts.l0 k s c acc (st : Int) (s.size : Int) (i : Int)) ps ∧ ps.length ≤ s.size + 1 ∧ ∀ p ∈ ps, p.size ≤ s.size := by
  have hex : ∀ i j, (s.extract i j).size ≤ s.size := fun i j => by rw [ByteArray.size_extract]; omega
  induction d with
  | zero =>
    intro acc st i h1 hd h2 h3 h4
    refine ⟨acc ++ [s.extract ((st : Nat) : Int).toNat s.size], Ev.step (f := fun _ => some (acc ++ [s.extract ((st : Nat) : Int).toNat s.size])) (fun k => ?_) (Ev.now _), by rw [List.length_append]; simp; omega, fun p hp => ?_⟩
    · simp only [spec_Parts.l0]
      rw [if_neg (by omega), if_pos (by omega), if_pos (by omega), if_pos (by omega)]
    · rcases List.mem_append.1 hp with hp | hp
      · exact h4 p hp
      · rw [List.mem_singleton.1 hp]; exact hex _ _
  | succ d ih =>
    intro acc st i h1 hd h2 h3 h4
    by_cases cc : bt s (i : Int) = c
    · obtain ⟨ps, hE, h5, h6⟩ := ih (acc ++ [s.extract ((st : Nat) : Int).toNat ((i : Nat) : Int).toNat]) (i + 1) (i + 1) (by omega) (by omega) (by omega) (by rw [List.length_append]; simp; omega) (fun p hp => by
        rcases List.mem_append.1 hp with hp | hp
        · exact h4 p hp
        · rw [List.mem_singleton.1 hp]; exact hex _ _)
      refine ⟨ps, Ev.step (fun k => ?_) hE, h5, h6⟩
      simp only [spec_Parts.l0]
      rw [if_pos (show (i : Int) < (s.size : Int) by omega), if_pos (show (0 : Int) ≤ (i : Int) by omega), if_pos (show (i : Int) < (s.size : Int) by omega), if_pos cc, if_pos (by omega), if_pos (by omega), if_pos (by omega), if_pos (by omega), wrap_in (by omega) (by omega)]
      rfl
    · obtain ⟨ps, hE, h5, h6⟩ := ih acc st (i + 1) (by omega) (by omega) (by omega) (by omega) h4
      refine ⟨ps, Ev.step (fun k => ?_) hE, h5, h6⟩
      simp only [spec_Parts.l0]
      rw [if_pos (show (i : Int) < (s.size : Int) by omega), if_pos (show (0 : Int) ≤ (i : Int) by omega), if_pos (show (i : Int) < (s.size : Int) by omega), if_neg cc, wrap_in (by omega) (by omega)]
      rfl
theorem parts_ev (s : ByteArray) (hs : s.size ≤ 100000) (c : Int) : ∃ ps, Ev (fun k => spec_Parts.f k s c) ps ∧ ps.length ≤ s.size + 1 ∧ ∀ p ∈ ps, p.size ≤ s.size :=
  parts_loop s hs c s.size [] 0 0 (by omega) (by omega) (by omega) (by simp) (fun p hp => by cases hp)
theorem where_loop (s : ByteArray) (hs : s.size ≤ 100000) (c : Int) (d : Nat) : ∀ (i : Nat), i ≤ s.size → s.size - i = d →
    ∃ r : Int, Ev (fun k => spec_Where.l0 k s c (s.size : Int) (i : Int)) r ∧ (r = -1 ∨ ∃ n : Nat, r = n ∧ n < s.size ∧ bt s (n : Int) = c) := by
  induction d with
  | zero =>
    intro i h1 hd
    refine ⟨-1, Ev.step (f := fun _ => some (-1)) (fun k => ?_) (Ev.now _), .inl rfl⟩
    simp only [spec_Where.l0]
    rw [if_neg (by omega)]
  | succ d ih =>
    intro i h1 hd
    by_cases cc : bt s (i : Int) = c
    · refine ⟨i, Ev.step (f := fun _ => some ((i : Nat) : Int)) (fun k => ?_) (Ev.now _), .inr ⟨i, rfl, by omega, cc⟩⟩
      simp only [spec_Where.l0]
      rw [if_pos (show (i : Int) < (s.size : Int) by omega), if_pos (show (0 : Int) ≤ (i : Int) by omega), if_pos (show (i : Int) < (s.size : Int) by omega), if_pos cc]
    · obtain ⟨r, hE, h⟩ := ih (i + 1) (by omega) (by omega)
      refine ⟨r, Ev.step (fun k => ?_) hE, h⟩
      simp only [spec_Where.l0]
      rw [if_pos (show (i : Int) < (s.size : Int) by omega), if_pos (show (0 : Int) ≤ (i : Int) by omega), if_pos (show (i : Int) < (s.size : Int) by omega), if_neg cc, wrap_in (by omega) (by omega)]
      rfl
theorem hundreds_ev (s : ByteArray) (hs : s.size ≤ 100000) : ∃ (v : Int) (ok : Bool), Ev (fun k => spec_hundreds.f k s) (v, ok) ∧ 0 ≤ v ∧ v ≤ 18446744073709551615 ∧ (ok = true → HunOf s.data.toList) := by
  obtain ⟨r, hW, hr⟩ := where_loop s hs 46 s.size 0 (by omega) (by omega)
  have hW' : Ev (fun k => spec_Where.f k s 46) r := hW
  have hno : ∀ x4, Ev (fun k => spec_hundreds.j0 k s x4 true) ((0 : Int), false) := fun x4 => Ev.step (f := fun _ => some ((0 : Int), false)) (fun k => by simp only [spec_hundreds.j0]; rw [if_pos trivial]) (Ev.now _)
  by_cases c1 : r < 1
  · exact ⟨0, false, Ev.bind hW' (Ev.congr (fun k => if_pos c1) (hno r)), by omega, by omega, fun h => by cases h⟩
  rcases hr with hr | ⟨n, rfl, hn, hb⟩
  · omega
  have hw3 : wrap64 ((n : Int) + 3) = (n : Int) + 3 := wrap_in (by omega) (by omega)
  have hw1 : wrap64 ((n : Int) + 1) = ((n + 1 : Nat) : Int) := by rw [wrap_in (by omega) (by omega)]; rfl
  by_cases c2 : (s.size : Int) = (n : Int) + 3
  · have hbne : ((s.size : Int) != wrap64 ((n : Int) + 3)) = false := by rw [hw3]; exact bne_eq_false_iff_eq.mpr c2
    obtain ⟨v1, ok1, hD1, a0, a1, hV1⟩ := dec_ev (s.extract 0 n) (by rw [ByteArray.size_extract]; omega)
    obtain ⟨v2, ok2, hD2, e0, e1, hV2⟩ := dec_ev (s.extract (n + 1) s.size) (by rw [ByteArray.size_extract]; omega)
    obtain ⟨V, hV⟩ : ∃ V, V = IntKind.u64.wrap ((IntKind.u64.wrap (100 * v1)) + v2) := ⟨_, rfl⟩
    have hj : ∀ k, spec_hundreds.j0 (k + 1) s (n : Int) false = ((spec_Dec.f k (s.extract 0 n)).bind fun bt129 => ((spec_Dec.f k (s.extract (n + 1) s.size)).bind fun bt131 => (if bt129.2 = true then (if bt131.2 = true then (some (IntKind.u64.wrap ((IntKind.u64.wrap (100 * bt129.1)) + bt131.1), decide (bt129.1 < 1099511627776))) else (some (IntKind.u64.wrap ((IntKind.u64.wrap (100 * bt129.1)) + bt131.1), false))) else (some (IntKind.u64.wrap ((IntKind.u64.wrap (100 * bt129.1)) + bt131.1), false))))) := by
      intro k
      simp only [spec_hundreds.j0]
      rw [if_neg (by simp), if_pos (by omega), if_pos (by omega), Int.toNat_natCast, hw1]
      have g1 : (0 : Int) ≤ ((n + 1 : Nat) : Int) := by omega
      have g2 : ((n + 1 : Nat) : Int) ≤ (s.size : Int) := by omega
      simp only [Int.toNat_natCast, if_pos g1, if_pos g2]
    have hgo : ∀ (ok : Bool), Ev (fun k => (if ok1 = true then (if ok2 = true then (some (V, decide (v1 < 1099511627776))) else (some (V, false))) else (some (V, false)) : Option (Int × Bool))) (V, ok) → Ev (fun k => spec_hundreds.f k s) (V, ok) := fun ok h => by
      refine Ev.bind hW' (Ev.congr (fun k => by rw [if_neg c1, hbne]) (Ev.step hj ?_))
      refine Ev.bind hD1 ?_
      refine Ev.bind hD2 ?_
      rw [hV] at h ⊢
      exact h
    have hv0 := (u64_rng ((IntKind.u64.wrap (100 * v1)) + v2)).1
    have hv1 := (u64_rng ((IntKind.u64.wrap (100 * v1)) + v2)).2
    rw [← hV] at hv0 hv1
    cases ok1 with
    | false => exact ⟨V, false, hgo false (Ev.congr (f := fun _ => some (V, false)) (fun k => if_neg (by simp)) (Ev.now _)), hv0, hv1, fun h => by cases h⟩
    | true =>
      cases ok2 with
      | false => exact ⟨V, false, hgo false (Ev.congr (f := fun _ => some (V, false)) (fun k => by rw [if_pos rfl, if_neg (by simp)]) (Ev.now _)), hv0, hv1, fun h => by cases h⟩
      | true =>
        refine ⟨V, decide (v1 < 1099511627776), hgo _ (Ev.congr (f := fun _ => some (V, decide (v1 < 1099511627776))) (fun k => by rw [if_pos rfl, if_pos rfl]) (Ev.now _)), hv0, hv1, fun h => ?_⟩
        have hlt := of_decide_eq_true h
        obtain ⟨-, -, p1, q1⟩ := hV1 rfl
        obtain ⟨-, -, p2, q2⟩ := hV2 rfl
        have hlen := len_data s
        rw [Lib.extract_data, List.drop_zero, Nat.sub_zero] at q1
        rw [Lib.extract_data] at q2
        have hd : s.data.toList.drop n = (s[n]'hn) :: s.data.toList.drop (n + 1) := RF.drop_get s n hn
        have hc : (s[n]'hn).toNat = 46 := by
          unfold bt at hb
          rw [dif_pos (show ((n : Int)).toNat < s.size by rw [Int.toNat_natCast]; exact hn)] at hb
          simp only [Int.toNat_natCast] at hb
          omega
        have hl2 : (s.data.toList.drop (n + 1)).length = 2 := by rw [List.length_drop]; omega
        have hB : ∃ b1 b2, s.data.toList.drop (n + 1) = [b1, b2] := by
          match hz : s.data.toList.drop (n + 1), hl2 with
          | [b1, b2], _ => exact ⟨b1, b2, rfl⟩
        obtain ⟨b1, b2, hB⟩ := hB
        rw [hB, List.take_of_length_le (by simp; omega)] at q2
        refine ⟨s.data.toList.take n, s[n]'hn, b1, b2, _, _, ?_, hc, ?_, q1, by omega, q2⟩
        · rw [← hB, ← hd, List.take_append_drop]
        · intro e
          have := congrArg List.length e
          rw [List.length_take, List.length_nil] at this
          omega
  · have hbne : ((s.size : Int) != wrap64 ((n : Int) + 3)) = true := by rw [hw3]; exact bne_iff_ne.mpr c2
    exact ⟨0, false, Ev.bind hW' (Ev.congr (fun k => by rw [if_neg c1, hbne]) (hno _)), by omega, by omega, fun h => by cases h⟩
theorem szL (c : UInt8) : (⟨#[c]⟩ : ByteArray).size = 1 := rfl
theorem print_ev (e : ByteArray) (ns : List Int) (hl : ns.length ≤ 200000) (hv : ∀ v ∈ ns, 0 ≤ v ∧ v ≤ 18446744073709551615) : ∃ (s : ByteArray) (t : Int), Ev (fun k => spec_LoadavgPrint.f k [(⟨e, ns, ([] : List ByteArray)⟩ : S48)]) (s, t) := by
  have hR : rd_T48 [(⟨e, ns, ([] : List ByteArray)⟩ : S48)] 0 = ⟨e, ns, ([] : List ByteArray)⟩ := rfl
  have hz : spec_sized.f e ns ([] : List ByteArray) 6 0 = some (if (ns.length : Int) = 6 then true else false) := by
    unfold spec_sized.f
    by_cases c : (ns.length : Int) = 6
    · rw [if_pos c, if_pos c]; rfl
    · rw [if_neg c, if_neg c]
  have hno : Ev (fun k => spec_LoadavgPrint.j0 k [(⟨e, ns, ([] : List ByteArray)⟩ : S48)] true) ((⟨#[]⟩ : ByteArray), (2 : Int)) := Ev.step (f := fun _ => some ((⟨#[]⟩ : ByteArray), (2 : Int))) (fun k => by simp only [spec_LoadavgPrint.j0]; rw [if_pos trivial]) (Ev.now _)
  have hpre : ∀ k, spec_LoadavgPrint.f k [(⟨e, ns, ([] : List ByteArray)⟩ : S48)] = if (ns.length : Int) = 6 then ((spec_small.f k 1099511627776 ns).bind fun t106 => (spec_LoadavgPrint.j0 k [(⟨e, ns, ([] : List ByteArray)⟩ : S48)] (!t106))) else (spec_LoadavgPrint.j0 k [(⟨e, ns, ([] : List ByteArray)⟩ : S48)] true) := by
    intro k
    unfold spec_LoadavgPrint.f
    rw [if_pos (by rfl), if_pos (by simp), hR, hz]
    simp only [Option.bind_some]
    by_cases c : (ns.length : Int) = 6
    · rw [if_pos c, if_pos c, if_pos rfl]
    · rw [if_neg c, if_neg c, if_neg (by simp)]
  by_cases c : (ns.length : Int) = 6
  · obtain ⟨b, hS, -⟩ := small_is 1099511627776 ns hl
    cases b with
    | false => exact ⟨(⟨#[]⟩ : ByteArray), 2, Ev.congr (fun k => by rw [hpre, if_pos c]) (Ev.bind hS hno)⟩
    | true =>
      have hr : ∀ i : Nat, i < 6 → 0 ≤ rd ns (i : Int) ∧ rd ns (i : Int) ≤ 18446744073709551615 := fun i hi => by
        have := hv _ (getD_mem ns 0 i (by omega))
        show 0 ≤ ns.getD ((i : Int)).toNat 0 ∧ ns.getD ((i : Int)).toNat 0 ≤ _
        rw [Int.toNat_natCast]
        exact this
      obtain ⟨s0, H0, z0⟩ := hun_ev (rd ns 0) (hr 0 (by decide)).1
      obtain ⟨s1, H1, z1⟩ := hun_ev (rd ns 1) (hr 1 (by decide)).1
      obtain ⟨s2, H2, z2⟩ := hun_ev (rd ns 2) (hr 2 (by decide)).1
      obtain ⟨s3, H3, z3⟩ := text_ev (rd ns 3) (hr 3 (by decide)).1 (hr 3 (by decide)).2
      obtain ⟨s4, H4, z4⟩ := text_ev (rd ns 4) (hr 4 (by decide)).1 (hr 4 (by decide)).2
      obtain ⟨s5, H5, z5⟩ := text_ev (rd ns 5) (hr 5 (by decide)).1 (hr 5 (by decide)).2
      suffices h : ∃ st : ByteArray × Int, Ev (fun k => spec_LoadavgPrint.j0 (k + 1) [(⟨e, ns, ([] : List ByteArray)⟩ : S48)] false) st by
        obtain ⟨⟨s, t⟩, h⟩ := h
        exact ⟨s, t, Ev.congr (fun k => by rw [hpre, if_pos c]) (Ev.bind hS (Ev.congr (f := fun k => spec_LoadavgPrint.j0 k [(⟨e, ns, ([] : List ByteArray)⟩ : S48)] false) (fun k => rfl) (Ev.step (f := fun k => spec_LoadavgPrint.j0 (k + 1) [(⟨e, ns, ([] : List ByteArray)⟩ : S48)] false) (fun k => rfl) h)))⟩
      refine ⟨?_, ?_⟩
      rotate_left
      · simp only [spec_LoadavgPrint.j0, hR]
        refine Ev.congr (fun k => if_neg (by simp)) ?_
        refine Ev.congr (fun k => if_pos (by simp)) ?_
        refine Ev.congr (fun k => if_pos (by omega)) ?_
        refine Ev.bind H0 ?_
        refine Ev.congr (fun k => if_pos (by omega)) ?_
        refine Ev.congr (fun k => if_pos (by omega)) ?_
        refine Ev.bind H1 ?_
        refine Ev.congr (fun k => if_pos (by simp only [ByteArray.size_append, szL]; omega)) ?_
        refine Ev.congr (fun k => if_pos (by simp only [ByteArray.size_append, szL]; omega)) ?_
        refine Ev.congr (fun k => if_pos (by omega)) ?_
        refine Ev.bind H2 ?_
        refine Ev.congr (fun k => if_pos (by simp only [ByteArray.size_append, szL]; omega)) ?_
        refine Ev.congr (fun k => if_pos (by simp only [ByteArray.size_append, szL]; omega)) ?_
        refine Ev.congr (fun k => if_pos (by omega)) ?_
        refine Ev.bind H3 ?_
        refine Ev.congr (fun k => if_pos (by simp only [ByteArray.size_append, szL]; omega)) ?_
        refine Ev.congr (fun k => if_pos (by simp only [ByteArray.size_append, szL]; omega)) ?_
        refine Ev.congr (fun k => if_pos (by omega)) ?_
        refine Ev.bind H4 ?_
        refine Ev.congr (fun k => if_pos (by simp only [ByteArray.size_append, szL]; omega)) ?_
        refine Ev.congr (fun k => if_pos (by simp only [ByteArray.size_append, szL]; omega)) ?_
        refine Ev.congr (fun k => if_pos (by omega)) ?_
        refine Ev.bind H5 ?_
        refine Ev.congr (fun k => if_pos (by simp only [ByteArray.size_append, szL]; omega)) ?_
        refine Ev.congr (fun k => if_pos (by simp only [ByteArray.size_append, szL]; omega)) ?_
        exact Ev.now _
  · exact ⟨(⟨#[]⟩ : ByteArray), 2, Ev.congr (fun k => by rw [hpre, if_neg c]) hno⟩
theorem meant_ev (a0 : ByteArray) (ha : a0.size ≤ 40000) (l : List S48) (ok : Bool) (hp : ok = true → ∃ (s : ByteArray) (t : Int), Ev (fun k => spec_LoadavgPrint.f k l) (s, t)) :
    ∃ (l' : List S48) (ok' : Bool) (told : Int), Ev (fun k => spec_meant__LoadavgPrint.f k a0 l ok false) (l', ok', told) ∧ (told = 1 → ok = true ∧ ok' = true ∧ l' = l ∧ Ev (fun k => spec_LoadavgPrint.f k l) (a0, 1) ∧ ∀ c ∈ a0.data.toList, c.toNat ≤ 126 ∧ (c.toNat < 32 → c = 10 ∨ c = 9)) := by
  obtain ⟨pb, hPl, hplain⟩ := plain_ev a0 (by omega)
  have hno : Ev (fun k => spec_meant__LoadavgPrint.j0 k a0 l false true) (([] : List S48), false, (2 : Int)) := Ev.step (f := fun _ => some (([] : List S48), false, (2 : Int))) (fun k => by simp only [spec_meant__LoadavgPrint.j0]; rw [if_pos trivial]) (Ev.now _)
  cases ok with
  | false => exact ⟨[], false, 2, Ev.congr (fun k => by unfold spec_meant__LoadavgPrint.f; rw [if_neg (by simp)]) hno, fun h => by omega⟩
  | true =>
    cases pb with
    | false =>
      exact ⟨[], false, 2, Ev.congr (f := fun k => (spec_Plain.f k a0).bind fun t => (spec_meant__LoadavgPrint.j0 k a0 l false (!t))) (fun k => by unfold spec_meant__LoadavgPrint.f; rw [if_pos rfl]) (Ev.bind hPl hno), fun h => by omega⟩
    | true =>
      obtain ⟨s, t, hPr⟩ := hp rfl
      have hj : ∀ (res : List S48 × Bool × Int), Ev (fun k => (spec_LoadavgPrint.f k l).bind fun bt134 => (if bt134.2 = 1 then (if bt134.1.toList = a0.toList then (some (l, true, 1)) else (some (([] : List (S48)), false, 2))) else (some (([] : List (S48)), false, 2)))) res → Ev (fun k => spec_meant__LoadavgPrint.f k a0 l true false) res := by
        intro res h
        refine Ev.congr (f := fun k => (spec_Plain.f k a0).bind fun t => (spec_meant__LoadavgPrint.j0 k a0 l false (!t))) (fun k => by unfold spec_meant__LoadavgPrint.f; rw [if_pos rfl]) (Ev.bind hPl (Ev.step (fun k => ?_) h))
        simp only [spec_meant__LoadavgPrint.j0]
        rw [if_neg (by simp)]
        simp
      by_cases c : t = 1
      · by_cases c2 : s.toList = a0.toList
        · have hs : s = a0 := (toList_eq_iff _ _).1 c2
          subst hs
          subst c
          exact ⟨l, true, 1, hj _ (Ev.bind hPr (Ev.congr (f := fun _ => some (l, true, (1 : Int))) (fun k => by dsimp only; rw [if_pos rfl, if_pos rfl]) (Ev.now _))), fun _ => ⟨rfl, rfl, rfl, hPr, hplain rfl⟩⟩
        · exact ⟨[], false, 2, hj _ (Ev.bind hPr (Ev.congr (f := fun _ => some ([], false, 2)) (fun k => by dsimp only; rw [if_pos c, if_neg c2]) (Ev.now _))), fun h => by omega⟩
      · exact ⟨[], false, 2, hj _ (Ev.bind hPr (Ev.congr (f := fun _ => some ([], false, 2)) (fun k => by dsimp only; rw [if_neg c]) (Ev.now _))), fun h => by omega⟩
/-- What is done behind the three loads. -/
def tailF (k : Nat) (a0 : ByteArray) (x5 : List ByteArray) (e : ByteArray) (ns : List Int) : Option (List S48 × Bool × Int) :=
  if 3 < (x5.length : Int) then ((spec_Parts.f k (rdOf ByteArray.empty x5 3) 47).bind fun t160 => (if 4 < (x5.length : Int) then ((some (([rdOf ByteArray.empty x5 4] : List ByteArray) : List ByteArray)).bind fun y164 => (if t160.length + y164.length < 8796093022208 then ((spec_decimals.f k (t160 ++ y164)).bind fun bt170 => (if ns.length + bt170.1.length < 17592186044416 then ((spec_meant__LoadavgPrint.f k a0 (([(⟨e, (ns ++ bt170.1), ([] : List ByteArray)⟩ : S48)] : List (S48))) bt170.2 false).bind fun bt180 => (some (bt180.1, bt180.2.1, bt180.2.2))) else (none))) else (none))) else (none))) else (none)
theorem read_loop (a0 : ByteArray) (x5 ws : List ByteArray) (hl : ws.length ≤ 10) (hs : ∀ x ∈ ws, x.size ≤ 100000) (e : ByteArray) (d : Nat) : ∀ (ns : List Int) (j : Nat), j ≤ ws.length → ws.length - j = d → ns.length = j → (∀ v ∈ ns, 0 ≤ v ∧ v ≤ 18446744073709551615) → (∀ i, i < j → HunOf (ws.getD i ByteArray.empty).data.toList) →
    (∃ ns', ns'.length = ws.length ∧ (∀ v ∈ ns', 0 ≤ v ∧ v ≤ 18446744073709551615) ∧ (∀ i, i < ws.length → HunOf (ws.getD i ByteArray.empty).data.toList) ∧ ∀ res, Ev (fun k => tailF k a0 x5 e ns') res → Ev (fun k => spec_LoadavgRead.l0 k a0 x5 ws (ws.length : Int) (j : Int) e ns) res) ∨
    Ev (fun k => spec_LoadavgRead.l0 k a0 x5 ws (ws.length : Int) (j : Int) e ns) (([] : List S48), false, 2) := by
  induction d with
  | zero =>
    intro ns j h1 hd hn hv ha
    refine .inl ⟨ns, by omega, hv, fun i hi => ha i (by omega), fun res h => Ev.step (fun k => ?_) h⟩
    simp only [spec_LoadavgRead.l0]
    rw [if_neg (by omega)]
    rfl
  | succ d ih =>
    intro ns j h1 hd hn hv ha
    have hj : j < ws.length := by omega
    have hmem := getD_mem ws ByteArray.empty j hj
    have hrd : rdOf ByteArray.empty ws (j : Int) = ws.getD j ByteArray.empty := by simp [rdOf]
    obtain ⟨v, ok, hD, v0, v1, hV⟩ := hundreds_ev (ws.getD j ByteArray.empty) (hs _ hmem)
    have hpre : ∀ k, spec_LoadavgRead.l0 (k + 1) a0 x5 ws (ws.length : Int) (j : Int) e ns = ((spec_hundreds.f k (ws.getD j ByteArray.empty)).bind fun bt => (if bt.2 = true then (if ns.length + 1 < 17592186044416 then (spec_LoadavgRead.l0 k a0 x5 ws (ws.length : Int) ((j + 1 : Nat) : Int) e (ns ++ [bt.1])) else (none)) else (some (([] : List (S48)), false, 2)))) := by
      intro k
      simp only [spec_LoadavgRead.l0]
      rw [if_pos (show (j : Int) < (ws.length : Int) by omega), if_pos (show (0 : Int) ≤ (j : Int) by omega), if_pos (show (j : Int) < (ws.length : Int) by omega), hrd, wrap_in (by omega) (by omega)]
      rfl
    cases ok with
    | false => exact .inr (Ev.step hpre (Ev.bind hD (Ev.congr (f := fun _ => some (([] : List S48), false, 2)) (fun k => by dsimp only; rw [if_neg (by simp)]) (Ev.now _))))
    | true =>
      have hgo : ∀ res, Ev (fun k => spec_LoadavgRead.l0 k a0 x5 ws (ws.length : Int) ((j + 1 : Nat) : Int) e (ns ++ [v])) res → Ev (fun k => spec_LoadavgRead.l0 k a0 x5 ws (ws.length : Int) (j : Int) e ns) res := fun res h =>
        Ev.step hpre (Ev.bind hD (Ev.congr (fun k => by dsimp only; rw [if_pos rfl, if_pos (by omega)]) h))
      rcases ih (ns ++ [v]) (j + 1) (by omega) (by omega) (by rw [List.length_append, hn]; rfl) (fun x hx => by
        rcases List.mem_append.1 hx with hx | hx
        · exact hv x hx
        · rw [List.mem_singleton.1 hx]; exact ⟨v0, v1⟩) (fun i hi => by
        by_cases c : i = j
        · rw [c]; exact hV rfl
        · exact ha i (by omega)) with ⟨ns', q1, q2, q3, q4⟩ | h
      · exact .inl ⟨ns', q1, q2, q3, fun res h => hgo _ (q4 res h)⟩
      · exact .inr (hgo _ h)
theorem la_ok (x y z : Nat) : ∃ ks, impl_procfsLoadAvg.f ByteArray.empty x y z = some (ByteArray.empty, 8, false, 0, 0, 0, (⟨#[]⟩ : ByteArray), ks) ∧ good 1 ks := by
  refine ⟨_, by simp [impl_procfsLoadAvg.f]; rfl, ?_⟩
  refine ⟨by simp, ?_⟩
  intro x hx
  simp at hx
  rcases hx with rfl | rfl | rfl <;> rfl
/-- What the door answers of a text of three loads and more. -/
theorem door_ok (a0 : ByteArray) (ha : a0.size ≤ 40000) (hp : ∀ c ∈ a0.data.toList, c.toNat ≤ 126 ∧ (c.toNat < 32 → c = 10 ∨ c = 9)) (h3 : 3 ≤ (wordsL (single a0.data.toList)).length) (h : ∀ i, i < 3 → HunOf ((wordsL (single a0.data.toList)).getD i [])) :
    ∃ (n1 : ByteArray) (n2 : Int) (n3 : Bool) (n4 n5 : Int) (n6 : Nat) (n7 : ByteArray) (n8 : List S35), impl_Loadavg.f a0 = some (n1, n2, n3, n4, n5, n6, n7, n8, 0) ∧ good 1 n8 := by
  have hlen := len_data a0
  have hne : single a0.data.toList ≠ [] := by
    intro e
    rw [e] at h3
    simp [wordsL, wordsGo] at h3
  obtain ⟨hf, hm, hl⟩ := ends a0.data.toList hp hne
  have hF : strings_Fields.f a0 = some ((wordsL (single a0.data.toList)).map toB) := by
    unfold strings_Fields.f
    rw [if_pos ⟨by omega, List.all_eq_true.2 (fun c hc => decide_eq_true (by have := hp c hc; omega))⟩, hf]
    rfl
  have hg : ∀ q, q < 3 → ∃ r, strconv_ParseFloat.f (rdOf ByteArray.empty ((wordsL (single a0.data.toList)).map toB) ((q : Nat) : Int)) 64 = some (r, none) := by
    intro q hq
    have e : rdOf ByteArray.empty ((wordsL (single a0.data.toList)).map toB) ((q : Nat) : Int) = toB ((wordsL (single a0.data.toList)).getD q []) := by
      show ((wordsL (single a0.data.toList)).map toB).getD ((q : Int)).toNat ByteArray.empty = _
      rw [Int.toNat_natCast, List.getD_eq_getElem?_getD, List.getElem?_map, List.getD_eq_getElem?_getD, List.getElem?_eq_getElem (show q < (wordsL (single a0.data.toList)).length by omega)]
      rfl
    rw [e]
    refine float_ok _ ?_ (by rw [toB_data]; exact h q hq)
    have := (wordsGo_mem _ [] _ (getD_mem (wordsL (single a0.data.toList)) [] q (by omega))).2.1
    rw [toB_size]
    simp at this ⊢
    omega
  obtain ⟨x, hx⟩ := hg 0 (by decide)
  obtain ⟨y, hy⟩ := hg 1 (by decide)
  obtain ⟨z, hz⟩ := hg 2 (by decide)
  obtain ⟨ks, hK, hG⟩ := la_ok x y z
  refine ⟨ByteArray.empty, 8, false, 0, 0, 0, (⟨#[]⟩ : ByteArray), ks, ?_, hG⟩
  unfold impl_Loadavg.f
  rw [if_pos (by omega), hF, Option.bind_some, if_pos (by rw [List.length_map]; exact h3)]
  rw [show ((0 : Nat) : Int) = 0 from rfl] at hx
  rw [show ((1 : Nat) : Int) = 1 from rfl] at hy
  rw [show ((2 : Nat) : Int) = 2 from rfl] at hz
  rw [hx, Option.bind_some, hy, Option.bind_some, hz, Option.bind_some, if_pos ⟨rfl, rfl, rfl⟩, hK]
  rfl
theorem decs_loop (l : List ByteArray) (hl : l.length ≤ 200000) (hs : ∀ x ∈ l, x.size ≤ 100000) (d : Nat) : ∀ (out : List Int) (i : Nat), i ≤ l.length → l.length - i = d → out.length ≤ i →
    ∃ (ns : List Int) (ok : Bool), Ev (fun k => spec_decimals.l0 k out l (l.length : Int) (i : Int)) (ns, ok) ∧ ns.length ≤ l.length ∧ (ok = true → ∃ more, ns = out ++ more ∧ allDec (l.drop i) more) := by
  induction d with
  | zero =>
    intro out i h1 hd ho
    refine ⟨out, true, Ev.step (f := fun _ => some (out, true)) (fun k => ?_) (Ev.now _), by omega, fun _ => ⟨[], by simp, ?_⟩⟩
    · simp only [spec_decimals.l0]
      rw [if_neg (by omega)]
    · rw [List.drop_of_length_le (by omega)]
      trivial
  | succ d ih =>
    intro out i h1 hd ho
    have hi : i < l.length := by omega
    have hx : l.getD i ByteArray.empty ∈ l := by
      rw [List.getD_eq_getElem?_getD, List.getElem?_eq_getElem hi]
      exact List.getElem_mem hi
    have hdr := drop_list l ByteArray.empty i hi
    obtain ⟨v, ok, hD, v0, v1, hV⟩ := dec_ev (l.getD i ByteArray.empty) (hs _ hx)
    obtain ⟨t, hT, tS⟩ := text_ev v v0 v1
    have hpre : ∀ k, spec_decimals.l0 (k + 1) out l (l.length : Int) (i : Int) = (spec_Dec.f k (l.getD i ByteArray.empty)).bind fun bt142 => (if bt142.2 = true then ((spec_Text.f k bt142.1).bind fun t144 => (if t144.toList = (l.getD i ByteArray.empty).toList then (if out.length < 17592186044416 then (spec_decimals.l0 k (out ++ [bt142.1]) l (l.length : Int) ((i + 1 : Nat) : Int)) else (none)) else (some (([] : List Int), false)))) else (some (([] : List Int), false))) := by
      intro k
      simp only [spec_decimals.l0]
      rw [if_pos (by omega), if_pos (by omega), if_pos (by omega), wrap_in (by omega) (by omega)]
      rfl
    cases ok with
    | false => exact ⟨[], false, Ev.step hpre (Ev.bind hD (Ev.congr (f := fun _ => some ([], false)) (fun k => by dsimp only; rw [if_neg (by simp)]) (Ev.now _))), by simp, fun h => by cases h⟩
    | true =>
      by_cases c : t.toList = (l.getD i ByteArray.empty).toList
      · obtain ⟨ns, ok, hE, hN, hR⟩ := ih (out ++ [v]) (i + 1) (by omega) (by omega) (by simp; omega)
        refine ⟨ns, ok, Ev.step hpre (Ev.bind hD ?_), hN, fun h => ?_⟩
        · refine Ev.congr (f := fun k => (spec_Text.f k v).bind fun t144 => (if t144.toList = (l.getD i ByteArray.empty).toList then (if out.length < 17592186044416 then (spec_decimals.l0 k (out ++ [v]) l (l.length : Int) ((i + 1 : Nat) : Int)) else (none)) else (some (([] : List Int), false)))) (fun k => by dsimp only; rw [if_pos rfl]) (Ev.bind hT (Ev.congr (fun k => ?_) hE))
          rw [if_pos c, if_pos (by omega)]
        · obtain ⟨more, rfl, hm⟩ := hR h
          refine ⟨v :: more, by simp, ?_⟩
          rw [hdr]
          exact ⟨hV rfl, hm⟩
      · refine ⟨[], false, Ev.step hpre (Ev.bind hD ?_), by simp, fun h => by cases h⟩
        refine Ev.congr (f := fun k => (spec_Text.f k v).bind fun t144 => (if t144.toList = (l.getD i ByteArray.empty).toList then (if out.length < 17592186044416 then (spec_decimals.l0 k (out ++ [v]) l (l.length : Int) ((i + 1 : Nat) : Int)) else (none)) else (some (([] : List Int), false)))) (fun k => by dsimp only; rw [if_pos rfl]) (Ev.bind hT (Ev.congr (f := fun _ => some ([], false)) (fun k => ?_) (Ev.now _)))
        rw [if_neg c]
theorem decs_ev (l : List ByteArray) (hl : l.length ≤ 200000) (hs : ∀ x ∈ l, x.size ≤ 100000) :
    ∃ (ns : List Int) (ok : Bool), Ev (fun k => spec_decimals.f k l) (ns, ok) ∧ ns.length ≤ l.length ∧ (ok = true → allDec l ns) := by
  obtain ⟨ns, ok, hE, hN, h⟩ := decs_loop l hl hs l.length [] 0 (by omega) (by omega) (by simp)
  refine ⟨ns, ok, hE, hN, fun h2 => ?_⟩
  obtain ⟨more, rfl, hm⟩ := h h2
  simpa using hm

theorem read_ev (a0 : ByteArray) (ha : a0.size ≤ 40000) : ∃ (l : List S48) (ok : Bool) (told : Int), Ev (fun k => spec_LoadavgRead.f k a0) (l, ok, told) ∧
    (told = 1 → ok = true ∧ Ev (fun k => spec_LoadavgPrint.f k l) (a0, 1) ∧ ∃ (n1 : ByteArray) (n2 : Int) (n3 : Bool) (n4 n5 : Int) (n6 : Nat) (n7 : ByteArray) (n8 : List S35), impl_Loadavg.f a0 = some (n1, n2, n3, n4, n5, n6, n7, n8, 0) ∧ good 1 n8) := by
  have hlen := len_data a0
  have hsl : (single a0.data.toList).length ≤ a0.size := by
    unfold single
    match hL : linesL a0.data.toList with
    | [] => simp
    | x :: y :: z => simp
    | [x] =>
      have := linesGo_len a0.data.toList [] x (by unfold linesL at hL; rw [hL]; exact List.mem_singleton.2 rfl)
      simp at this ⊢
      omega
  have hws : (wordsL (single a0.data.toList)).length ≤ 40001 := by
    have := wordsGo_size (single a0.data.toList) []
    unfold wordsL
    omega
  have hFd := fields_ev (toB (single a0.data.toList)) (by rw [toB_size]; omega)
  rw [toB_data] at hFd
  have hsz : ∀ x ∈ (wordsL (single a0.data.toList)).map toB, x.size ≤ 40000 := fun x hx => by
    obtain ⟨l, hl1, rfl⟩ := List.mem_map.1 hx
    have := (wordsGo_mem _ [] l hl1).2.1
    rw [toB_size]
    simp at this
    omega
  have hget : ∀ q, q < (wordsL (single a0.data.toList)).length → (((wordsL (single a0.data.toList)).map toB).getD q ByteArray.empty).data.toList = (wordsL (single a0.data.toList)).getD q [] := by
    intro q hq
    rw [List.getD_eq_getElem?_getD, List.getElem?_map, List.getD_eq_getElem?_getD, List.getElem?_eq_getElem hq]
    exact toB_data _
  obtain ⟨F, hF⟩ : ∃ F, F = (wordsL (single a0.data.toList)).map toB := ⟨_, rfl⟩
  have hFl : F.length = (wordsL (single a0.data.toList)).length := by rw [hF, List.length_map]
  rw [← hF] at hFd hsz hget
  have hno : Ev (fun k => spec_LoadavgRead.j0 k a0 F true) (([] : List S48), false, (2 : Int)) := Ev.step (f := fun _ => some (([] : List S48), false, (2 : Int))) (fun k => by simp only [spec_LoadavgRead.j0]; rw [if_pos trivial]) (Ev.now _)
  have hpre : ∀ res, Ev (fun k => (if (F.length : Int) = 5 then (if 3 < (F.length : Int) then ((spec_Parts.f k (rdOf ByteArray.empty F 3) 47).bind fun t141 => (spec_LoadavgRead.j0 k a0 F ((t141.length : Int) != 2))) else (none)) else (spec_LoadavgRead.j0 k a0 F true))) res → Ev (fun k => spec_LoadavgRead.f k a0) res := fun res h =>
    Ev.bind (single_ev a0 (by omega)) (Ev.bind hFd h)
  by_cases c5 : (F.length : Int) = 5
  · have h5 : F.length = 5 := by omega
    have hrdF : ∀ q : Nat, q < 5 → (rdOf ByteArray.empty F (q : Int)).size ≤ 40000 := fun q hq => by
      show (F.getD ((q : Int)).toNat ByteArray.empty).size ≤ _
      rw [Int.toNat_natCast]
      exact hsz _ (getD_mem F ByteArray.empty q (by omega))
    have hs3 : (rdOf ByteArray.empty F 3).size ≤ 40000 := hrdF 3 (by decide)
    have hs4 : (rdOf ByteArray.empty F 4).size ≤ 40000 := hrdF 4 (by decide)
    obtain ⟨ps, hP, hp1, hp2⟩ := parts_ev (rdOf ByteArray.empty F 3) (by omega) 47
    by_cases c2 : (ps.length : Int) = 2
    · have hb2 : ((ps.length : Int) != 2) = false := bne_eq_false_iff_eq.mpr c2
      obtain ⟨e, he⟩ : ∃ e : ByteArray, e = ⟨#[]⟩ := ⟨_, rfl⟩
      have h3 : (F.take 3).length = 3 := by rw [List.length_take]; omega
      have hj0 : ∀ res, Ev (fun k => spec_LoadavgRead.l0 k a0 F (F.take 3) ((F.take 3).length : Int) ((0 : Nat) : Int) e ([] : List Int)) res → Ev (fun k => spec_LoadavgRead.f k a0) res := fun res h => by
        refine hpre res (Ev.congr (fun k => by rw [if_pos c5, if_pos (by omega)]) (Ev.bind hP (Ev.congr (f := fun k => spec_LoadavgRead.j0 k a0 F false) (fun k => by rw [hb2]) (Ev.step (fun k => ?_) h))))
        simp only [spec_LoadavgRead.j0]
        rw [if_neg (by simp), if_pos (by omega), he]
        rfl
      rcases read_loop a0 F (F.take 3) (by omega) (fun x hx => by have := hsz x (List.mem_of_mem_take hx); omega) e (F.take 3).length [] 0 (by omega) (by omega) rfl (fun v hv => by cases hv) (fun i hi => by omega) with ⟨ns, q1, q2, q3, q4⟩ | h
      · obtain ⟨y, hy⟩ : ∃ y, y = ps ++ [rdOf ByteArray.empty F 4] := ⟨_, rfl⟩
        have hyl : y.length = 3 := by rw [hy, List.length_append]; simp; omega
        obtain ⟨ds, ok, hD, hdsl, hok⟩ := decs_ev y (by omega) (fun x hx => by
          rw [hy] at hx
          rcases List.mem_append.1 hx with hx | hx
          · have := hp2 x hx; omega
          · rw [List.mem_singleton.1 hx]; omega)
        obtain ⟨l', ok', told, hM, hT⟩ := meant_ev a0 ha [(⟨e, (ns ++ ds), ([] : List ByteArray)⟩ : S48)] ok (fun ho => by
          have hall := hok ho
          have hnl := allDec_len _ _ hall
          refine print_ev e (ns ++ ds) (by rw [List.length_append]; omega) (fun v hv => ?_)
          rcases List.mem_append.1 hv with hv | hv
          · exact q2 v hv
          · obtain ⟨i, hi, rfl⟩ := List.getElem_of_mem hv
            have := allDec_get _ _ hall i (by omega)
            rw [List.getD_eq_getElem?_getD (l := ds), List.getElem?_eq_getElem hi] at this
            exact ⟨this.1, this.2.1⟩)
        have h4 : (4 : Int) < (F.length : Int) := by omega
        have htail : Ev (fun k => tailF k a0 F e ns) (l', ok', told) := by
          refine Ev.congr (f := fun k => (spec_Parts.f k (rdOf ByteArray.empty F 3) 47).bind fun t160 => (if t160.length + 1 < 8796093022208 then ((spec_decimals.f k (t160 ++ [rdOf ByteArray.empty F 4])).bind fun bt170 => (if ns.length + bt170.1.length < 17592186044416 then ((spec_meant__LoadavgPrint.f k a0 (([(⟨e, (ns ++ bt170.1), ([] : List ByteArray)⟩ : S48)] : List (S48))) bt170.2 false).bind fun bt180 => (some (bt180.1, bt180.2.1, bt180.2.2))) else (none))) else (none))) (fun k => by unfold tailF; rw [if_pos (by omega)]; simp only [if_pos h4, Option.bind_some]; rfl) ?_
          refine Ev.bind hP ?_
          refine Ev.congr (fun k => if_pos (by omega)) ?_
          rw [← hy]
          refine Ev.bind hD ?_
          refine Ev.congr (fun k => if_pos (by show ns.length + ds.length < _; omega)) ?_
          exact Ev.bind hM (Ev.now _)
        refine ⟨l', ok', told, hj0 _ (q4 _ htail), fun ht => ?_⟩
        obtain ⟨t1, t2, t3, t4, t5⟩ := hT ht
        refine ⟨t2, by rw [t3]; exact t4, door_ok a0 ha t5 (by omega) (fun i hi => ?_)⟩
        have := q3 i (by omega)
        rw [List.getD_eq_getElem?_getD, List.getElem?_take_of_lt hi, ← List.getD_eq_getElem?_getD, hget i (by omega)] at this
        exact this
      · exact ⟨[], false, 2, hj0 _ h, fun h => by omega⟩
    · have hb2 : ((ps.length : Int) != 2) = true := bne_iff_ne.mpr c2
      exact ⟨[], false, 2, hpre _ (Ev.congr (fun k => by rw [if_pos c5, if_pos (by omega)]) (Ev.bind hP (Ev.congr (f := fun k => spec_LoadavgRead.j0 k a0 F true) (fun k => by rw [hb2]) hno))), fun h => by omega⟩
  · exact ⟨[], false, 2, hpre _ (Ev.congr (fun k => by rw [if_neg c5]) hno), fun h => by omega⟩
theorem normal_ev (a0 : ByteArray) : Ev (fun k => laws_normal__Loadavg.f k a0) true := by
  by_cases c : (a0.size : Int) > 40000
  · exact Ev.congr (f := fun _ => some true) (fun k => by unfold laws_normal__Loadavg.f; rw [if_pos c]) (Ev.now _)
  · obtain ⟨l, ok, told, hR, hprop⟩ := read_ev a0 (by omega)
    have hpre : ∀ (h : Ev (fun k => if told = 1 then (laws_normal__Loadavg.j0 k a0 l (!ok)) else (laws_normal__Loadavg.j0 k a0 l true)) true), Ev (fun k => laws_normal__Loadavg.f k a0) true := fun h =>
      Ev.congr (fun k => by unfold laws_normal__Loadavg.f; rw [if_neg c]) (Ev.bind hR h)
    by_cases ct : told = 1
    · obtain ⟨rfl, hPr, n1, n2, n3, n4, n5, n6, n7, n8, hD, hg⟩ := hprop ct
      obtain ⟨l', g', hN⟩ := toNode_ev 1 n8 hg
      have hS := same_ev 1 l' g' n1 n2 n3 n4 n5 n6 n7
      refine hpre (Ev.congr (f := fun k => laws_normal__Loadavg.j0 k a0 l false) (fun k => by rw [if_pos ct]; rfl) (Ev.step (f := fun k => (spec_LoadavgPrint.f k l).bind fun bt218 => (if bt218.2 = 1 then (laws_normal__Loadavg.j1 k a0 bt218.1 (decide ((bt218.1.size : Int) > 40000))) else (laws_normal__Loadavg.j1 k a0 bt218.1 true))) (fun k => by simp only [laws_normal__Loadavg.j0]; rw [if_neg (by simp)]) (Ev.bind hPr ?_)))
      refine Ev.congr (f := fun k => laws_normal__Loadavg.j1 k a0 a0 false) (fun k => by dsimp only; rw [if_pos rfl, decide_eq_false c]) ?_
      refine Ev.step (f := fun k => (laws_toNode.f k n1 n2 n3 n4 n5 n6 n7 n8).bind fun bt245 => ((laws_toNode.f k n1 n2 n3 n4 n5 n6 n7 n8).bind fun bt255 => ((spec_SameNode.f k bt245.1 bt245.2.1 bt245.2.2.1 bt245.2.2.2.1 bt245.2.2.2.2.1 bt245.2.2.2.2.2.1 bt245.2.2.2.2.2.2.1 bt245.2.2.2.2.2.2.2 bt255.1 bt255.2.1 bt255.2.2.1 bt255.2.2.2.1 bt255.2.2.2.2.1 bt255.2.2.2.2.2.1 bt255.2.2.2.2.2.2.1 bt255.2.2.2.2.2.2.2).bind fun t265 => (if t265 = true then ((laws_lives.f).bind fun t266 => (some t266)) else (none))))) (fun k => ?_) (Ev.bind (hN n1 n2 n3 n4 n5 n6 n7) (Ev.bind (hN n1 n2 n3 n4 n5 n6 n7) (Ev.bind hS (Ev.now _))))
      simp only [laws_normal__Loadavg.j1]
      rw [if_neg (by simp), hD]
      simp only [Option.bind_some]
      rw [if_pos trivial, if_pos trivial]
    · refine hpre (Ev.congr (f := fun k => laws_normal__Loadavg.j0 k a0 l true) (fun k => by rw [if_neg ct]) (Ev.step (f := fun _ => some true) (fun k => ?_) (Ev.now _)))
      simp only [laws_normal__Loadavg.j0]
      rw [if_pos trivial]
      rfl

theorem FnLoadavgNormal : laws_FnLoadavgNormal.Pure := by
  intro a0 ha
  obtain ⟨K, hK⟩ := normal_ev a0
  refine ⟨K, ?_⟩
  unfold laws_FnLoadavgNormal.f
  by_cases c : (a0.size : Int) > 2147483647
  · rw [if_pos c]
  · rw [if_neg c, show laws_normal__Loadavg.f K a0 = some true from hK K (Nat.le_refl _)]
    rfl
end Go.Proofs.YtdmpbaanonafbaaGreatDoor.Pure
