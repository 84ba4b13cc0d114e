/- What the reference's common functions on numbers answer; no condition but sizes. -/
import Derived.Test.YtdmpbaanonafbaaGreatDoorTexts
set_option linter.unusedVariables false
set_option linter.unusedSimpArgs false
namespace Go.Proofs.YtdmpbaanonafbaaGreatDoor.Texts
open Go.RowKit Go.Proofs.YtdmpbaanonafbaaGreatDoor.Q Go.Proofs.YtdmpbaanonafbaaGreatDoorW.PrintWords Go.Proofs.YtdmpbaanonafbaaGreatDoorW.PrintLast Go.Proofs.YtdmpbaanonafbaaGreatDoorPt Go.Proofs.YtdmpbaanonafbaaGreatDoor.GivDec

theorem tmod_nat (n m : Nat) : Int.tmod (n : Int) (m : Int) = ((n % m : Nat) : Int) := by
  rw [Int.tmod_eq_emod_of_nonneg (by omega)]
  rfl
theorem tdiv_nat (n m : Nat) : Int.tdiv (n : Int) (m : Int) = ((n / m : Nat) : Int) := by
  rw [Int.tdiv_eq_ediv_of_nonneg (by omega)]
  rfl
theorem ofNums_one (x : Int) : (strOfNums [x]).size = 1 := by
  rw [Lib.size_eq, strOfNums_data]
  rfl
/-- Digits in base ten: there are some, and not many. -/
theorem digits_ev : ∀ (d n : Nat), n < 10 ^ (d + 1) → n ≤ 18446744073709551615 → d ≤ 100 → ∃ s : ByteArray, Ev (fun k => spec_Digits.f k (n : Int) 10) s ∧ s.size ≤ d + 1
  | d, n, h, hn, hd => by
    have e1 : Int.tmod (n : Int) 10 = ((n % 10 : Nat) : Int) := tmod_nat n 10
    have e2 : Int.tdiv (n : Int) 10 = ((n / 10 : Nat) : Int) := tdiv_nat n 10
    by_cases hs : n < 10
    · refine ⟨strOfNums [bt (⟨#[48, 49, 50, 51, 52, 53, 54, 55, 56, 57, 97, 98, 99, 100, 101, 102]⟩ : ByteArray) (Int.tmod (n : Int) 10)], Ev.step (f := fun _ => some (strOfNums [bt (⟨#[48, 49, 50, 51, 52, 53, 54, 55, 56, 57, 97, 98, 99, 100, 101, 102]⟩ : ByteArray) (Int.tmod (n : Int) 10)])) (fun k => ?_) (Ev.now _), ?_⟩
      · simp only [spec_Digits.f]
        rw [if_neg (by decide), if_pos (by rw [e1]; omega), if_pos (by rw [e1]; omega), if_pos (by omega)]
      · rw [ofNums_one]; omega
    · cases d with
      | zero => simp at h; omega
      | succ d =>
        have hp : (10 : Nat) ^ (d + 1 + 1) = 10 ^ (d + 1) * 10 := Nat.pow_succ 10 (d + 1)
        obtain ⟨s, hE, hS⟩ := digits_ev d (n / 10) (by omega) (by omega) (by omega)
        refine ⟨s ++ strOfNums [bt (⟨#[48, 49, 50, 51, 52, 53, 54, 55, 56, 57, 97, 98, 99, 100, 101, 102]⟩ : ByteArray) (Int.tmod (n : Int) 10)], Ev.step (f := fun k => (spec_Digits.f k ((n / 10 : Nat) : Int) 10).bind fun t => (some [bt (⟨#[48, 49, 50, 51, 52, 53, 54, 55, 56, 57, 97, 98, 99, 100, 101, 102]⟩ : ByteArray) (Int.tmod (n : Int) 10)]).bind fun y => if t.size + (strOfNums y).size ≤ 9223372036854775807 then some (t ++ strOfNums y) else none) (fun k => ?_) (Ev.bind hE ?_), ?_⟩
        · simp only [spec_Digits.f]
          rw [if_neg (by decide), if_pos (by rw [e1]; omega), if_pos (by rw [e1]; omega), if_neg (by omega), e2, wrapu_in (by omega) (by omega)]
        · exact Ev.congr (f := fun _ => some (s ++ strOfNums [bt (⟨#[48, 49, 50, 51, 52, 53, 54, 55, 56, 57, 97, 98, 99, 100, 101, 102]⟩ : ByteArray) (Int.tmod (n : Int) 10)])) (fun k => by simp only [Option.bind_some]; rw [if_pos (by rw [ofNums_one]; omega)]) (Ev.now _)
        · rw [ByteArray.size_append, ofNums_one]; omega
theorem text_ev (v : Int) (h0 : 0 ≤ v) (h1 : v ≤ 18446744073709551615) : ∃ s : ByteArray, Ev (fun k => spec_Text.f k v) s ∧ s.size ≤ 20 := by
  obtain ⟨n, rfl⟩ := Int.eq_ofNat_of_zero_le h0
  obtain ⟨s, hE, hS⟩ := digits_ev 19 n (Nat.lt_of_le_of_lt (show n ≤ 18446744073709551615 by omega) (by decide)) (by omega) (by omega)
  exact ⟨s, Ev.bind hE (Ev.now _), hS⟩

theorem digit_ev (c : Int) (h0 : 0 ≤ c) (h1 : c ≤ 255) : ∃ d : Int, Ev (fun k => spec_digit.f k c) d ∧ 0 ≤ d ∧ d ≤ 99 ∧ (d < 10 → 48 ≤ c ∧ c ≤ 57 ∧ d = c - 48) := by
  by_cases a : 48 ≤ c ∧ c ≤ 57
  · refine ⟨c - 48, Ev.congr (f := fun k => spec_digit.j0 k c true) (fun k => by unfold spec_digit.f; rw [if_pos (by omega), decide_eq_true (by omega)]) (Ev.step (f := fun _ => some (c - 48)) (fun k => ?_) (Ev.now _)), by omega, by omega, fun _ => ⟨a.1, a.2, rfl⟩⟩
    simp only [spec_digit.j0]
    rw [if_pos trivial, Int.emod_eq_of_lt (by omega) (by omega)]
  · have hj : ∀ k, spec_digit.f (k + 1) c = if c ≥ 97 then spec_digit.j1 k c (decide (c ≤ 102)) else spec_digit.j1 k c false := by
      intro k
      unfold spec_digit.f
      by_cases b : c ≥ 48
      · rw [if_pos b, decide_eq_false (by omega)]
        simp only [spec_digit.j0]
        rw [if_neg (by simp)]
      · rw [if_neg b]
        simp only [spec_digit.j0]
        rw [if_neg (by simp)]
    by_cases b : c ≥ 97 ∧ c ≤ 102
    · refine ⟨c - 97 + 10, Ev.step (f := fun k => spec_digit.j1 k c true) (fun k => by rw [hj, if_pos b.1, decide_eq_true b.2]) (Ev.step (f := fun _ => some (c - 97 + 10)) (fun k => ?_) (Ev.now _)), by omega, by omega, fun h => by omega⟩
      simp only [spec_digit.j1]
      rw [if_pos trivial, Int.emod_eq_of_lt (by omega) (by omega)]
    · have hj2 : ∀ k, spec_digit.f (k + 1) c = spec_digit.j1 k c false := by
        intro k
        rw [hj]
        by_cases b2 : c ≥ 97
        · rw [if_pos b2, decide_eq_false (by omega)]
        · rw [if_neg b2]
      by_cases d : c ≥ 65 ∧ c ≤ 70
      · refine ⟨c - 65 + 10, Ev.step hj2 (Ev.step (f := fun _ => some (c - 65 + 10)) (fun k => ?_) (Ev.now _)), by omega, by omega, fun h => by omega⟩
        simp only [spec_digit.j1]
        rw [if_neg (by simp), if_pos d.1, if_pos d.2, Int.emod_eq_of_lt (by omega) (by omega)]
      · refine ⟨99, Ev.step hj2 (Ev.step (f := fun _ => some 99) (fun k => ?_) (Ev.now _)), by omega, by omega, fun h => by omega⟩
        simp only [spec_digit.j1]
        rw [if_neg (by simp)]
        by_cases d2 : c ≥ 65
        · rw [if_pos d2, if_neg (by omega)]
        · rw [if_neg d2]

theorem bt_range (s : ByteArray) (i : Int) : 0 ≤ bt s i ∧ bt s i ≤ 255 := by
  unfold bt
  split
  · rename_i h
    have := (s[i.toNat]'h).toNat_lt
    omega
  · omega
theorem number_loop (s : ByteArray) (hs : s.size ≤ 100000) (d : Nat) : ∀ (n i : Nat), n ≤ 18446744073709551615 → i ≤ s.size → s.size - i = d →
    ∃ (v : Int) (ok : Bool), Ev (fun k => spec_Number.l0 k s 10 (n : Int) (s.size : Int) (i : Int)) (v, ok) ∧ 0 ≤ v ∧ v ≤ 18446744073709551615 ∧ (ok = true → decv n (s.data.toList.drop i) = some v.toNat ∧ 0 < s.size) := by
  have hlen := len_data s
  induction d with
  | zero =>
    intro n i hn h1 hd
    have hi : i = s.size := by omega
    subst hi
    refine ⟨(n : Int), (s.toList != ([] : List UInt8)), Ev.step (f := fun _ => some ((n : Int), (s.toList != ([] : List UInt8)))) (fun k => ?_) (Ev.now _), by omega, by omega, fun h => ?_⟩
    · simp only [spec_Number.l0]
      rw [if_neg (by omega)]
    · rw [List.drop_of_length_le (by omega)]
      refine ⟨by simp [decv], ?_⟩
      rw [toList_data] at h
      rcases Nat.eq_zero_or_pos s.size with h0 | h0
      · have : s.data.toList = [] := List.length_eq_zero_iff.1 (by omega)
        rw [this] at h
        simp at h
      · exact h0
  | succ d ih =>
    intro n i hn h1 hd
    have hi : i < s.size := by omega
    obtain ⟨c, hc, hb, hg⟩ := drop_data s i hi
    have hc256 := c.toNat_lt
    obtain ⟨t, hT, t0, t1, t2⟩ := digit_ev (c.toNat : Int) (by omega) (by omega)
    have hpre : ∀ k, spec_Number.l0 (k + 1) s 10 (n : Int) (s.size : Int) (i : Int) = (spec_digit.f k (c.toNat : Int)).bind fun t138 => (if t138 ≥ 10 then (some (0, false)) else (if (10 : Int) = 0 then (none) else (if (n : Int) > (IntKind.u64.wrap (Int.tdiv (IntKind.u64.wrap (18446744073709551615 - t138)) 10)) then (some (0, false)) else (spec_Number.l0 k s 10 (IntKind.u64.wrap ((IntKind.u64.wrap ((n : Int) * 10)) + t138)) (s.size : Int) ((i + 1 : Nat) : Int))))) := by
      intro k
      simp only [spec_Number.l0]
      rw [if_pos (by omega), if_pos (by omega), if_pos (by omega), hb, wrap_in (by omega) (by omega)]
      rfl
    by_cases c1 : t ≥ 10
    · exact ⟨0, false, Ev.step hpre (Ev.bind hT (Ev.congr (f := fun _ => some (0, false)) (fun k => by rw [if_pos c1]) (Ev.now _))), by omega, by omega, fun h => by cases h⟩
    · obtain ⟨t3, t4, t5⟩ := t2 (by omega)
      obtain ⟨m, hm⟩ := Int.eq_ofNat_of_zero_le (show 0 ≤ 18446744073709551615 - t by omega)
      have hq : IntKind.u64.wrap (Int.tdiv (IntKind.u64.wrap (18446744073709551615 - t)) 10) = ((m / 10 : Nat) : Int) := by
        rw [wrapu_in (x := 18446744073709551615 - t) (by omega) (by omega), hm, show (10 : Int) = ((10 : Nat) : Int) from rfl, tdiv_nat, wrapu_in (by omega) (by omega)]
      by_cases c2 : (n : Int) > ((m / 10 : Nat) : Int)
      · exact ⟨0, false, Ev.step hpre (Ev.bind hT (Ev.congr (f := fun _ => some (0, false)) (fun k => by rw [if_neg c1, if_neg (by decide), hq, if_pos c2]) (Ev.now _))), by omega, by omega, fun h => by cases h⟩
      · have hn2 : n * 10 + (c.toNat - 48) ≤ 18446744073709551615 := by omega
        obtain ⟨v, ok, hE, v0, v1, hV⟩ := ih (n * 10 + (c.toNat - 48)) (i + 1) hn2 (by omega) (by omega)
        refine ⟨v, ok, Ev.step hpre (Ev.bind hT (Ev.congr (fun k => ?_) hE)), v0, v1, fun h => ?_⟩
        · rw [if_neg c1, if_neg (by decide), hq, if_neg c2, wrapu_in (x := (n : Int) * 10) (by omega) (by omega), wrapu_in (by omega) (by omega)]
          congr 1
          omega
        · obtain ⟨h2, h3⟩ := hV h
          refine ⟨?_, h3⟩
          rw [hc]
          unfold decv
          rw [if_pos (by omega)]
          exact h2
/-- A text's number in base ten. -/
def DecOf (x : ByteArray) (v : Int) : Prop := 0 ≤ v ∧ v ≤ 18446744073709551615 ∧ 0 < x.size ∧ decv 0 x.data.toList = some v.toNat
theorem dec_ev (s : ByteArray) (hs : s.size ≤ 100000) : ∃ (v : Int) (ok : Bool), Ev (fun k => spec_Dec.f k s) (v, ok) ∧ 0 ≤ v ∧ v ≤ 18446744073709551615 ∧ (ok = true → DecOf s v) := by
  obtain ⟨v, ok, hE, h0, h1, h2⟩ := number_loop s hs s.size 0 0 (by omega) (by omega) (by omega)
  refine ⟨v, ok, Ev.bind hE (Ev.now _), h0, h1, fun h => ?_⟩
  obtain ⟨h3, h4⟩ := h2 h
  exact ⟨h0, h1, h4, by simpa using h3⟩
def allDec : List ByteArray → List Int → Prop
  | [], [] => True
  | x :: xs, v :: vs => DecOf x v ∧ allDec xs vs
  | _, _ => False
theorem allDec_len : ∀ (xs : List ByteArray) (vs : List Int), allDec xs vs → xs.length = vs.length
  | [], [], _ => rfl
  | x :: xs, v :: vs, h => by simp [allDec_len xs vs h.2]
  | [], _ :: _, h => h.elim
  | _ :: _, [], h => h.elim
theorem allDec_get : ∀ (xs : List ByteArray) (vs : List Int), allDec xs vs → ∀ i, i < xs.length → DecOf (xs.getD i ByteArray.empty) (vs.getD i 0)
  | [], _, _, i, h => by simp at h
  | x :: xs, v :: vs, h, 0, _ => by simpa using h.1
  | x :: xs, v :: vs, h, i + 1, hi => by simpa using allDec_get xs vs h.2 i (by simpa using hi)
  | _ :: _, [], h, _, _ => h.elim
theorem drop_list {α : Type} (l : List α) (z : α) (i : Nat) (h : i < l.length) : l.drop i = l.getD i z :: l.drop (i + 1) := by
  rw [List.drop_eq_getElem_cons h]
  congr 1
  simp [List.getD_eq_getElem?_getD, List.getElem?_eq_getElem h]
theorem decimals_loop (l : List ByteArray) (hl : l.length ≤ 200000) (hs : ∀ x ∈ l, x.size ≤ 100000) (d : Nat) : ∀ (out : List Int) (i : Nat), i ≤ l.length → l.length - i = d → out.length ≤ i →
    ∃ (ns : List Int) (ok : Bool), Ev (fun k => spec_decimals.l0 k out l (l.length : Int) (i : Int)) (ns, ok) ∧ (ok = true → ∃ more, ns = out ++ more ∧ allDec (l.drop i) more) := by
  induction d with
  | zero =>
    intro out i h1 hd ho
    refine ⟨out, true, Ev.step (f := fun _ => some (out, true)) (fun k => ?_) (Ev.now _), fun _ => ⟨[], by simp, ?_⟩⟩
    · simp only [spec_decimals.l0]
      rw [if_neg (by omega)]
    · rw [List.drop_of_length_le (by omega)]
      trivial
  | succ d ih =>
    intro out i h1 hd ho
    have hi : i < l.length := by omega
    have hx : l.getD i ByteArray.empty ∈ l := by
      rw [List.getD_eq_getElem?_getD, List.getElem?_eq_getElem hi]
      exact List.getElem_mem hi
    have hdr := drop_list l ByteArray.empty i hi
    obtain ⟨v, ok, hD, v0, v1, hV⟩ := dec_ev (l.getD i ByteArray.empty) (hs _ hx)
    obtain ⟨t, hT, tS⟩ := text_ev v v0 v1
    have hpre : ∀ k, spec_decimals.l0 (k + 1) out l (l.length : Int) (i : Int) = (spec_Dec.f k (l.getD i ByteArray.empty)).bind fun bt142 => (if bt142.2 = true then ((spec_Text.f k bt142.1).bind fun t144 => (if t144.toList = (l.getD i ByteArray.empty).toList then (if out.length < 17592186044416 then (spec_decimals.l0 k (out ++ [bt142.1]) l (l.length : Int) ((i + 1 : Nat) : Int)) else (none)) else (some (([] : List Int), false)))) else (some (([] : List Int), false))) := by
      intro k
      simp only [spec_decimals.l0]
      rw [if_pos (by omega), if_pos (by omega), if_pos (by omega), wrap_in (by omega) (by omega)]
      rfl
    cases ok with
    | false => exact ⟨[], false, Ev.step hpre (Ev.bind hD (Ev.congr (f := fun _ => some ([], false)) (fun k => by dsimp only; rw [if_neg (by simp)]) (Ev.now _))), fun h => by cases h⟩
    | true =>
      by_cases c : t.toList = (l.getD i ByteArray.empty).toList
      · obtain ⟨ns, ok, hE, hR⟩ := ih (out ++ [v]) (i + 1) (by omega) (by omega) (by simp; omega)
        refine ⟨ns, ok, Ev.step hpre (Ev.bind hD ?_), fun h => ?_⟩
        · refine Ev.congr (f := fun k => (spec_Text.f k v).bind fun t144 => (if t144.toList = (l.getD i ByteArray.empty).toList then (if out.length < 17592186044416 then (spec_decimals.l0 k (out ++ [v]) l (l.length : Int) ((i + 1 : Nat) : Int)) else (none)) else (some (([] : List Int), false)))) (fun k => by dsimp only; rw [if_pos rfl]) (Ev.bind hT (Ev.congr (fun k => ?_) hE))
          rw [if_pos c, if_pos (by omega)]
        · obtain ⟨more, rfl, hm⟩ := hR h
          refine ⟨v :: more, by simp, ?_⟩
          rw [hdr]
          exact ⟨hV rfl, hm⟩
      · refine ⟨[], false, Ev.step hpre (Ev.bind hD ?_), fun h => by cases h⟩
        refine Ev.congr (f := fun k => (spec_Text.f k v).bind fun t144 => (if t144.toList = (l.getD i ByteArray.empty).toList then (if out.length < 17592186044416 then (spec_decimals.l0 k (out ++ [v]) l (l.length : Int) ((i + 1 : Nat) : Int)) else (none)) else (some (([] : List Int), false)))) (fun k => by dsimp only; rw [if_pos rfl]) (Ev.bind hT (Ev.congr (f := fun _ => some ([], false)) (fun k => ?_) (Ev.now _)))
        rw [if_neg c]
theorem decimals_ev (l : List ByteArray) (hl : l.length ≤ 200000) (hs : ∀ x ∈ l, x.size ≤ 100000) :
    ∃ (ns : List Int) (ok : Bool), Ev (fun k => spec_decimals.f k l) (ns, ok) ∧ (ok = true → allDec l ns) := by
  obtain ⟨ns, ok, hE, h⟩ := decimals_loop l hl hs l.length [] 0 (by omega) (by omega) (by simp)
  refine ⟨ns, ok, hE, fun h2 => ?_⟩
  obtain ⟨more, rfl, hm⟩ := h h2
  simpa using hm

/-- Join and numbers: there is an answer. -/
theorem join_loop (l : List ByteArray) (by_ : ByteArray) (hl : l.length ≤ 200000) (hby : by_.size ≤ 100000) (hs : ∀ x ∈ l, x.size ≤ 100000) (d : Nat) : ∀ (acc : ByteArray) (i : Nat), i ≤ l.length → l.length - i = d → acc.size ≤ i * 200000 →
    ∃ r : ByteArray, Ev (fun k => spec_Join.l0 k by_ acc l (l.length : Int) (i : Int)) r ∧ r.size ≤ l.length * 200000 := by
  induction d with
  | zero =>
    intro acc i h1 hd ha
    refine ⟨acc, Ev.step (f := fun _ => some acc) (fun k => ?_) (Ev.now _), by rw [show i = l.length from by omega] at ha; exact ha⟩
    simp only [spec_Join.l0]
    rw [if_neg (by omega)]
  | succ d ih =>
    intro acc i h1 hd ha
    have hi : i < l.length := by omega
    have hx : l.getD i ByteArray.empty ∈ l := by
      rw [List.getD_eq_getElem?_getD, List.getElem?_eq_getElem hi]
      exact List.getElem_mem hi
    have hxs := hs _ hx
    have hi2 : i * 200000 ≤ 200000 * 200000 := Nat.mul_le_mul_right _ (by omega)
    have hr : rdOf ByteArray.empty l (i : Int) = l.getD i ByteArray.empty := by simp [rdOf]
    by_cases c : (i : Int) > 0
    · obtain ⟨r, hE, hR⟩ := ih ((acc ++ by_) ++ l.getD i ByteArray.empty) (i + 1) (by omega) (by omega) (by rw [ByteArray.size_append, ByteArray.size_append]; omega)
      refine ⟨r, Ev.step (fun k => ?_) hE, hR⟩
      simp only [spec_Join.l0]
      rw [if_pos (by omega), if_pos (by omega), if_pos (by omega), if_pos c, if_pos (by omega), hr, if_pos (by rw [ByteArray.size_append]; omega), wrap_in (by omega) (by omega)]
      rfl
    · obtain ⟨r, hE, hR⟩ := ih (acc ++ l.getD i ByteArray.empty) (i + 1) (by omega) (by omega) (by rw [ByteArray.size_append]; omega)
      refine ⟨r, Ev.step (fun k => ?_) hE, hR⟩
      simp only [spec_Join.l0]
      rw [if_pos (by omega), if_pos (by omega), if_pos (by omega), if_neg c, hr, if_pos (by omega), wrap_in (by omega) (by omega)]
      rfl
theorem join_ev (l : List ByteArray) (by_ : ByteArray) (hl : l.length ≤ 200000) (hby : by_.size ≤ 100000) (hs : ∀ x ∈ l, x.size ≤ 100000) : ∃ r : ByteArray, Ev (fun k => spec_Join.f k l by_) r ∧ r.size ≤ l.length * 200000 :=
  join_loop l by_ hl hby hs l.length ⟨#[]⟩ 0 (by omega) (by omega) (by show 0 ≤ _; omega)
theorem numbers_loop (l : List Int) (by_ : ByteArray) (hl : l.length ≤ 200000) (hby : by_.size ≤ 100000) (hv : ∀ v ∈ l, 0 ≤ v ∧ v ≤ 18446744073709551615) (d : Nat) : ∀ (out : List ByteArray) (i : Nat), i ≤ l.length → l.length - i = d → out.length = i → (∀ x ∈ out, x.size ≤ 100000) →
    ∃ r : ByteArray, Ev (fun k => spec_numbers.l0 k by_ out l (l.length : Int) (i : Int)) r ∧ r.size ≤ l.length * 200000 := by
  induction d with
  | zero =>
    intro out i h1 hd ho hx
    obtain ⟨r, hE, hR⟩ := join_ev out by_ (by omega) hby hx
    refine ⟨r, Ev.step (f := fun k => (spec_Join.f k out by_).bind fun t => some t) (fun k => ?_) (Ev.bind hE (Ev.now _)), by rw [ho, show i = l.length by omega] at hR; exact hR⟩
    simp only [spec_numbers.l0]
    rw [if_neg (by omega)]
  | succ d ih =>
    intro out i h1 hd ho hx
    have hi : i < l.length := by omega
    have hm : l.getD i 0 ∈ l := by
      rw [List.getD_eq_getElem?_getD, List.getElem?_eq_getElem hi]
      exact List.getElem_mem hi
    obtain ⟨t, hT, tS⟩ := text_ev (l.getD i 0) (hv _ hm).1 (hv _ hm).2
    obtain ⟨r, hE, hR⟩ := ih (out ++ [t]) (i + 1) (by omega) (by omega) (by simp [ho]) (fun x h => by
      rcases List.mem_append.1 h with h | h
      · exact hx x h
      · rw [List.mem_singleton.1 h]; omega)
    refine ⟨r, Ev.step (f := fun k => (spec_Text.f k (l.getD i 0)).bind fun t112 => (if out.length < 8796093022208 then (spec_numbers.l0 k by_ (out ++ [t112]) l (l.length : Int) ((i + 1 : Nat) : Int)) else (none))) (fun k => ?_) (Ev.bind hT (Ev.congr (fun k => ?_) hE)), hR⟩
    · simp only [spec_numbers.l0]
      rw [if_pos (by omega), if_pos (by omega), if_pos (by omega), wrap_in (by omega) (by omega)]
      rfl
    · rw [if_pos (by omega)]
theorem numbers_ev (l : List Int) (by_ : ByteArray) (hl : l.length ≤ 200000) (hby : by_.size ≤ 100000) (hv : ∀ v ∈ l, 0 ≤ v ∧ v ≤ 18446744073709551615) : ∃ r : ByteArray, Ev (fun k => spec_numbers.f k l by_) r ∧ r.size ≤ l.length * 200000 :=
  numbers_loop l by_ hl hby hv l.length [] 0 (by omega) (by omega) rfl (fun x h => by cases h)
end Go.Proofs.YtdmpbaanonafbaaGreatDoor.Texts
