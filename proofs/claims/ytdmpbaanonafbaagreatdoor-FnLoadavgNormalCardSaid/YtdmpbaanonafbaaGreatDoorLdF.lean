/- A load as text: digits, a dot, two digits: strconv.ParseFloat reads it by the exact road. -/
import Derived.Test.YtdmpbaanonafbaaGreatDoorFl2
import Derived.Test.YtdmpbaanonafbaaGreatDoorFdiv
set_option linter.unusedVariables false
set_option linter.unusedSimpArgs false
namespace Go.Proofs.YtdmpbaanonafbaaGreatDoor.LdF
open Go.RowKit Go.Proofs.YtdmpbaanonafbaaGreatDoorW.PrintWords Go.Proofs.YtdmpbaanonafbaaGreatDoor.GivZ Go.Proofs.YtdmpbaanonafbaaGreatDoor.GivDec Go.Proofs.YtdmpbaanonafbaaGreatDoor.Flt Go.Proofs.YtdmpbaanonafbaaGreatDoor.GivFl Go.Proofs.YtdmpbaanonafbaaGreatDoor.RF Go.Proofs.YtdmpbaanonafbaaGreatDoor.Fl2 Go.Proofs.YtdmpbaanonafbaaGreatDoor.Fdiv
/-- The digits that count, and the number. -/
def Inv (q : St) : Prop := (q.nd = 0 ∧ q.m = 0) ∨ (1 ≤ q.nd ∧ 10 ^ (q.nd - 1) ≤ q.m)
theorem inv_lt {q : St} (h : Inv q) (hm : q.m < 1099511627776) : q.nd < 15 := by
  rcases h with h | h
  · omega
  · by_cases c : q.nd < 15
    · exact c
    · have : 10 ^ 14 ≤ 10 ^ (q.nd - 1) := Nat.pow_le_pow_right (by decide) (by omega)
      have h2 : 10 ^ 14 = 100000000000000 := by decide
      omega
theorem pre_dot : ∀ (A : List UInt8) (q : St) (a : Nat), Inv q → q.dot = false → decv q.m A = some a → a < 1099511627776 →
    ∃ q', (∀ rest, rf q (A ++ rest) = rf q' rest) ∧ Inv q' ∧ q'.dot = false ∧ q'.m = a ∧ (A ≠ [] ∨ q.dig = true → q'.dig = true)
  | [], q, a, hi, hd, ha, hl => by
    simp [decv] at ha
    exact ⟨q, fun _ => rfl, hi, hd, ha, fun h => by rcases h with h | h; exact absurd rfl h; exact h⟩
  | c :: cs, q, a, hi, hd, ha, hl => by
    unfold decv at ha
    by_cases hc : 48 ≤ c.toNat ∧ c.toNat ≤ 57
    · rw [if_pos hc] at ha
      have hle := decv_le _ _ _ ha
      have hn : q.nd < 15 := inv_lt hi (by omega)
      by_cases c0 : c.toNat = 48 ∧ q.nd = 0
      · have hm : q.m = 0 := by rcases hi with h | h; exact h.2; omega
        obtain ⟨q', h1, h2, h3, h4, h5⟩ := pre_dot cs { q with dig := true, dp := q.dp - 1 } a (.inl ⟨c0.2, hm⟩) hd (by show decv q.m cs = some a; rw [hm]; rw [hm, c0.1] at ha; exact ha) hl
        refine ⟨q', fun rest => ?_, h2, h3, h4, fun _ => h5 (.inr rfl)⟩
        rw [List.cons_append, rf, if_neg (by omega), if_pos hc, if_pos c0]
        exact h1 rest
      · obtain ⟨q', h1, h2, h3, h4, h5⟩ := pre_dot cs { q with dig := true, nd := q.nd + 1, m := q.m * 10 + (c.toNat - 48) } a (by
          refine .inr ⟨by show 1 ≤ q.nd + 1; omega, ?_⟩
          show 10 ^ (q.nd + 1 - 1) ≤ q.m * 10 + (c.toNat - 48)
          rw [Nat.add_sub_cancel]
          rcases hi with h | h
          · rw [h.1]
            have : c.toNat ≠ 48 := fun e => c0 ⟨e, h.1⟩
            omega
          · obtain ⟨n, hn2⟩ : ∃ n, q.nd = n + 1 := ⟨q.nd - 1, by omega⟩
            rw [hn2] at h ⊢
            rw [Nat.add_sub_cancel] at h
            rw [Nat.pow_succ]
            omega) hd ha hl
        refine ⟨q', fun rest => ?_, h2, h3, h4, fun _ => h5 (.inr rfl)⟩
        rw [List.cons_append, rf, if_neg (by omega), if_pos hc, if_neg c0, if_pos (by omega)]
        exact h1 rest
    · rw [if_neg hc] at ha; cases ha
theorem post_dot (q : St) (c b1 b2 : UInt8) (b : Nat) (hi : Inv q) (hd : q.dot = false) (hg : q.dig = true) (hl : q.m < 1099511627776) (hc : c.toNat = 46) (hb : decv 0 [b1, b2] = some b) :
    ∃ s, rf q (c :: [b1, b2]) = some s ∧ s.dig = true ∧ s.m < 4503599627370496 ∧ (s.m ≠ 0 → expo s = -2) := by
  have hn := inv_lt hi hl
  unfold decv at hb
  by_cases d1 : 48 ≤ b1.toNat ∧ b1.toNat ≤ 57
  · rw [if_pos d1] at hb
    unfold decv at hb
    by_cases d2 : 48 ≤ b2.toNat ∧ b2.toNat ≤ 57
    · clear hb
      rw [rf, if_pos hc, if_neg (by rw [hd]; decide)]
      by_cases n0 : q.nd = 0
      · have hm : q.m = 0 := by rcases hi with h | h; exact h.2; omega
        by_cases z1 : b1.toNat = 48
        · rw [rf, if_neg (by omega), if_pos d1, if_pos ⟨z1, n0⟩]
          by_cases z2 : b2.toNat = 48
          · rw [rf, if_neg (by omega), if_pos d2, if_pos ⟨z2, n0⟩, rf]
            exact ⟨_, rfl, rfl, by show q.m < _; omega, fun h => absurd hm h⟩
          · rw [rf, if_neg (by omega), if_pos d2, if_neg (fun h => z2 h.1), if_pos (by show q.nd < 18; omega), rf]
            refine ⟨_, rfl, rfl, by show q.m * 10 + (b2.toNat - 48) < _; omega, fun h => ?_⟩
            unfold expo
            rw [if_neg h]
            show (if true = true then ((q.nd : Int) - 1) else _) - ((q.nd + 1 : Nat) : Int) = -2
            rw [if_pos rfl]
            omega
        · rw [rf, if_neg (by omega), if_pos d1, if_neg (fun h => z1 h.1), if_pos (by show q.nd < 18; omega), rf, if_neg (by omega), if_pos d2, if_neg (fun h => by have : q.nd + 1 = 0 := h.2; omega), if_pos (by show q.nd + 1 < 18; omega), rf]
          refine ⟨_, rfl, rfl, by show (q.m * 10 + (b1.toNat - 48)) * 10 + (b2.toNat - 48) < _; omega, fun h => ?_⟩
          unfold expo
          rw [if_neg h]
          show (if true = true then (q.nd : Int) else _) - ((q.nd + 1 + 1 : Nat) : Int) = -2
          rw [if_pos rfl]
          omega
      · rw [rf, if_neg (by omega), if_pos d1, if_neg (fun h => n0 h.2), if_pos (by show q.nd < 18; omega), rf, if_neg (by omega), if_pos d2, if_neg (fun h => by have : q.nd + 1 = 0 := h.2; omega), if_pos (by show q.nd + 1 < 18; omega), rf]
        refine ⟨_, rfl, rfl, by show (q.m * 10 + (b1.toNat - 48)) * 10 + (b2.toNat - 48) < _; omega, fun h => ?_⟩
        unfold expo
        rw [if_neg h]
        show (if true = true then (q.nd : Int) else _) - ((q.nd + 1 + 1 : Nat) : Int) = -2
        rw [if_pos rfl]
        omega
    · rw [if_neg d2] at hb; cases hb
  · rw [if_neg d1] at hb; cases hb
/-- Digits, a dot, two digits. -/
def HunOf (l : List UInt8) : Prop := ∃ (A : List UInt8) (c b1 b2 : UInt8) (a b : Nat), l = A ++ c :: [b1, b2] ∧ c.toNat = 46 ∧ A ≠ [] ∧ decv 0 A = some a ∧ a < 1099511627776 ∧ decv 0 [b1, b2] = some b
theorem float_ok (x : ByteArray) (hs : x.size ≤ 1000000) (h : HunOf x.data.toList) : ∃ r, strconv_ParseFloat.f x 64 = some (r, none) := by
  obtain ⟨A, c, b1, b2, a, b, hx, hc, hA, ha, hl, hb⟩ := h
  obtain ⟨q', h1, h2, h3, h4, h5⟩ := pre_dot A ⟨false, false, 0, 0, 0⟩ a (.inl ⟨rfl, rfl⟩) rfl ha hl
  obtain ⟨s, hs1, hs2, hs3, hs4⟩ := post_dot q' c b1 b2 b h2 h3 (h5 (.inl hA)) (by omega) hc hb
  have hpos : 0 < x.size := by
    have : x.data.toList.length = x.data.size := Array.length_toList
    rw [hx, List.length_append, List.length_cons] at this
    show 0 < x.data.size
    omega
  unfold strconv_ParseFloat.f
  rw [if_pos ⟨rfl, hpos, hs⟩, hx, h1, hs1, Option.bind_some, if_pos hs2]
  obtain ⟨r, hr⟩ : ∃ r, pfv s = some r := by
    unfold pfv
    by_cases c0 : s.m = 0
    · exact ⟨0, by rw [if_pos c0]⟩
    · have he := hs4 c0
      obtain ⟨r, hr⟩ := div100 s.m
      refine ⟨r, ?_⟩
      rw [if_neg c0, if_neg (by omega), he, if_neg (by decide), if_pos (by decide), show (pows10[(-(-2 : Int)).toNat]?.getD 0) = 4636737291354636288 from by decide +kernel]
      exact hr
  exact ⟨r, by rw [hr]; rfl⟩
end Go.Proofs.YtdmpbaanonafbaaGreatDoor.LdF
