/- A text that is escaped as a unit's name is unescaped to itself: every text of bytes from 16 to 127 (the law itself lets others, and longer ones than 4,000 bytes, by). -/
import Derived.Test.YtlmmgienbmghmaaDoorB3
import Derived.Test.YtlmmgienbmghmaaDoorEsc
set_option linter.unusedVariables false
set_option linter.unusedSimpArgs false
namespace Go.Proofs.YtlmmgienbmghmaaDoor.Pure
open Go.RowKit Go.Proofs.YtlmmgienbmghmaaDoor.B Go.Proofs.YtlmmgienbmghmaaDoor.GivIdx Go.Proofs.YtlmmgienbmghmaaDoor.GivPU Go.Proofs.YtlmmgienbmghmaaDoor.GivHex Go.Proofs.YtlmmgienbmghmaaDoorW.PrintWords Go.Proofs.YtlmmgienbmghmaaDoorW.PrintLast Go.Proofs.YtlmmgienbmghmaaDoorPl Go.Proofs.YtlmmgienbmghmaaDoor.Esc

/-- The two digits of an escape. -/
def hx (c : Int) : List Int := (bytesOf (zz c)).drop 2
theorem hx_fin : ∀ n : Fin 128, 16 ≤ n.val → bytesOf (zz (n.val : Int)) = 92 :: 120 :: hx (n.val : Int) ∧ (hx (n.val : Int)).length = 2 ∧ (∀ d ∈ hx (n.val : Int), 0 ≤ d ∧ d ≤ 255) ∧ strconv_ParseInt_33.f 10 (strOfNums (hx (n.val : Int))) 16 8 = some ((n.val : Int), none) := by decide +kernel
theorem hx_is (c : Int) (h0 : 16 ≤ c) (h1 : c ≤ 127) : bytesOf (zz c) = 92 :: 120 :: hx c ∧ (hx c).length = 2 ∧ (∀ d ∈ hx c, 0 ≤ d ∧ d ≤ 255) ∧ Ev (fun k => strconv_ParseInt_33.f k (strOfNums (hx c)) 16 8) (c, none) := by
  have h := hx_fin ⟨c.toNat, by omega⟩ (by simp; omega)
  have e : ((c.toNat : Nat) : Int) = c := by omega
  simp only [e] at h
  exact ⟨h.1, h.2.1, h.2.2.1, Ev.of (fun k => strconv_ParseInt_33.mono _ _ _ k) h.2.2.2⟩
theorem kept_fin : ∀ n : Fin 256, kept (n.val : Int) = true → n.val ≠ 45 ∧ n.val ≠ 92 := by decide +kernel
theorem kept_is (c : Int) (h0 : 0 ≤ c) (h1 : c ≤ 255) (h : kept c = true) : c ≠ 45 ∧ c ≠ 92 := by
  have e : ((c.toNat : Nat) : Int) = c := by omega
  have := kept_fin ⟨c.toNat, by omega⟩ (by simp only [e]; exact h)
  simp only at this
  omega
theorem of_drop (s : ByteArray) (n : Nat) (a : Int) (l : List Int) (h : (bytesOf s).drop n = a :: l) : n < s.size ∧ bt s n = a ∧ (bytesOf s).drop (n + 1) = l := by
  have hn : n < s.size := by
    by_cases c : n < s.size
    · exact c
    · rw [List.drop_of_length_le (by rw [bytesOf_length]; omega)] at h
      cases h
  have h2 := bytes_drop s n hn
  rw [h2] at h
  exact ⟨hn, (List.cons.inj h).1, (List.cons.inj h).2⟩

theorem back_loop (t : ByteArray) (hs : t.size ≤ 100000) : ∀ (rest : List Int) (st : Bool) (i : Int) (out : List Int), 0 ≤ i → (bytesOf t).drop i.toNat = all st rest → (∀ c ∈ rest, 16 ≤ c ∧ c ≤ 127) → out.length ≤ i.toNat →
    Ev (fun k => unit_unescape.l0 k t false out i) (strOfNums (out ++ rest)) := by
  intro rest
  induction rest with
  | nil =>
    intro st i out h0 hd hr ho
    have hi : ¬ i < (t.size : Int) := by
      intro hi
      have := bytes_drop t i.toNat (by omega)
      rw [this] at hd
      simp [all] at hd
    refine Ev.step (f := fun _ => some (strOfNums (out ++ []))) (fun k => ?_) (Ev.now _)
    simp only [unit_unescape.l0]
    rw [if_neg hi, if_neg (by simp), List.append_nil]
  | cons c cs ih =>
    intro st i out h0 hd hr ho
    have hc := hr c List.mem_cons_self
    have hcs : ∀ d ∈ cs, 16 ≤ d ∧ d ≤ 127 := fun d hd => hr d (List.mem_cons_of_mem _ hd)
    have hN : (i + 1).toNat = i.toNat + 1 := by omega
    have hI : ((i.toNat : Nat) : Int) = i := by omega
    rw [all] at hd
    have big : ∀ (hz : one st c = bytesOf (zz c)), Ev (fun k => unit_unescape.l0 k t false out i) (strOfNums (out ++ c :: cs)) := by
      intro hz
      obtain ⟨z1, z2, z3, K, z4⟩ := hx_is c hc.1 hc.2
      dsimp only at z4
      rw [hz, z1] at hd
      obtain ⟨p, q, hpq⟩ : ∃ p q, hx c = [p, q] := by
        match hx c, z2 with
        | [p, q], _ => exact ⟨p, q, rfl⟩
      rw [hpq] at hd
      simp only [List.cons_append, List.nil_append] at hd
      obtain ⟨n0, b0, d1⟩ := of_drop t _ _ _ hd
      obtain ⟨n1, b1, d2⟩ := of_drop t _ _ _ d1
      obtain ⟨n2, b2, d3⟩ := of_drop t _ _ _ d2
      obtain ⟨n3, b3, d4⟩ := of_drop t _ _ _ d3
      rw [hI] at b0
      have b1' : bt t (i + 1) = 120 := by rw [← b1]; congr 1; omega
      have hex : t.extract (i + 2).toNat (i + 4).toNat = strOfNums (hx c) := by
        apply bytes_inj
        rw [bytes_extract, bytes_ofNums _ z3, hpq, show (i + 2).toNat = i.toNat + 1 + 1 by omega, d2, show (i + 4).toNat - (i.toNat + 1 + 1) = 2 by omega]
        rfl
      obtain ⟨K2, hk2⟩ := ih false (i + 4) (out ++ [c]) (by omega) (by rw [show (i + 4).toNat = i.toNat + 1 + 1 + 1 + 1 by omega]; exact d4) hcs (by rw [List.length_append]; simp; omega)
      dsimp only at hk2
      refine ⟨K + K2 + 2, fun k hk => ?_⟩
      obtain ⟨k, rfl⟩ : ∃ m, k = m + 1 + 1 := ⟨k - 2, by omega⟩
      show unit_unescape.l0 (k + 1 + 1) t false out i = _
      rw [unit_unescape.l0, if_pos (by omega), if_pos h0, b0, if_neg (by decide), if_pos rfl, wrap_in (x := (t.size : Int) - i) (by omega) (by omega), if_pos (by omega), wrap_succ h0 (by omega), if_pos (by omega), if_pos (by omega), b1']
      rw [unit_unescape.j1, if_pos (by decide), wrap_in (x := i + 2) (by omega) (by omega), wrap_in (x := i + 4) (by omega) (by omega), if_pos (by omega), if_pos (by omega), if_pos (by omega), hex, z4 k (by omega), Option.bind_some, if_pos (show ((c, (none : Option Int)).2.isNone = true) from rfl), if_pos (by omega)]
      show unit_unescape.l0 k t false (out ++ [c % 256]) (wrap64 (wrap64 (i + 3) + 1)) = _
      rw [wrap_in (x := i + 3) (by omega) (by omega), wrap_in (x := i + 3 + 1) (by omega) (by omega), show i + 3 + 1 = i + 4 by omega, show c % 256 = c by omega, hk2 k (by omega)]
      simp
    by_cases a : c = 47
    · have h1 : one st c = [45] := by simp [one, a]
      rw [h1, List.singleton_append] at hd
      obtain ⟨n0, b0, d1⟩ := of_drop t _ _ _ hd
      rw [hI] at b0
      refine Ev.step (f := fun k => unit_unescape.l0 k t false (out ++ [47]) (i + 1)) (fun k => ?_) ?_
      · simp only [unit_unescape.l0]
        rw [if_pos (by omega), if_pos h0, b0, if_pos rfl, if_pos (by omega), wrap_succ h0 (by omega)]
      · have := ih false (i + 1) (out ++ [47]) (by omega) (by rw [hN]; exact d1) hcs (by rw [List.length_append, hN]; simp; omega)
        rw [a]
        simpa using this
    · by_cases b : (st && decide (c = 46)) = true
      · exact big (by unfold one; rw [if_neg a, if_pos b])
      · by_cases d : kept c = true
        · have h1 : one st c = [c] := by unfold one; rw [if_neg a, if_neg b, if_pos d]
          rw [h1, List.singleton_append] at hd
          obtain ⟨n0, b0, d1⟩ := of_drop t _ _ _ hd
          rw [hI] at b0
          have hk := kept_is c (by omega) (by omega) d
          refine Ev.step (f := fun k => unit_unescape.j1 k t false out i c false) (fun k => ?_) (Ev.step (f := fun k => unit_unescape.l0 k t false (out ++ [c]) (i + 1)) (fun k => ?_) ?_)
          · simp only [unit_unescape.l0]
            rw [if_pos (by omega), if_pos h0, b0, if_neg hk.1, if_neg hk.2]
          · simp only [unit_unescape.j1]
            rw [if_neg (by simp), if_pos (by omega), wrap_succ h0 (by omega)]
          · have := ih false (i + 1) (out ++ [c]) (by omega) (by rw [hN]; exact d1) hcs (by rw [List.length_append, hN]; simp; omega)
            simpa using this
        · exact big (by unfold one; rw [if_neg a, if_neg b, if_neg d])

theorem two_loop (s : ByteArray) (hs : s.size ≤ 4000) (d : Nat) : ∀ (i : Int), 0 ≤ i → i ≤ s.size → (s.size : Int) - i = d → ∃ b, Ev (fun k => laws_twoDigits.l0 k s (s.size : Int) i) b ∧ (b = true → ∀ c ∈ (bytesOf s).drop i.toNat, 16 ≤ c ∧ c ≤ 127) := by
  induction d with
  | zero =>
    intro i h0 h1 hd
    refine ⟨true, Ev.step (f := fun _ => some true) (fun k => ?_) (Ev.now _), fun _ c hc => ?_⟩
    · simp only [laws_twoDigits.l0]
      rw [if_neg (by omega)]
    · rw [List.drop_of_length_le (by rw [bytesOf_length]; omega)] at hc
      cases hc
  | succ d ih =>
    intro i h0 h1 hd
    by_cases a : bt s i < 16
    · refine ⟨false, Ev.step (f := fun _ => some false) (fun k => ?_) (Ev.now _), fun h => by cases h⟩
      simp only [laws_twoDigits.l0]
      rw [if_pos (by omega), if_pos h0, if_pos (by omega), if_pos a]
    · by_cases b : bt s i > 127
      · refine ⟨false, Ev.step (f := fun _ => some false) (fun k => ?_) (Ev.now _), fun h => by cases h⟩
        simp only [laws_twoDigits.l0]
        rw [if_pos (by omega), if_pos h0, if_pos (by omega), if_neg a, if_pos b]
      · obtain ⟨r, hr, hr2⟩ := ih (i + 1) (by omega) (by omega) (by omega)
        refine ⟨r, Ev.step (f := fun k => laws_twoDigits.l0 k s (s.size : Int) (i + 1)) (fun k => ?_) hr, fun h c hc => ?_⟩
        · simp only [laws_twoDigits.l0]
          rw [if_pos (by omega), if_pos h0, if_pos (by omega), if_neg a, if_neg b, wrap_succ h0 (by omega)]
        · have hb := bytes_drop s i.toNat (by omega)
          rw [show ((i.toNat : Nat) : Int) = i by omega] at hb
          rw [hb] at hc
          rcases List.mem_cons.1 hc with rfl | hc
          · omega
          · exact hr2 h c (by rw [show (i + 1).toNat = i.toNat + 1 by omega]; exact hc)

theorem all_range (l : List Int) (h : ∀ c ∈ l, 0 ≤ c ∧ c ≤ 255) : ∀ st, (∀ c ∈ all st l, 0 ≤ c ∧ c ≤ 255) ∧ (all st l).length ≤ 4 * l.length := by
  induction l with
  | nil => intro st; simp [all]
  | cons c cs ih =>
    intro st
    have hc := h c List.mem_cons_self
    have h2 := ih (fun d hd => h d (List.mem_cons_of_mem _ hd)) false
    rw [all]
    refine ⟨fun d hd => ?_, ?_⟩
    · rcases List.mem_append.1 hd with hd | hd
      · unfold one at hd
        split at hd
        · simp at hd; omega
        · split at hd
          · exact bytes_range _ _ hd
          · split at hd
            · simp at hd; omega
            · exact bytes_range _ _ hd
      · exact h2.1 d hd
    · rw [List.length_append, List.length_cons]
      have := one_len st c hc.1 hc.2
      omega

theorem FnNameBack : laws_FnNameBack.Pure := by
  intro s hs
  by_cases c1 : (s.size : Int) > 2147483647
  · exact ⟨0, by unfold laws_FnNameBack.f; rw [if_pos c1]⟩
  · by_cases c2 : (s.size : Int) > 4000
    · exact ⟨0, by unfold laws_FnNameBack.f; rw [if_neg c1, if_pos c2]⟩
    · obtain ⟨b, ⟨K1, h1⟩, h2⟩ := two_loop s (by omega) s.size 0 (by omega) (by omega) (by omega)
      dsimp only at h1
      cases b with
      | false =>
        refine ⟨K1, ?_⟩
        unfold laws_FnNameBack.f laws_twoDigits.f
        rw [if_neg c1, if_neg c2, h1 _ (Nat.le_refl _), Option.bind_some, if_neg (by simp)]
      | true =>
        have hr : ∀ c ∈ bytesOf s, 16 ≤ c ∧ c ≤ 127 := fun c hc => h2 rfl c (by simpa using hc)
        obtain ⟨hal, hlen⟩ := all_range (bytesOf s) (bytes_range s) true
        rw [bytesOf_length] at hlen
        obtain ⟨K2, h3⟩ := back_loop (strOfNums (all true (bytesOf s))) (by rw [strOfNums_size]; omega) (bytesOf s) true 0 [] (by omega) (by rw [bytes_ofNums _ hal]; simp) hr (by simp)
        dsimp only at h3
        obtain ⟨K3, h4⟩ := escapes_is
        refine ⟨K1 + K2 + K3 + 8001, ?_⟩
        unfold laws_FnNameBack.f laws_twoDigits.f impl_NameUnescape.f unit_UnitNameUnescape.f unit_unescape.f
        rw [if_neg c1, if_neg c2, h1 _ (by omega), Option.bind_some, if_pos rfl, name_is s (by omega) _ (by omega), Option.bind_some, h3 _ (by omega)]
        simp only [Option.bind_some, List.nil_append]
        rw [ofNums_bytes, if_pos rfl, h4 _ (by omega)]
        rfl
end Go.Proofs.YtlmmgienbmghmaaDoor.Pure
