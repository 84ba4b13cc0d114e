import Derived.Test.YtlmmgienbmghmaaDoorUDoor
/- The plain law of the reader of unit files: at every text of at most 20,000 bytes it answers. -/
set_option linter.unusedVariables false
set_option linter.unusedSimpArgs false
namespace Go.Proofs.YtlmmgienbmghmaaDoor.PureT
open Go.RowKit Go.Proofs.YtlmmgienbmghmaaDoorW.PrintWords Go.Proofs.YtlmmgienbmghmaaDoorW.PrintLast Go.Proofs.YtlmmgienbmghmaaDoorW.PrintMore Go.Proofs.YtlmmgienbmghmaaDoor.Lex Go.Proofs.YtlmmgienbmghmaaDoor.UDoor
/-- What holds of the buffer at all times. -/
structure Inv (n : Nat) (b : Bf) : Prop where
  ok : b.Ok n
  h4 : b.w ≤ 4096 + b.r
  wz : n ≤ 4096 → b.w = 0 ∨ b.w = n
theorem findN_none (c : UInt8) (l : List UInt8) : ∀ (n r : Nat), findN c l n r = none → ∀ j, r ≤ j → j < r + n → l.getD j 0 ≠ c
  | 0, r, _, j, h1, h2 => by omega
  | n + 1, r, h, j, h1, h2 => by
    unfold findN at h
    split at h
    · cases h
    · rename_i hne
      rcases Nat.lt_or_ge r j with h3 | h3
      · exact findN_none c l n (r + 1) h j (by omega) (by omega)
      · have : j = r := by omega
        subst this
        exact hne
theorem findN_first (c : UInt8) (l : List UInt8) : ∀ (n r i : Nat), findN c l n r = some i → ∀ j, r ≤ j → j < i → l.getD j 0 ≠ c
  | 0, r, i, h, j, h1, h2 => by unfold findN at h; cases h
  | n + 1, r, i, h, j, h1, h2 => by
    unfold findN at h
    split at h
    · injection h with h; omega
    · rename_i hne
      rcases Nat.lt_or_ge r j with h3 | h3
      · exact findN_first c l n (r + 1) i h j (by omega) (by omega)
      · have : j = r := by omega
        subst this
        exact hne
theorem fill_inv {n : Nat} {b : Bf} (h : Inv n b) : Inv n (b.fill n) ∧ b.w ≤ (b.fill n).w ∧ (b.fill n).r = b.r := by
  have h1 := h.ok.rw
  have h2 := h.ok.wn
  have h3 := h.h4
  refine ⟨⟨h.ok.fill (by omega), fill_w _ _ h3, fun hn => ?_⟩, ?_, fill_r _ _⟩
  · unfold Bf.fill
    rcases h.wz hn with e | e
    · split
      · exact .inl e
      · refine .inr ?_
        show min n (b.r + 4096) = n
        omega
    · rw [if_pos e]
      exact .inr e
  unfold Bf.fill
  split <;> simp <;> omega
/-- The buffer ahead of the next filling. -/
def slid (b : Bf) : Bf := ⟨if 4096 ≤ b.w - b.r then b.w else b.r, b.w, b.last, b.d⟩
theorem slid_inv {n : Nat} {b : Bf} (h : Inv n b) : Inv n (slid b) ∧ b.r ≤ (slid b).r ∧ ((slid b).r = b.r ∨ (slid b).r = b.w) := by
  have h1 := h.ok.rw
  have h2 := h.ok.wn
  have h3 := h.h4
  have h4 := h.ok.ln
  have h5 := h.ok.dn
  unfold slid
  split
  · exact ⟨⟨⟨Nat.le_refl _, h2, h4, h5⟩, by (show b.w ≤ 4096 + b.w); omega, h.wz⟩, h1, .inr rfl⟩
  · exact ⟨⟨⟨h1, h2, h4, h5⟩, h3, h.wz⟩, Nat.le_refl _, .inl rfl⟩
theorem slid_less {n : Nat} {b : Bf} (h : Inv n b) (hd : b.d = false) : n - ((slid b).fill n).w + (if ((slid b).fill n).d = true then 0 else 1) < n - b.w + 1 := by
  have h1 := h.ok.rw
  have h2 := h.ok.wn
  have h3 := h.h4
  have hw : (slid b).w = b.w := rfl
  unfold Bf.fill
  rw [hw]
  by_cases e : b.w = n
  · rw [if_pos e]; show n - (slid b).w + _ < _; rw [hw]; simp
  · rw [if_neg e]
    have h6 : b.w < min n ((slid b).r + 4096) := by
      unfold slid
      split <;> simp <;> omega
    have h7 : (slid b).d = false := hd
    simp only [h7]
    have h8 : min n ((slid b).r + 4096) ≤ n := Nat.min_le_left _ _
    simp only [Bool.false_eq_true, if_false]
    omega
theorem rb_all (c : UInt8) (l : List UInt8) : ∀ (k : Nat) (b : Bf), Inv l.length b → l.length - b.w + (if b.d = true then 0 else 1) < k → ∃ b' e, rbN c l k b = some (b', e)
  | 0, b, _, h => by omega
  | k + 1, b, hi, h => by
    unfold rbN
    split
    · exact ⟨_, _, rfl⟩
    · by_cases hd : b.d = true
      · rw [if_pos hd]; exact ⟨_, _, rfl⟩
      · rw [if_neg hd]
        rw [if_neg hd] at h
        have hd' : b.d = false := by simpa using hd
        have := slid_less hi hd'
        exact rb_all c l k ((slid b).fill l.length) (fill_inv (slid_inv hi).1).1 (by omega)
theorem rb_post (c : UInt8) (l : List UInt8) : ∀ (k : Nat) (b b' : Bf) (e : Bool), Inv l.length b → rbN c l k b = some (b', e) →
    Inv l.length b' ∧ b.w ≤ b'.w ∧ b.r ≤ b'.r ∧ (e = true → b'.r = l.length ∧ ∀ j, b.r ≤ j → j < l.length → l.getD j 0 ≠ c) ∧
    (e = false → ∃ i, b'.r = i + 1 ∧ b.r ≤ i ∧ i < l.length ∧ l.getD i 0 = c ∧ ∀ j, b.r ≤ j → j < i → l.getD j 0 ≠ c)
  | 0, b, b', e, _, h => by unfold rbN at h; cases h
  | k + 1, b, b', e, hi, h => by
    have h1 := hi.ok.rw
    have h2 := hi.ok.wn
    have h3 := hi.h4
    have h4 := hi.ok.ln
    have h5 := hi.ok.dn
    cases hf : findN c l (b.w - b.r) b.r with
    | some i =>
      obtain ⟨rfl, rfl⟩ := rb_found h hf
      obtain ⟨a1, a2, a3⟩ := findN_some c l _ _ _ hf
      refine ⟨⟨⟨?_, h2, h4, h5⟩, ?_, hi.wz⟩, Nat.le_refl _, ?_, (fun e => by cases e), fun _ => ⟨i, rfl, a1, by omega, a3, findN_first c l _ _ _ hf⟩⟩
      · show i + 1 ≤ b.w; omega
      · show b.w ≤ 4096 + (i + 1); omega
      · show b.r ≤ i + 1; omega
    | none =>
      have hn := findN_none c l _ _ hf
      by_cases hd : b.d = true
      · obtain ⟨rfl, rfl⟩ := rb_eof h hf hd
        have h6 := h5 hd
        refine ⟨⟨⟨Nat.le_refl _, h2, h4, fun e => by cases e⟩, ?_, hi.wz⟩, Nat.le_refl _, h1, fun _ => ⟨h6, fun j j1 j2 => hn j j1 (by omega)⟩, (fun e => by cases e)⟩
        show b.w ≤ 4096 + b.w; omega
      · have hd' : b.d = false := by simpa using hd
        obtain ⟨k', hk, h7⟩ := rb_more h hf hd'
        have hk' : k' = k := by omega
        subst hk'
        obtain ⟨s1, s2, s3⟩ := slid_inv hi
        obtain ⟨f1, f2, f3⟩ := fill_inv s1
        obtain ⟨p1, p2, p3, p4, p5⟩ := rb_post c l k' ((slid b).fill l.length) b' e f1 h7
        rw [f3] at p3 p4 p5
        have f2' : b.w ≤ ((slid b).fill l.length).w := f2
        have hgap : ∀ j, b.r ≤ j → j < (slid b).r → l.getD j 0 ≠ c := fun j j1 j2 => hn j j1 (by rcases s3 with s | s <;> omega)
        refine ⟨p1, by omega, by omega, fun he => ⟨(p4 he).1, fun j j1 j2 => ?_⟩, fun he => ?_⟩
        · rcases Nat.lt_or_ge j (slid b).r with hj | hj
          · exact hgap j j1 hj
          · exact (p4 he).2 j hj j2
        · obtain ⟨i, i1, i2, i3, i4, i5⟩ := p5 he
          refine ⟨i, i1, by omega, i3, i4, fun j j1 j2 => ?_⟩
          rcases Nat.lt_or_ge j (slid b).r with hj | hj
          · exact hgap j j1 hj
          · exact i5 j hj j2
theorem need_end {t : ByteArray} {b : Bf} (hi : Inv t.size b) : need t (rrF t b) = false := by
  unfold rrF
  by_cases h1 : need t b = true
  · rw [if_pos h1]
    by_cases h2 : need t (b.fill t.size) = true
    · rw [if_pos h2]; exact need3 hi.ok h1 h2
    · rw [if_neg h2]; simpa using h2
  · rw [if_neg h1]; simpa using h1
theorem rrF_inv {t : ByteArray} {b : Bf} (hi : Inv t.size b) : Inv t.size (rrF t b) ∧ b.w ≤ (rrF t b).w ∧ (rrF t b).r = b.r := by
  have f1 := fill_inv hi
  have f2 := fill_inv f1.1
  unfold rrF
  split
  · split
    · exact ⟨f2.1, Nat.le_trans f1.2.1 f2.2.1, f2.2.2.trans f1.2.2⟩
    · exact f1
  · exact ⟨hi, Nat.le_refl _, rfl⟩
theorem full_empty (s : ByteArray) (h : s.size = 0) : fullF s = false := by
  unfold fullF fullN
  rw [if_pos h]
theorem rr_end_n {t : ByteArray} {b : Bf} (hi : Inv t.size b) (h : (rrF t b).r = (rrF t b).w) : (rrF t b).w = t.size := by
  have h1 := need_end hi
  have h2 := (rrF_inv hi).1
  cases hd : (rrF t b).d with
  | true => exact h2.ok.dn hd
  | false =>
    have : need t (rrF t b) = true := (need_iff t _).2 ⟨by omega, full_empty _ (by rw [ByteArray.size_extract]; omega), hd⟩
    rw [this] at h1
    cases h1
theorem rr_w (t : ByteArray) (b : Bf) : (rr t b).1.w = (rrF t b).w := by
  unfold rr
  split <;> rfl
theorem rr_post {t : ByteArray} {b : Bf} (hi : Inv t.size b) :
    Inv t.size (rr t b).1 ∧ b.w ≤ (rr t b).1.w ∧ (rr t b).1.last = b.r ∧ b.r ≤ (rr t b).1.r ∧ ((rr t b).2 = none → (rr t b).1.r = t.size) ∧ ∀ c, (rr t b).2 = some c → b.r < (rr t b).1.r := by
  obtain ⟨a1, a2⟩ := rr_ok hi.ok hi.h4
  obtain ⟨f1, f2, f3⟩ := rrF_inv hi
  refine ⟨⟨a1, a2, by rw [rr_w]; exact f1.wz⟩, ?_⟩
  unfold rr
  by_cases h : (rrF t b).r = (rrF t b).w
  · rw [if_pos h]
    have := rr_end_n hi h
    exact ⟨f2, f3, by show b.r ≤ (rrF t b).r; omega, fun _ => by (show (rrF t b).r = _); omega, fun c hc => by cases hc⟩
  · rw [if_neg h]
    have h1 := f1.ok.rw
    have h2 := f1.ok.wn
    have hsz : (t.extract (rrF t b).r (rrF t b).w).size ≠ 0 := by rw [ByteArray.size_extract]; omega
    have h3 : 1 ≤ (Lib.decodeGo (t.extract (rrF t b).r (rrF t b).w)).2 := by
      unfold Lib.decodeGo
      rw [if_neg hsz]
      exact Lib.width_pos _ _
    exact ⟨f2, f3, by (show b.r ≤ (rrF t b).r + _); omega, (fun hc => by cases hc), fun c _ => by (show b.r < (rrF t b).r + _); omega⟩
theorem last_inv {t : ByteArray} {b : Bf} (hi : Inv t.size b) : Inv t.size ⟨(rr t b).1.last, (rr t b).1.w, (rr t b).1.last, (rr t b).1.d⟩ := ⟨(rr_last hi.ok hi.h4).1, (rr_last hi.ok hi.h4).2, (rr_post hi).1.wz⟩
theorem optN_post (t : ByteArray) : ∀ (k : Nat) (b b' : Bf) (acc nm : ByteArray) (en : NameEnd), Inv t.size b → optN t k b acc = some (b', en, nm) → Inv t.size b' ∧ b.w ≤ b'.w ∧ b.r ≤ b'.r ∧ (en = .ok → b.r < b'.r)
  | 0, b, b', acc, nm, en, _, h => by unfold optN at h; cases h
  | k + 1, b, b', acc, nm, en, hi, h => by
    obtain ⟨p1, p2, p3, p4, p5, p6⟩ := rr_post hi
    unfold optN at h
    cases hc : (rr t b).2 with
    | none =>
      rw [hc] at h
      simp only [Option.some.injEq, Prod.mk.injEq] at h
      obtain ⟨rfl, rfl, rfl⟩ := h
      exact ⟨p1, p2, p4, fun e => by cases e⟩
    | some c =>
      have p7 := p6 c hc
      rw [hc] at h
      simp only at h
      split at h
      · simp only [Option.some.injEq, Prod.mk.injEq] at h
        obtain ⟨rfl, rfl, rfl⟩ := h
        exact ⟨p1, p2, p4, fun e => by cases e⟩
      · split at h
        · simp only [Option.some.injEq, Prod.mk.injEq] at h
          obtain ⟨rfl, rfl, rfl⟩ := h
          exact ⟨p1, p2, p4, fun _ => p7⟩
        · obtain ⟨q1, q2, q3, q4⟩ := optN_post t k _ b' _ nm en p1 h
          exact ⟨q1, by omega, by omega, fun e => by have := q4 e; omega⟩
theorem optN_all (t : ByteArray) : ∀ (k : Nat) (b : Bf) (acc : ByteArray), Inv t.size b → t.size - b.r < k → ∃ b' en nm, optN t k b acc = some (b', en, nm)
  | 0, b, acc, _, h => by omega
  | k + 1, b, acc, hi, h => by
    obtain ⟨p1, p2, p3, p4, p5, p6⟩ := rr_post hi
    unfold optN
    cases hc : (rr t b).2 with
    | none => exact ⟨_, _, _, rfl⟩
    | some c =>
      have p7 := p6 c hc
      have p8 := p1.ok.rw
      have p9 := p1.ok.wn
      simp only
      split
      · exact ⟨_, _, _, rfl⟩
      · split
        · exact ⟨_, _, _, rfl⟩
        · exact optN_all t k _ _ p1 (by omega)
theorem trimB_ne {c : UInt8} {l : List UInt8} (h : trimB c l ≠ []) : l ≠ [] := by
  rintro rfl
  exact h (List.length_eq_zero_iff.1 (Nat.le_zero.1 (trimB_le c [])))
theorem suf_ne {c : UInt8} {l : List UInt8} (h : Lib.hasSuffix l [c] = true) : l ≠ [] := by
  rintro rfl
  cases h
theorem line_ne {l : List UInt8} {b b' : Bf} (h : lineOf l b b' ≠ []) : b.r < b'.r := by
  have h1 := trimB_ne (trimB_ne h)
  rcases Nat.lt_or_ge b.r b'.r with h2 | h2
  · exact h2
  · exact absurd (by rw [show b'.r - b.r = 0 by omega, List.take_zero]) h1
theorem ign_all (l : List UInt8) (m : Nat) (hm : l.length + 1 < m) : ∀ (n : Nat) (b : Bf), Inv l.length b → l.length - b.r < n → ∃ b', ignN l m n b = some b' ∧ Inv l.length b' ∧ b.r ≤ b'.r ∧ b.w ≤ b'.w
  | 0, b, _, h => by omega
  | n + 1, b, hi, h => by
    obtain ⟨b1, e, hb⟩ := rb_all 10 l m b hi (by split <;> omega)
    obtain ⟨p1, p2, p3, p4, p5⟩ := rb_post 10 l m b b1 e hi hb
    unfold ignN
    rw [hb]
    simp only
    split
    · rename_i hs
      have h1 := line_ne (trimB_ne (suf_ne hs))
      have h2 := p1.ok.rw
      have h3 := p1.ok.wn
      obtain ⟨b2, q1, q2, q3, q4⟩ := ign_all l m hm n b1 p1 (by omega)
      exact ⟨b2, q1, q2, by omega, by omega⟩
    · exact ⟨b1, rfl, p1, p3, p2⟩
/-- How far the lexer has still to go. -/
def rank : Step → Nat
  | .stop => 0
  | .sec => 2
  | .name => 1
  | .ign s => rank s + 1
  | .suf _ => 3
  | .soo _ => 2
  | .optn _ => 1
  | .optv _ _ _ => 3
def meas (n : Nat) (b : Bf) (s : Step) : Nat := 4 * (n - b.r) + rank s
theorem len_t (t : ByteArray) : t.data.toList.length = t.size := by rw [Array.length_toList]; rfl
theorem st_name {t : ByteArray} {m : Nat} {b b' : Bf} {e : Bool} (h : rbN 93 t.data.toList m b = some (b', e)) : stepF t m .name b = some (b', [], if e = true then none else some (.suf (secName t.data.toList b b'))) := by simp only [stepF, h]
theorem st_ign {t : ByteArray} {m : Nat} {b b' : Bf} {s : Step} (h : ignN t.data.toList m m b = some b') : stepF t m (.ign s) b = some (b', [], some s) := by simp only [stepF, h]
theorem st_suf {t : ByteArray} {m : Nat} {b b' : Bf} {e : Bool} {s : ByteArray} (h : rbN 10 t.data.toList m b = some (b', e)) : stepF t m (.suf s) b = some (b', sufIts t b b' s, sufStep t b b' s) := by simp only [stepF, h]
theorem st_optn {t : ByteArray} {m : Nat} {b b' : Bf} {s nm : ByteArray} {en : NameEnd} (h : optN t m b ByteArray.empty = some (b', en, nm)) : stepF t m (.optn s) b = some (b', [], optnStep s en nm) := by simp only [stepF, h]
theorem st_optv {t : ByteArray} {m : Nat} {b b' : Bf} {e : Bool} {s n d : ByteArray} (h : rbN 10 t.data.toList m b = some (b', e)) : stepF t m (.optv s n d) b = some (b', (optvR (lineOf t.data.toList b b') e s n d).1, some (optvR (lineOf t.data.toList b b') e s n d).2) := by simp only [stepF, h]
theorem step_all (t : ByteArray) (m : Nat) (hm : t.size + 2 < m) (s : Step) (b : Bf) (hi : Inv t.size b) (hs : s.isStop = false) :
    ∃ b' its o, stepF t m s b = some (b', its, o) ∧ Inv t.size b' ∧ b.w ≤ b'.w ∧ ∀ s', o = some s' → meas t.size b' s' < meas t.size b s := by
  have hb1 := hi.ok.rw
  have hb2 := hi.ok.wn
  have hil : Inv t.data.toList.length b := by rw [len_t]; exact hi
  have hrb : ∀ c, ∃ b' e, rbN c t.data.toList m b = some (b', e) := fun c => rb_all c _ m b hil (by rw [len_t]; split <;> omega)
  obtain ⟨p1, p2, p3, p4, p5, p6⟩ := rr_post hi
  have p8 := p1.ok.rw
  have p9 := p1.ok.wn
  cases s with
  | stop => cases hs
  | sec =>
    refine ⟨_, _, _, rfl, p1, p2, ?_⟩
    rintro s' h
    injection h with h
    subst h
    unfold secF meas
    cases hc : (rr t b).2 with
    | none => have := p5 hc; simp [rank, *]
    | some c =>
      have := p6 c hc
      simp only
      split
      · simp [rank]; omega
      · split <;> simp [rank] <;> omega
  | name =>
    obtain ⟨b', e, h⟩ := hrb 93
    obtain ⟨q1, q2, q3, q4, q5⟩ := rb_post _ _ _ _ _ _ hil h
    rw [len_t] at q1
    refine ⟨b', [], _, st_name h, q1, q2, ?_⟩
    rintro s' hs'
    cases e with
    | true => cases hs'
    | false =>
      simp only [Bool.false_eq_true, if_false, Option.some.injEq] at hs'
      subst hs'
      obtain ⟨i, i1, i2, i3, _⟩ := q5 rfl
      rw [len_t] at i3
      simp only [meas, rank]
      omega
  | ign s =>
    obtain ⟨b', h, q1, q2, q3⟩ := ign_all t.data.toList m (by rw [len_t]; omega) m b hil (by rw [len_t]; omega)
    rw [len_t] at q1
    refine ⟨b', [], some s, st_ign h, q1, q3, ?_⟩
    rintro s' hs'
    injection hs' with hs'
    subst hs'
    simp only [meas, rank]
    omega
  | suf s =>
    obtain ⟨b', e, h⟩ := hrb 10
    obtain ⟨q1, q2, q3, q4, q5⟩ := rb_post _ _ _ _ _ _ hil h
    rw [len_t] at q1
    refine ⟨b', _, _, st_suf h, q1, q2, ?_⟩
    rintro s' hs'
    unfold sufStep at hs'
    split at hs'
    · injection hs' with hs'
      subst hs'
      simp only [meas, rank]
      omega
    · cases hs'
  | soo s =>
    refine ⟨_, _, _, rfl, ?_, ?_, ?_⟩
    · refine ⟨(sooF_ok s hi.ok hi.h4).1, (sooF_ok s hi.ok hi.h4).2, ?_⟩
      have hw : (sooF t b s).1.w = (rr t b).1.w := by
        unfold sooF
        split
        · rfl
        · split
          · rfl
          · split
            · rfl
            · split <;> rfl
      rw [hw]
      exact p1.wz
    · unfold sooF
      split
      · exact p2
      · split
        · exact p2
        · split
          · exact p2
          · split <;> exact p2
    · rintro s' h
      injection h with h
      subst h
      unfold sooF meas
      cases hc : (rr t b).2 with
      | none => have := p5 hc; simp [rank, *]
      | some c =>
        have := p6 c hc
        simp only
        split
        · simp [rank]; omega
        · split
          · simp [rank]; omega
          · split
            · simp [rank]; omega
            · simp [rank, p3]
  | optn s =>
    obtain ⟨b', en, nm, h⟩ := optN_all t m b ByteArray.empty hi (by omega)
    obtain ⟨q1, q2, q3, q4⟩ := optN_post t m b b' _ nm en hi h
    refine ⟨b', [], _, st_optn h, q1, q2, ?_⟩
    rintro s' hs'
    have q5 := q1.ok.rw
    have q6 := q1.ok.wn
    cases en with
    | ok =>
      have := q4 rfl
      injection hs' with hs'
      subst hs'
      simp only [meas, rank]
      omega
    | eof => cases hs'
    | bad => cases hs'
  | optv s n d =>
    obtain ⟨b', e, h⟩ := hrb 10
    obtain ⟨q1, q2, q3, q4, q5⟩ := rb_post _ _ _ _ _ _ hil h
    rw [len_t] at q1
    have q6 := q1.ok.rw
    have q7 := q1.ok.wn
    refine ⟨b', _, _, st_optv h, q1, q2, ?_⟩
    rintro s' hs'
    injection hs' with hs'
    subst hs'
    unfold optvR
    split
    · simp only [meas, rank]; omega
    · rename_i hne
      have hl : b.r < b'.r := line_ne (fun e => hne (by rw [e]; rfl))
      split
      · simp only [meas, rank]; omega
      · simp only [meas, rank]; omega
theorem lex_all (t : ByteArray) (m : Nat) (hm : t.size + 2 < m) : ∀ (k : Nat) (b : Bf) (s : Step) (acc : List Lex.Item), Inv t.size b → meas t.size b s < k → ∃ R, lexF t m k b s acc = some R
  | 0, b, s, acc, _, h => by omega
  | k + 1, b, s, acc, hi, h => by
    unfold lexF
    split
    · exact ⟨_, rfl⟩
    · rename_i hs
      split
      · exact ⟨_, rfl⟩
      · obtain ⟨b', its, o, h1, h2, _, h3⟩ := step_all t m hm s b hi (by simpa using hs)
        rw [h1]
        cases o with
        | none => exact ⟨_, rfl⟩
        | some s' =>
          have := h3 s' rfl
          exact lex_all t m hm k b' s' _ h2 (by omega)
theorem inv0 (n : Nat) : Inv n ⟨0, 0, 0, false⟩ := ⟨⟨Nat.le_refl _, Nat.zero_le _, Nat.zero_le _, fun e => by cases e⟩, Nat.zero_le _, fun _ => .inl rfl⟩
theorem run_all (t : ByteArray) (ht : t.size ≤ 20000) : ∃ R, runF t = some R :=
  lex_all t 30000 (by omega) 200000 _ .sec [] (inv0 _) (by simp [meas, rank]; omega)
end Go.Proofs.YtlmmgienbmghmaaDoor.PureT

/- The plain law of the reader of unit files: what was found is made into options, at every text. -/
set_option linter.unusedVariables false
set_option linter.unusedSimpArgs false
namespace Go.Proofs.YtlmmgienbmghmaaDoor.PureT
open Go.RowKit Go.Proofs.YtlmmgienbmghmaaDoorW.PrintWords Go.Proofs.YtlmmgienbmghmaaDoorW.PrintLast Go.Proofs.YtlmmgienbmghmaaDoorW.PrintMore Go.Proofs.YtlmmgienbmghmaaDoor.Lex Go.Proofs.YtlmmgienbmghmaaDoor.UDoor Go.Proofs.YtlmmgienbmghmaaDoor.DoorU
/-- The section that a step is in. -/
def secOf : Step → Option ByteArray
  | .soo s => some s
  | .optn s => some s
  | .optv s _ _ => some s
  | .ign s => secOf s
  | _ => none
/-- The options of sections, in their order. -/
def flatS (S : List SecP) : List (ByteArray × ByteArray × ByteArray) := S.reverse.flatMap fun x => x.2.map fun e => (x.1, e.1, e.2)
theorem flatS_sec (nm : ByteArray) (S : List SecP) : flatS ((nm, []) :: S) = flatS S := by simp [flatS]
theorem flatS_opt (nm n v : ByteArray) (es : List (ByteArray × ByteArray)) (S : List SecP) : flatS ((nm, es ++ [(n, v)]) :: S) = flatS ((nm, es) :: S) ++ [(nm, n, v)] := by simp [flatS]
def D0 (acc : List Lex.Item) : Prop := ∃ S O, desF acc [] [] = some (S, O) ∧ flatS S = O ∧ O.length ≤ acc.length
def D (acc : List Lex.Item) (s : Step) : Prop := ∃ S O, desF acc [] [] = some (S, O) ∧ flatS S = O ∧ O.length ≤ acc.length ∧ ∀ nm, secOf s = some nm → ∃ es S', S = (nm, es) :: S'
theorem D.d0 {acc : List Lex.Item} {s : Step} (h : D acc s) : D0 acc := by
  obtain ⟨S, O, h1, h2, h3, _⟩ := h
  exact ⟨S, O, h1, h2, h3⟩
theorem desF_append : ∀ (its : List Lex.Item) (its2 : List Lex.Item) (S : List SecP) (O : List (ByteArray × ByteArray × ByteArray)), desF (its ++ its2) S O = (desF its S O).bind fun q => desF its2 q.1 q.2
  | [], its2, S, O => rfl
  | .sec s :: l, its2, S, O => desF_append l its2 _ _
  | .opt _ _ _ :: _, its2, [], O => rfl
  | .opt s n v :: l, its2, (nm, es) :: S, O => desF_append l its2 _ _
theorem D.same {acc : List Lex.Item} {s s' : Step} (h : D acc s) (hs : ∀ nm, secOf s' = some nm → secOf s = some nm) : D (acc ++ []) s' := by
  obtain ⟨S, O, h1, h2, h3, h4⟩ := h
  rw [List.append_nil]
  exact ⟨S, O, h1, h2, h3, fun nm hn => h4 nm (hs nm hn)⟩
theorem D.sec {acc : List Lex.Item} {s : Step} (h : D acc s) (nm : ByteArray) : D (acc ++ [.sec nm]) (.soo nm) := by
  obtain ⟨S, O, h1, h2, h3, h4⟩ := h
  refine ⟨(nm, []) :: S, O, by rw [desF_append, h1]; rfl, by rw [flatS_sec, h2], by rw [List.length_append]; omega, ?_⟩
  rintro nm' hn
  injection hn with hn
  subst hn
  exact ⟨_, _, rfl⟩
theorem D.opt {acc : List Lex.Item} {s : Step} {nm : ByteArray} (h : D acc s) (hs : secOf s = some nm) (n v : ByteArray) : D (acc ++ [.opt nm n v]) (.soo nm) := by
  obtain ⟨S, O, h1, h2, h3, h4⟩ := h
  obtain ⟨es, S', rfl⟩ := h4 nm hs
  refine ⟨(nm, es ++ [(n, v)]) :: S', O ++ [(nm, n, v)], by rw [desF_append, h1]; rfl, by rw [flatS_opt, h2], by simp only [List.length_append, List.length_singleton]; omega, ?_⟩
  rintro nm' hn
  injection hn with hn
  subst hn
  exact ⟨_, _, rfl⟩
theorem D.step {t : ByteArray} {m : Nat} {s : Step} {b b' : Bf} {its : List Lex.Item} {o : Option Step} {acc : List Lex.Item} (h : D acc s) (hs : stepF t m s b = some (b', its, o)) :
    D0 (acc ++ its) ∧ its.length ≤ 1 ∧ ∀ s', o = some s' → D (acc ++ its) s' := by
  cases s with
  | stop => cases hs
  | sec =>
    simp only [stepF, Option.some.injEq, Prod.mk.injEq] at hs
    obtain ⟨rfl, rfl, rfl⟩ := hs
    refine ⟨(h.same (s' := .sec) fun _ e => by cases e).d0, Nat.zero_le _, ?_⟩
    rintro s' e
    injection e with e
    subst e
    refine h.same ?_
    unfold secF
    rintro nm e
    dsimp only at e
    split at e
    · cases e
    · split at e
      · cases e
      · split at e <;> cases e
  | name =>
    unfold stepF at hs
    dsimp only at hs
    split at hs
    · cases hs
    · simp only [Option.some.injEq, Prod.mk.injEq] at hs
      obtain ⟨rfl, rfl, rfl⟩ := hs
      refine ⟨(h.same (s' := .sec) fun _ e => by cases e).d0, Nat.zero_le _, ?_⟩
      rintro s' e
      split at e
      · cases e
      · injection e with e
        subst e
        exact h.same fun nm e => by cases e
  | ign s =>
    unfold stepF at hs
    dsimp only at hs
    split at hs
    · cases hs
    · simp only [Option.some.injEq, Prod.mk.injEq] at hs
      obtain ⟨rfl, rfl, rfl⟩ := hs
      refine ⟨(h.same (s' := .sec) fun _ e => by cases e).d0, Nat.zero_le _, ?_⟩
      rintro s' e
      injection e with e
      subst e
      exact h.same fun nm e => e
  | suf s =>
    unfold stepF at hs
    dsimp only at hs
    split at hs
    · cases hs
    · simp only [Option.some.injEq, Prod.mk.injEq] at hs
      obtain ⟨rfl, rfl, rfl⟩ := hs
      unfold sufIts sufStep
      split
      · refine ⟨(h.sec s).d0, Nat.le_refl _, ?_⟩
        rintro s' e
        injection e with e
        subst e
        exact h.sec s
      · refine ⟨(h.same (s' := .sec) fun _ e => by cases e).d0, Nat.zero_le _, ?_⟩
        rintro s' e
        cases e
  | soo s =>
    simp only [stepF, Option.some.injEq, Prod.mk.injEq] at hs
    obtain ⟨rfl, rfl, rfl⟩ := hs
    refine ⟨(h.same (s' := .sec) fun _ e => by cases e).d0, Nat.zero_le _, ?_⟩
    rintro s' e
    injection e with e
    subst e
    refine h.same ?_
    unfold sooF
    rintro nm e
    split at e
    · cases e
    · split at e
      · exact e
      · split at e
        · cases e
        · split at e
          · exact e
          · exact e
  | optn s =>
    unfold stepF at hs
    dsimp only at hs
    split at hs
    · cases hs
    · rename_i b1 en nm hb
      simp only [Option.some.injEq, Prod.mk.injEq] at hs
      obtain ⟨rfl, rfl, rfl⟩ := hs
      refine ⟨(h.same (s' := .sec) fun _ e => by cases e).d0, Nat.zero_le _, ?_⟩
      rintro s' e
      cases en with
      | ok =>
        injection e with e
        subst e
        exact h.same fun nm e => e
      | eof => cases e
      | bad => cases e
  | optv s n d =>
    unfold stepF at hs
    dsimp only at hs
    split at hs
    · cases hs
    · simp only [Option.some.injEq, Prod.mk.injEq] at hs
      obtain ⟨rfl, rfl, rfl⟩ := hs
      unfold optvR
      split
      · refine ⟨(h.opt rfl _ _).d0, Nat.le_refl _, ?_⟩
        rintro s' e
        injection e with e
        subst e
        exact h.opt rfl _ _
      · split
        · refine ⟨(h.same (s' := .sec) fun _ e => by cases e).d0, Nat.zero_le _, ?_⟩
          rintro s' e
          injection e with e
          subst e
          exact h.same fun nm e => e
        · refine ⟨(h.opt rfl _ _).d0, Nat.le_refl _, ?_⟩
          rintro s' e
          injection e with e
          subst e
          exact h.opt rfl _ _
theorem lex_D (t : ByteArray) (m : Nat) : ∀ (k : Nat) (b : Bf) (s : Step) (acc : List Lex.Item) (R : List Lex.Item × Bool), D acc s → lexF t m k b s acc = some R → D0 R.1 ∧ R.1.length ≤ acc.length + k
  | 0, b, s, acc, R, _, h => by unfold lexF at h; cases h
  | k + 1, b, s, acc, R, hd, h => by
    unfold lexF at h
    split at h
    · injection h with h
      subst h
      exact ⟨hd.d0, by show acc.length ≤ _; omega⟩
    · split at h
      · injection h with h
        subst h
        exact ⟨hd.d0, by show acc.length ≤ _; omega⟩
      · split at h
        · cases h
        · rename_i hst
          obtain ⟨h1, h2, _⟩ := hd.step hst
          injection h with h
          subst h
          exact ⟨h1, by (show (_ ++ _ : List Lex.Item).length ≤ _); rw [List.length_append]; omega⟩
        · rename_i s' hst
          obtain ⟨h1, h2, h3⟩ := hd.step hst
          obtain ⟨q1, q2⟩ := lex_D t m k _ _ _ R (h3 _ rfl) h
          rw [List.length_append] at q2
          exact ⟨q1, by omega⟩
theorem D_init : D [] .sec := ⟨[], [], rfl, rfl, Nat.le_refl _, fun _ e => by cases e⟩
theorem run_D {t : ByteArray} {R : List Lex.Item × Bool} (h : runF t = some R) : D0 R.1 ∧ R.1.length ≤ 200000 := by
  have := lex_D t 30000 200000 _ .sec [] R D_init h
  exact ⟨this.1, by have h2 := this.2; simp only [List.length_nil, Nat.zero_add] at h2; exact h2⟩
/-- UnitRead answers at every text of at most 20,000 bytes. -/
theorem read_all (t : ByteArray) (ht : t.size ≤ 20000) : ∃ R S O, runF t = some R ∧ desF R.1 [] [] = some (S, O) ∧ flatS S = O ∧ O.length ≤ 200000 ∧ impl_UnitRead.f t = some (if R.2 = true then (O.map toS, 0) else ([], 1)) := by
  obtain ⟨R, hR⟩ := run_all t ht
  obtain ⟨⟨S, O, h1, h2, h3⟩, h4⟩ := run_D hR
  refine ⟨R, S, O, hR, h1, h2, by omega, ?_⟩
  unfold impl_UnitRead.f
  rw [if_pos ht, hR]
  show (desF R.1 [] []).bind _ = _
  rw [h1]
  show (if O.length ≤ 1000000 then _ else _) = _
  rw [if_pos (by omega)]
  split <;> rfl
end Go.Proofs.YtlmmgienbmghmaaDoor.PureT
