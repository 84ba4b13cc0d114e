import Derived.Test.YtlmmgienbmghmaaDoorPureD
import Derived.Lib.TrimAscii
import Derived.Laws.RangeString
/- The plain law of the reader of unit files: an ASCII line, step by step. -/
set_option linter.unusedVariables false
set_option linter.unusedSimpArgs false
namespace Go.Proofs.YtlmmgienbmghmaaDoor.PureS
open Go.RowKit Go.Proofs.YtlmmgienbmghmaaDoorW.PrintWords Go.Proofs.YtlmmgienbmghmaaDoorW.PrintLast Go.Proofs.YtlmmgienbmghmaaDoorW.PrintMore Go.Proofs.YtlmmgienbmghmaaDoor.Lex Go.Proofs.YtlmmgienbmghmaaDoor.UDoor Go.Proofs.YtlmmgienbmghmaaDoor.DoorU Go.Proofs.YtlmmgienbmghmaaDoor.PureT
/-- A blank. -/
def bl (c : UInt8) : Bool := c.toNat == 32 || c.toNat == 9
/-- A byte of a line. -/
def good (c : UInt8) : Bool := c.toNat == 9 || (decide (32 ≤ c.toNat) && decide (c.toNat < 127))
abbrev T (t : ByteArray) : List UInt8 := t.data.toList
/-- The lexer runs from here to R. -/
def Runs (t : ByteArray) (s : Step) (b : Bf) (acc : List Lex.Item) (R : List Lex.Item × Bool) : Prop := ∃ k, lexF t 30000 k b s acc = some R
/-- The buffer stands ahead of x, the rest of a line, and of the line's end. -/
structure At (t : ByteArray) (b : Bf) (x tail : List UInt8) : Prop where
  inv : Inv t.size b
  eq : (T t).drop b.r = x ++ tail
  len : x.length ≤ 2046
  tl : tail = [] ∨ ∃ rest, tail = 10 :: rest
theorem drop_len (t : ByteArray) (r : Nat) : ((T t).drop r).length = t.size - r := by rw [List.length_drop, len_t]
theorem At.sz {t : ByteArray} {b : Bf} {x tail : List UInt8} (h : At t b x tail) : t.size - b.r = x.length + tail.length := by rw [← drop_len, h.eq, List.length_append]
theorem At.near {t : ByteArray} {b : Bf} {x tail : List UInt8} (h : At t b x tail) : tooLong t b = false := by
  have h1 := h.sz
  have h2 := h.len
  have h3 := h.inv.ok.wn
  unfold tooLong
  by_cases hw : 2048 ≤ b.w - b.r
  · rcases h.tl with e | ⟨rest, e⟩
    · rw [e] at h1
      simp only [List.length_nil] at h1
      omega
    · have : hasNL (((T t).drop b.r).take 2048) = true := by
        rw [h.eq, e]
        unfold hasNL
        rw [List.any_eq_true]
        refine ⟨10, ?_, rfl⟩
        rw [List.take_append, List.mem_append]
        right
        obtain ⟨j, hj⟩ : ∃ j, 2048 - x.length = j + 1 := ⟨2047 - x.length, by omega⟩
        rw [hj, List.take_succ_cons]
        exact List.mem_cons_self
      rw [this]
      simp
  · simp [hw]
theorem drop_next {t : ByteArray} {r : Nat} {c : UInt8} {rest : List UInt8} (h : (T t).drop r = c :: rest) : (T t).drop (r + 1) = rest ∧ r < t.size ∧ (T t)[r]? = some c := by
  have h1 : r < t.size := by
    have := drop_len t r
    rw [h, List.length_cons] at this
    omega
  refine ⟨by rw [← List.drop_drop, h]; rfl, h1, ?_⟩
  have h2 := congrArg (fun l => l[0]?) h
  simp only [List.getElem?_drop, Nat.add_zero, List.getElem?_cons_zero] at h2
  exact h2
/-- A rune of ASCII is read. -/
theorem rr_asc {t : ByteArray} {b : Bf} {c : UInt8} {rest : List UInt8} (hi : Inv t.size b) (h : (T t).drop b.r = c :: rest) (ha : c.toNat < 128) :
    (rr t b).2 = some c.toNat ∧ (rr t b).1.r = b.r + 1 := by
  obtain ⟨h1, h2, h3⟩ := drop_next h
  obtain ⟨f1, f2, f3⟩ := rrF_inv hi
  have hw : (rrF t b).r ≠ (rrF t b).w := fun e => by have := rr_end_n hi e; omega
  have g1 := f1.ok.rw
  have g2 := f1.ok.wn
  unfold rr
  rw [if_neg hw]
  have hsz : (t.extract (rrF t b).r (rrF t b).w).size ≠ 0 := by rw [ByteArray.size_extract]; omega
  have hd : Lib.decodeGo (t.extract (rrF t b).r (rrF t b).w) = (c.toNat, 1) := by
    unfold Lib.decodeGo
    rw [if_neg hsz]
    have hg : (t.extract (rrF t b).r (rrF t b).w)[0]'(by omega) = c := by
      rw [ByteArray.getElem_extract]
      have h4 : t[(rrF t b).r + 0]'(by omega) = (T t)[b.r]'(by rw [len_t]; omega) := by
        simp only [f3, Nat.add_zero]
        rfl
      rw [h4]
      rw [List.getElem?_eq_getElem (by rw [len_t]; omega)] at h3
      exact Option.some.inj h3
    rw [Go.decode_ascii _ 0 (by omega) (by rw [hg]; exact ha), hg]
  rw [hd]
  exact ⟨rfl, by show (rrF t b).r + 1 = _; rw [f3]⟩
theorem rr_eof {t : ByteArray} {b : Bf} (hi : Inv t.size b) (h : (T t).drop b.r = []) : (rr t b).2 = none := by
  obtain ⟨p1, p2, p3, p4, p5, p6⟩ := rr_post hi
  have h1 := drop_len t b.r
  rw [h] at h1
  simp only [List.length_nil] at h1
  cases hc : (rr t b).2 with
  | none => rfl
  | some c =>
    have := p6 c hc
    have := p1.ok.rw
    have := p1.ok.wn
    omega
/-- One step of the lexer. -/
theorem Runs.step {t : ByteArray} {s : Step} {b b' : Bf} {acc its : List Lex.Item} {R : List Lex.Item × Bool} {s' : Step} (h : Runs t s b acc R) (hs : s.isStop = false) (hn : tooLong t b = false) (he : stepF t 30000 s b = some (b', its, some s')) : Runs t s' b' (acc ++ its) R := by
  obtain ⟨k, h⟩ := h
  cases k with
  | zero => cases h
  | succ k =>
    unfold lexF at h
    rw [if_neg (by rw [hs]; decide), if_neg (by rw [hn]; decide), he] at h
    exact ⟨k, h⟩
theorem Runs.bad {t : ByteArray} {s : Step} {b b' : Bf} {acc its : List Lex.Item} {R : List Lex.Item × Bool} (h : Runs t s b acc R) (hs : s.isStop = false) (hn : tooLong t b = false) (he : stepF t 30000 s b = some (b', its, none)) : R = (acc ++ its, false) := by
  obtain ⟨k, h⟩ := h
  cases k with
  | zero => cases h
  | succ k =>
    unfold lexF at h
    rw [if_neg (by rw [hs]; decide), if_neg (by rw [hn]; decide), he] at h
    injection h with h
    exact h.symm
theorem Runs.stop {t : ByteArray} {b : Bf} {acc : List Lex.Item} {R : List Lex.Item × Bool} (h : Runs t .stop b acc R) : R = (acc, true) := by
  obtain ⟨k, h⟩ := h
  cases k with
  | zero => cases h
  | succ k =>
    unfold lexF at h
    rw [if_pos (show Step.isStop .stop = true from rfl)] at h
    injection h with h
    exact h.symm
/-- What of a step was not got is there: the step's answer exists. -/
theorem Runs.some {t : ByteArray} {s : Step} {b : Bf} {acc : List Lex.Item} {R : List Lex.Item × Bool} (h : Runs t s b acc R) (hs : s.isStop = false) (hn : tooLong t b = false) : ∃ q, stepF t 30000 s b = .some q := by
  obtain ⟨k, h⟩ := h
  cases k with
  | zero => cases h
  | succ k =>
    unfold lexF at h
    rw [if_neg (by rw [hs]; decide), if_neg (by rw [hn]; decide)] at h
    cases he : stepF t 30000 s b with
    | none => rw [he] at h; cases h
    | some q => exact ⟨q, rfl⟩
theorem spR_asc : ∀ n < 128, spR n = (decide (9 ≤ n ∧ n ≤ 13) || n == 32) := by decide +kernel
/-- Between lines: no section yet, or in a section. -/
def stM : Option ByteArray → Step
  | none => .sec
  | some s => .soo s
theorem mode_end {t : ByteArray} {M : Option ByteArray} {b : Bf} {acc : List Lex.Item} {R : List Lex.Item × Bool} (h : Runs t (stM M) b acc R) (hi : Inv t.size b) (hd : (T t).drop b.r = []) : R = (acc, true) := by
  have hr := rr_eof hi hd
  have hn : tooLong t b = false := (At.near (x := []) (tail := []) ⟨hi, by rw [hd]; rfl, Nat.zero_le _, .inl rfl⟩)
  cases M with
  | none =>
    have := h.step rfl hn (b' := (rr t b).1) (its := []) (s' := .stop) (by simp only [stM, stepF, secF, hr])
    rw [List.append_nil] at this
    exact this.stop
  | some s =>
    have := h.step rfl hn (b' := (rr t b).1) (its := []) (s' := .stop) (by simp only [stM, stepF, sooF, hr])
    rw [List.append_nil] at this
    exact this.stop
theorem inv_next {t : ByteArray} {b : Bf} (hi : Inv t.size b) : Inv t.size (rr t b).1 := (rr_post hi).1
theorem mode_blank {t : ByteArray} {M : Option ByteArray} {b : Bf} {acc : List Lex.Item} {R : List Lex.Item × Bool} {c : UInt8} {rest : List UInt8} (h : Runs t (stM M) b acc R) (hi : Inv t.size b) (hn : tooLong t b = false) (hd : (T t).drop b.r = c :: rest) (hc : c.toNat = 9 ∨ c.toNat = 10 ∨ c.toNat = 32) :
    ∃ b', Inv t.size b' ∧ (T t).drop b'.r = rest ∧ Runs t (stM M) b' acc R := by
  obtain ⟨r1, r2⟩ := rr_asc hi hd (by omega)
  refine ⟨(rr t b).1, inv_next hi, by rw [r2]; exact (drop_next hd).1, ?_⟩
  have hcom : isCom c.toNat = false := by unfold isCom; rcases hc with e | e | e <;> rw [e] <;> decide
  have hsp : spR c.toNat = true := by rcases hc with e | e | e <;> rw [e] <;> decide +kernel
  cases M with
  | none =>
    have := h.step rfl hn (b' := (rr t b).1) (its := []) (s' := .sec) (by simp only [stM, stepF, secF, r1]; rw [if_neg (by omega), if_neg (by rw [hcom]; decide)])
    rwa [List.append_nil] at this
  | some s =>
    have := h.step rfl hn (b' := (rr t b).1) (its := []) (s' := .soo s) (by simp only [stM, stepF, sooF, r1]; rw [if_pos hsp])
    rwa [List.append_nil] at this
theorem mode_open {t : ByteArray} {M : Option ByteArray} {b : Bf} {acc : List Lex.Item} {R : List Lex.Item × Bool} {c : UInt8} {rest : List UInt8} (h : Runs t (stM M) b acc R) (hi : Inv t.size b) (hn : tooLong t b = false) (hd : (T t).drop b.r = c :: rest) (hc : c.toNat = 91) :
    ∃ b', Inv t.size b' ∧ (T t).drop b'.r = rest ∧ Runs t .name b' acc R := by
  obtain ⟨r1, r2⟩ := rr_asc hi hd (by omega)
  refine ⟨(rr t b).1, inv_next hi, by rw [r2]; exact (drop_next hd).1, ?_⟩
  have hsp : spR c.toNat = false := by rw [hc]; decide +kernel
  cases M with
  | none =>
    have := h.step rfl hn (b' := (rr t b).1) (its := []) (s' := .name) (by simp only [stM, stepF, secF, r1]; rw [if_pos hc])
    rwa [List.append_nil] at this
  | some s =>
    have := h.step rfl hn (b' := (rr t b).1) (its := []) (s' := .name) (by simp only [stM, stepF, sooF, r1]; rw [if_neg (by rw [hsp]; decide), if_pos hc])
    rwa [List.append_nil] at this
theorem mode_com {t : ByteArray} {M : Option ByteArray} {b : Bf} {acc : List Lex.Item} {R : List Lex.Item × Bool} {c : UInt8} {rest : List UInt8} (h : Runs t (stM M) b acc R) (hi : Inv t.size b) (hn : tooLong t b = false) (hd : (T t).drop b.r = c :: rest) (hc : c.toNat = 35 ∨ c.toNat = 59) :
    ∃ b', Inv t.size b' ∧ (T t).drop b'.r = rest ∧ Runs t (.ign (stM M)) b' acc R := by
  obtain ⟨r1, r2⟩ := rr_asc hi hd (by omega)
  refine ⟨(rr t b).1, inv_next hi, by rw [r2]; exact (drop_next hd).1, ?_⟩
  have hcom : isCom c.toNat = true := by unfold isCom; rcases hc with e | e <;> rw [e] <;> decide
  have hsp : spR c.toNat = false := by rcases hc with e | e <;> rw [e] <;> decide +kernel
  cases M with
  | none =>
    have := h.step rfl hn (b' := (rr t b).1) (its := []) (s' := .ign .sec) (by simp only [stM, stepF, secF, r1]; rw [if_neg (by omega), if_pos hcom])
    rwa [List.append_nil] at this
  | some s =>
    have := h.step rfl hn (b' := (rr t b).1) (its := []) (s' := .ign (.soo s)) (by simp only [stM, stepF, sooF, r1]; rw [if_neg (by rw [hsp]; decide), if_neg (by omega), if_pos hcom])
    rwa [List.append_nil] at this
theorem mode_opt {t : ByteArray} {s : ByteArray} {b : Bf} {acc : List Lex.Item} {R : List Lex.Item × Bool} {c : UInt8} {rest : List UInt8} (h : Runs t (.soo s) b acc R) (hi : Inv t.size b) (hn : tooLong t b = false) (hd : (T t).drop b.r = c :: rest) (h1 : 33 ≤ c.toNat) (h2 : c.toNat < 128) (h3 : c.toNat ≠ 91) (h4 : c.toNat ≠ 35) (h5 : c.toNat ≠ 59) :
    ∃ b', Inv t.size b' ∧ (T t).drop b'.r = c :: rest ∧ Runs t (.optn s) b' acc R := by
  obtain ⟨r1, r2⟩ := rr_asc hi hd h2
  have hl : (rr t b).1.last = b.r := (rr_post hi).2.2.1
  refine ⟨⟨(rr t b).1.last, (rr t b).1.w, (rr t b).1.last, (rr t b).1.d⟩, last_inv hi, by show (T t).drop (rr t b).1.last = _; rw [hl]; exact hd, ?_⟩
  have hcom : isCom c.toNat = false := by unfold isCom; simp [h4, h5]
  have hsp : spR c.toNat = false := by rw [spR_asc _ h2]; simp; omega
  have := h.step rfl hn (b' := ⟨(rr t b).1.last, (rr t b).1.w, (rr t b).1.last, (rr t b).1.d⟩) (its := []) (s' := .optn s) (by simp only [stepF, sooF, r1]; rw [if_neg (by rw [hsp]; decide), if_neg h3, if_neg (by rw [hcom]; decide)])
  rwa [List.append_nil] at this
theorem At.more {t : ByteArray} {b b' : Bf} {c : UInt8} {x tail : List UInt8} (h : At t b (c :: x) tail) (hi : Inv t.size b') (hd : (T t).drop b'.r = x ++ tail) : At t b' x tail := ⟨hi, hd, by have := h.len; rw [List.length_cons] at this; omega, h.tl⟩
/-- Blanks ahead of a line's first sign are passed over. -/
theorem mode_blanks {t : ByteArray} {M : Option ByteArray} {acc : List Lex.Item} {R : List Lex.Item × Bool} : ∀ (p x tail : List UInt8) (b : Bf), Runs t (stM M) b acc R → At t b (p ++ x) tail → (∀ c ∈ p, bl c = true) → ∃ b', At t b' x tail ∧ Runs t (stM M) b' acc R
  | [], x, tail, b, h, ha, _ => ⟨b, ha, h⟩
  | c :: p, x, tail, b, h, ha, hp => by
    have hc := hp c List.mem_cons_self
    unfold bl at hc
    simp only [Bool.or_eq_true, beq_iff_eq] at hc
    obtain ⟨b', h1, h2, h3⟩ := mode_blank h ha.inv ha.near (c := c) (rest := (p ++ x) ++ tail) (by rw [ha.eq]; rfl) (by omega)
    exact mode_blanks p x tail b' h3 (ha.more h1 h2) fun c' hc' => hp c' (List.mem_cons_of_mem _ hc')
end Go.Proofs.YtlmmgienbmghmaaDoor.PureS

/- The plain law of the reader of unit files: blanks, lines, and the steps that read lines. -/
set_option linter.unusedVariables false
set_option linter.unusedSimpArgs false
namespace Go.Proofs.YtlmmgienbmghmaaDoor.PureS
open Go.RowKit Go.Proofs.YtlmmgienbmghmaaDoorW.PrintWords Go.Proofs.YtlmmgienbmghmaaDoorW.PrintLast Go.Proofs.YtlmmgienbmghmaaDoorW.PrintMore Go.Proofs.YtlmmgienbmghmaaDoor.Lex Go.Proofs.YtlmmgienbmghmaaDoor.UDoor Go.Proofs.YtlmmgienbmghmaaDoor.DoorU Go.Proofs.YtlmmgienbmghmaaDoor.PureT
/-- A text without blanks at its ends. -/
def trB (l : List UInt8) : List UInt8 := ((l.dropWhile bl).reverse.dropWhile bl).reverse
theorem dw_head (p : UInt8 → Bool) : ∀ (l : List UInt8) (c : UInt8), (l.dropWhile p).head? = some c → p c = false
  | [], c, h => by cases h
  | d :: l, c, h => by
    rw [List.dropWhile_cons] at h
    split at h
    · exact dw_head p l c h
    · rename_i hd
      simp only [List.head?_cons, Option.some.injEq] at h
      subst h
      simpa using hd
theorem tw_all (p : UInt8 → Bool) : ∀ (l : List UInt8), ∀ c ∈ l.takeWhile p, p c = true
  | [], c, h => by cases h
  | d :: l, c, h => by
    rw [List.takeWhile_cons] at h
    split at h
    · rename_i hd
      rcases List.mem_cons.1 h with e | e
      · subst e; exact hd
      · exact tw_all p l c e
    · cases h
theorem dw_nil (p : UInt8 → Bool) : ∀ (l : List UInt8), l.dropWhile p = [] → ∀ c ∈ l, p c = true
  | [], _, c, h => by cases h
  | d :: l, h, c, hc => by
    rw [List.dropWhile_cons] at h
    split at h
    · rename_i hd
      rcases List.mem_cons.1 hc with e | e
      · subst e; exact hd
      · exact dw_nil p l h c e
    · cases h
theorem dw_all (p : UInt8 → Bool) : ∀ (l : List UInt8), (∀ c ∈ l, p c = true) → l.dropWhile p = []
  | [], _ => rfl
  | d :: l, h => by
    rw [List.dropWhile_cons, if_pos (h d List.mem_cons_self)]
    exact dw_all p l fun c hc => h c (List.mem_cons_of_mem _ hc)
/-- A text is blanks, its middle, blanks. -/
structure Mid (x p y q : List UInt8) : Prop where
  eq : x = p ++ (y ++ q)
  p : ∀ c ∈ p, bl c = true
  q : ∀ c ∈ q, bl c = true
  ne : y ≠ []
  hd : ∀ c, y.head? = some c → bl c = false
  lt : ∀ c, y.getLast? = some c → bl c = false
theorem trB_blank {x : List UInt8} (h : ∀ c ∈ x, bl c = true) : trB x = [] := by
  unfold trB
  rw [dw_all bl x h]
  rfl
theorem split_bl (x : List UInt8) : (∀ c ∈ x, bl c = true) ∨ ∃ p q, Mid x p (trB x) q := by
  by_cases h0 : x.dropWhile bl = []
  · exact .inl (dw_nil bl x h0)
  · right
    refine ⟨x.takeWhile bl, ((x.dropWhile bl).reverse.takeWhile bl).reverse, ?_⟩
    have e1 : x = x.takeWhile bl ++ x.dropWhile bl := (List.takeWhile_append_dropWhile ..).symm
    have e2 : x.dropWhile bl = trB x ++ ((x.dropWhile bl).reverse.takeWhile bl).reverse := by
      unfold trB
      rw [← List.reverse_append, List.takeWhile_append_dropWhile, List.reverse_reverse]
    have hne : trB x ≠ [] := by
      intro e
      rw [e, List.nil_append] at e2
      cases hd : x.dropWhile bl with
      | nil => exact h0 hd
      | cons c l =>
        have h1 := dw_head bl x c (by rw [hd]; rfl)
        have h2 : c ∈ ((x.dropWhile bl).reverse.takeWhile bl).reverse := by rw [← e2, hd]; exact List.mem_cons_self
        have h3 := tw_all bl _ c (List.mem_reverse.1 h2)
        rw [h1] at h3
        cases h3
    refine ⟨by rw [← e2]; exact e1, tw_all bl x, fun c hc => tw_all bl _ c (List.mem_reverse.1 hc), hne, fun c hc => ?_, fun c hc => ?_⟩
    · refine dw_head bl x c ?_
      rw [e2, List.head?_append, hc]
      rfl
    · unfold trB at hc
      rw [List.getLast?_reverse] at hc
      exact dw_head bl _ c hc
theorem bl_sp {c : UInt8} (h : bl c = true) : Lib.isSp c = true := by
  unfold bl at h
  simp only [Bool.or_eq_true, beq_iff_eq] at h
  rcases h with h | h
  · rw [show c = 32 from UInt8.toNat_inj.1 h]; rfl
  · rw [show c = 9 from UInt8.toNat_inj.1 h]; rfl
theorem good_sp {c : UInt8} (h : good c = true) (hb : bl c = false) : Lib.isSp c = false ∧ c.toNat < 128 ∧ 33 ≤ c.toNat := by
  unfold good at h
  unfold bl at hb
  simp only [Bool.or_eq_true, Bool.and_eq_true, beq_iff_eq, decide_eq_true_eq, Bool.or_eq_false_iff, beq_eq_false_iff_ne] at h hb
  have h1 : 33 ≤ c.toNat := by omega
  refine ⟨?_, by omega, h1⟩
  unfold Lib.isSp
  have ne : ∀ k : UInt8, k.toNat < 33 → (c == k) = false := fun k hk => by
    rw [beq_eq_false_iff_ne]
    rintro rfl
    omega
  rw [ne 9 (by decide), ne 10 (by decide), ne 11 (by decide), ne 12 (by decide), ne 13 (by decide), ne 32 (by decide)]
  rfl
theorem Mid.places {x p y q : List UInt8} (m : Mid x p y q) : (∀ (j : Nat) b, j < p.length → x[j]? = some b → bl b = true) ∧ (∃ c, x[p.length]? = some c ∧ bl c = false ∧ c ∈ y) ∧ (∃ c, x[p.length + y.length - 1]? = some c ∧ bl c = false ∧ c ∈ y) ∧ (∀ (j : Nat) b, p.length + y.length - 1 < j → x[j]? = some b → bl b = true) ∧ 0 < y.length := by
  have hl : 0 < y.length := List.length_pos_iff.2 m.ne
  rw [m.eq]
  refine ⟨fun j b hj hb => ?_, ?_, ?_, fun j b hj hb => ?_, hl⟩
  · rw [List.getElem?_append_left hj] at hb
    exact m.p b (List.mem_of_getElem? hb)
  · refine ⟨y.head m.ne, ?_, m.hd _ (List.head?_eq_some_head m.ne), List.head_mem m.ne⟩
    rw [List.getElem?_append_right (Nat.le_refl _), Nat.sub_self, List.getElem?_append_left hl, ← List.head?_eq_getElem?]
    exact List.head?_eq_some_head m.ne
  · refine ⟨y.getLast m.ne, ?_, m.lt _ (List.getLast?_eq_some_getLast m.ne), List.getLast_mem m.ne⟩
    rw [List.getElem?_append_right (by omega), List.getElem?_append_left (by omega), show p.length + y.length - 1 - p.length = y.length - 1 by omega, ← List.getLast?_eq_getElem?]
    exact List.getLast?_eq_some_getLast m.ne
  · rw [List.getElem?_append_right (by omega), List.getElem?_append_right (by omega)] at hb
    exact m.q b (List.mem_of_getElem? hb)
theorem trimD_eq {x : List UInt8} (h : ∀ c ∈ x, good c = true) : Lib.trimSpaceD x = trB x := by
  rcases split_bl x with hb | ⟨p, q, m⟩
  · rw [trB_blank hb]
    exact Lib.exit_all x fun j b hj => bl_sp (hb b (List.mem_of_getElem? hj))
  · obtain ⟨y, hy⟩ : ∃ y, trB x = y := ⟨_, rfl⟩
    rw [hy] at m ⊢
    obtain ⟨h1, ⟨c, c1, c2, c3⟩, ⟨d, d1, d2, d3⟩, h4, h5⟩ := m.places
    have hx : x.length = p.length + y.length + q.length := by
      have := congrArg List.length m.eq
      rw [List.length_append, List.length_append] at this
      omega
    have gc := good_sp (h c (List.mem_of_getElem? c1)) c2
    have gd := good_sp (h d (List.mem_of_getElem? d1)) d2
    rw [Lib.exit_cut x p.length (p.length + y.length - 1) (by omega) (by omega) (fun j b hj hb => bl_sp (h1 j b hj hb)) c c1 gc.1 gc.2.1 d d1 gd.1 gd.2.1 (fun j b hj hb => bl_sp (h4 j b hj hb))]
    rw [show p.length + y.length - 1 + 1 - p.length = y.length by omega]
    conv => lhs; rw [m.eq]
    rw [List.drop_left, List.take_left]
theorem getD_some {x : List UInt8} {j : Nat} {c : UInt8} (h : x[j]? = some c) : x.getD j 0 = c := by rw [List.getD_eq_getElem?_getD, h]; rfl
theorem ts_zero {x : List UInt8} (h : ∀ c ∈ x, bl c = true) : tsLen x = 0 := by
  unfold tsLen
  rw [if_pos]
  refine frontN_eq (fun j hj => ?_) (fun hj => absurd hj (Nat.lt_irrefl _)) (Nat.le_refl _)
  rw [List.getD_eq_getElem?_getD, List.getElem?_eq_getElem hj]
  exact bl_sp (h _ (List.getElem_mem hj))
theorem ts_pos {x : List UInt8} (hg : ∀ c ∈ x, good c = true) (h : tsLen x = 0) : ∀ c ∈ x, bl c = true := by
  rcases split_bl x with hb | ⟨p, q, m⟩
  · exact hb
  · exfalso
    obtain ⟨h1, ⟨c, c1, c2, c3⟩, ⟨d, d1, d2, d3⟩, h4, h5⟩ := m.places
    have hx : x.length = p.length + (trB x).length + q.length := by
      have := congrArg List.length m.eq
      rw [List.length_append, List.length_append] at this
      omega
    have gc := good_sp (hg c (List.mem_of_getElem? c1)) c2
    have gd := good_sp (hg d (List.mem_of_getElem? d1)) d2
    have f1 : frontN x = p.length := frontN_eq (fun j hj => by
      have hj' : j < x.length := by omega
      rw [List.getD_eq_getElem?_getD, List.getElem?_eq_getElem hj']
      exact bl_sp (h1 j _ hj (List.getElem?_eq_getElem hj'))) (fun _ => by rw [getD_some c1]; exact gc.1) (by omega)
    have f2 : lastN x = p.length + (trB x).length - 1 := lastN_eq (by omega) (by rw [getD_some d1]; exact gd.1) (fun j j1 j2 => by
      rw [List.getD_eq_getElem?_getD, List.getElem?_eq_getElem j2]
      exact bl_sp (h4 j _ j1 (List.getElem?_eq_getElem j2)))
    unfold tsLen at h
    rw [f1, f2, if_neg (by omega), getD_some c1, getD_some d1, if_neg (by omega), if_neg (by omega)] at h
    omega
theorem suf_iff (l : List UInt8) (c : UInt8) : Lib.hasSuffix l [c] = true ↔ ∃ l', l = l' ++ [c] := by
  unfold Lib.hasSuffix
  rw [List.isSuffixOf_iff_suffix]
  exact ⟨fun ⟨l', h⟩ => ⟨l', h.symm⟩, fun ⟨l', h⟩ => ⟨l', h.symm⟩⟩
theorem suf_no {l : List UInt8} {c : UInt8} (h : c ∉ l) : Lib.hasSuffix l [c] = false := by
  cases e : Lib.hasSuffix l [c] with
  | false => rfl
  | true =>
    obtain ⟨l', rfl⟩ := (suf_iff l c).1 e
    exact absurd (List.mem_append_right l' List.mem_cons_self) h
theorem trimB_no {l : List UInt8} {c : UInt8} (h : Lib.hasSuffix l [c] = false) : trimB c l = l := by unfold trimB; rw [if_neg (by rw [h]; decide)]
theorem trimB_end (l : List UInt8) (c : UInt8) : trimB c (l ++ [c]) = l := by
  unfold trimB
  rw [if_pos ((suf_iff _ _).2 ⟨l, rfl⟩)]
  simp
theorem suf_end (l : List UInt8) {c d : UInt8} (h : c ≠ d) : Lib.hasSuffix (l ++ [d]) [c] = false := by
  cases e : Lib.hasSuffix (l ++ [d]) [c] with
  | false => rfl
  | true =>
    obtain ⟨l', h'⟩ := (suf_iff _ c).1 e
    have := congrArg List.getLast? h'
    simp at this
    exact absurd this.symm h
theorem getD_drop (l : List UInt8) (r j : Nat) : l.getD (r + j) 0 = (l.drop r).getD j 0 := by simp [List.getD_eq_getElem?_getD, List.getElem?_drop]
/-- Up to the first c. -/
theorem rb_to {t : ByteArray} {c : UInt8} {m : Nat} {b b' : Bf} {e : Bool} {x rest : List UInt8} (h : rbN c (T t) m b = some (b', e)) (hi : Inv t.size b) (hd : (T t).drop b.r = x ++ c :: rest) (hx : c ∉ x) :
    e = false ∧ b'.r = b.r + x.length + 1 ∧ Inv t.size b' := by
  have hil : Inv (T t).length b := by rw [len_t]; exact hi
  obtain ⟨p1, p2, p3, p4, p5⟩ := rb_post c (T t) m b b' e hil h
  rw [len_t] at p1 p4 p5
  have hsz : t.size - b.r = x.length + (rest.length + 1) := by rw [← drop_len, hd, List.length_append, List.length_cons]
  have hat : (T t).getD (b.r + x.length) 0 = c := by
    rw [getD_drop, hd, List.getD_eq_getElem?_getD, List.getElem?_append_right (Nat.le_refl _), Nat.sub_self]
    rfl
  have hbef : ∀ j, j < x.length → (T t).getD (b.r + j) 0 ≠ c := by
    intro j hj e
    rw [getD_drop, hd, List.getD_eq_getElem?_getD, List.getElem?_append_left hj, List.getElem?_eq_getElem hj] at e
    have e' : x[j] = c := e
    exact hx (e' ▸ List.getElem_mem hj)
  cases e with
  | true => exact absurd hat ((p4 rfl).2 _ (by omega) (by omega))
  | false =>
    obtain ⟨i, i1, i2, i3, i4, i5⟩ := p5 rfl
    refine ⟨rfl, ?_, p1⟩
    rcases Nat.lt_trichotomy i (b.r + x.length) with hl | hl | hl
    · exact absurd (by rw [show b.r + (i - b.r) = i by omega]; exact i4) (hbef (i - b.r) (by omega))
    · omega
    · exact absurd hat (i5 _ (by omega) hl)
theorem rb_none {t : ByteArray} {c : UInt8} {m : Nat} {b b' : Bf} {e : Bool} (h : rbN c (T t) m b = some (b', e)) (hi : Inv t.size b) (hx : c ∉ (T t).drop b.r) : e = true ∧ b'.r = t.size ∧ Inv t.size b' := by
  have hil : Inv (T t).length b := by rw [len_t]; exact hi
  obtain ⟨p1, p2, p3, p4, p5⟩ := rb_post c (T t) m b b' e hil h
  rw [len_t] at p1 p4 p5
  cases e with
  | true => exact ⟨rfl, (p4 rfl).1, p1⟩
  | false =>
    obtain ⟨i, i1, i2, i3, i4, i5⟩ := p5 rfl
    exfalso
    refine hx ?_
    have : ((T t).drop b.r)[i - b.r]? = some c := by
      rw [List.getElem?_drop, show b.r + (i - b.r) = i by omega, List.getElem?_eq_getElem (by rw [len_t]; exact i3)]
      rw [List.getD_eq_getElem?_getD, List.getElem?_eq_getElem (by rw [len_t]; exact i3)] at i4
      exact congrArg some i4
    exact List.mem_of_getElem? this
theorem drop_more {t : ByteArray} {b : Bf} {x rest : List UInt8} {r : Nat} (hd : (T t).drop b.r = x ++ rest) (hr : r = b.r + x.length) : (T t).drop r = rest := by
  rw [hr, ← List.drop_drop, hd, List.drop_left]
/-- A line is read. -/
theorem read_line {t : ByteArray} {m : Nat} {b b' : Bf} {e : Bool} {x tail : List UInt8} (h : rbN 10 (T t) m b = some (b', e)) (ha : At t b x tail) (h10 : (10 : UInt8) ∉ x) (h13 : (13 : UInt8) ∉ x) :
    Inv t.size b' ∧ lineOf (T t) b b' = x ∧ (T t).drop b'.r = tail.tail := by
  have hsz := ha.sz
  have h1 := ha.inv.ok.rw
  have h2 := ha.inv.ok.wn
  rcases ha.tl with e1 | ⟨rest, e1⟩
  · have hd : (T t).drop b.r = x := by rw [ha.eq, e1, List.append_nil]
    obtain ⟨_, r1, r2⟩ := rb_none h ha.inv (by rw [hd]; exact h10)
    refine ⟨r2, ?_, ?_⟩
    · unfold lineOf
      rw [hd, List.take_of_length_le (by rw [r1]; have h0 : tail.length = 0 := (by rw [e1]; rfl); omega), trimB_no (suf_no h13), trimB_no (suf_no h10)]
    · rw [e1, r1]
      exact List.drop_eq_nil_iff.2 (by rw [len_t]; exact Nat.le_refl _)
  · have hd : (T t).drop b.r = x ++ 10 :: rest := by rw [ha.eq, e1]
    obtain ⟨_, r1, r2⟩ := rb_to h ha.inv hd h10
    refine ⟨r2, ?_, ?_⟩
    · unfold lineOf
      have hc : x ++ 10 :: rest = (x ++ [10]) ++ rest := by simp
      rw [hd, hc, List.take_append_of_le_length (by simp; omega), List.take_of_length_le (by simp; omega), trimB_no (suf_end _ (by decide)), trimB_end]
    · rw [e1]
      exact drop_more (b := b) (x := x ++ [10]) (by rw [hd]; simp) (by rw [r1, List.length_append]; rfl)
end Go.Proofs.YtlmmgienbmghmaaDoor.PureS

/- The plain law of the reader of unit files: what a whole ASCII line does. -/
set_option linter.unusedVariables false
set_option linter.unusedSimpArgs false
namespace Go.Proofs.YtlmmgienbmghmaaDoor.PureS
open Go.RowKit Go.Proofs.YtlmmgienbmghmaaDoorW.PrintWords Go.Proofs.YtlmmgienbmghmaaDoorW.PrintLast Go.Proofs.YtlmmgienbmghmaaDoorW.PrintMore Go.Proofs.YtlmmgienbmghmaaDoor.Lex Go.Proofs.YtlmmgienbmghmaaDoor.UDoor Go.Proofs.YtlmmgienbmghmaaDoor.DoorU Go.Proofs.YtlmmgienbmghmaaDoor.PureT
/-- A text of bytes. -/
def tx (l : List UInt8) : ByteArray := ⟨l.toArray⟩
theorem good_no {x : List UInt8} (h : ∀ c ∈ x, good c = true) : (10 : UInt8) ∉ x ∧ (13 : UInt8) ∉ x := ⟨fun e => by have := h _ e; revert this; decide, fun e => by have := h _ e; revert this; decide⟩
theorem good_lt {c : UInt8} (h : good c = true) : c.toNat < 128 := by
  unfold good at h
  simp only [Bool.or_eq_true, Bool.and_eq_true, beq_iff_eq, decide_eq_true_eq] at h
  omega
/-- The rest of a comment is read. -/
theorem ign_one {l : List UInt8} {m : Nat} {b b' : Bf} : ∀ {n : Nat}, ignN l m n b = some b' → ∃ b1 e, rbN 10 l m b = some (b1, e) ∧ (Lib.hasSuffix (trimB 32 (lineOf l b b1)) [92] = false → b' = b1)
  | 0, h => by unfold ignN at h; cases h
  | n + 1, h => by
    unfold ignN at h
    cases hb : rbN 10 l m b with
    | none => rw [hb] at h; cases h
    | some q =>
      obtain ⟨b1, e⟩ := q
      rw [hb] at h
      refine ⟨b1, e, rfl, fun hs => ?_⟩
      simp only [hs, Bool.false_eq_true, if_false, Option.some.injEq] at h
      exact h.symm
theorem ign_line {t : ByteArray} {s : Step} {b : Bf} {acc : List Lex.Item} {R : List Lex.Item × Bool} {x tail : List UInt8} (h : Runs t (.ign s) b acc R) (ha : At t b x tail) (hg : ∀ c ∈ x, good c = true) (hs : Lib.hasSuffix (trimB 32 x) [92] = false) :
    ∃ b', Inv t.size b' ∧ (T t).drop b'.r = tail.tail ∧ Runs t s b' acc R := by
  obtain ⟨q, hq⟩ := h.some rfl ha.near
  cases hi : ignN (T t) 30000 30000 b with
  | none => unfold stepF at hq; simp only [hi] at hq; cases hq
  | some b1 =>
    obtain ⟨b2, e, h1, h2⟩ := ign_one hi
    obtain ⟨r1, r2, r3⟩ := read_line h1 ha (good_no hg).1 (good_no hg).2
    rw [r2] at h2
    have := h2 hs
    subst this
    have h3 := h.step rfl ha.near (st_ign hi)
    rw [List.append_nil] at h3
    exact ⟨b1, r1, r3, h3⟩
/-- A section's name is read. -/
theorem name_line {t : ByteArray} {b : Bf} {acc : List Lex.Item} {R : List Lex.Item × Bool} {nm q tail : List UInt8} (h : Runs t .name b acc R) (ha : At t b (nm ++ 93 :: q) tail) (hn : (93 : UInt8) ∉ nm) :
    ∃ b', At t b' q tail ∧ Runs t (.suf (tx nm)) b' acc R := by
  obtain ⟨r, hr⟩ := h.some rfl ha.near
  cases hb : rbN 93 (T t) 30000 b with
  | none => unfold stepF at hr; simp only [hb] at hr; cases hr
  | some r2 =>
    obtain ⟨b1, e⟩ := r2
    have hd : (T t).drop b.r = nm ++ 93 :: (q ++ tail) := by rw [ha.eq]; simp
    obtain ⟨rfl, r1, r2⟩ := rb_to hb ha.inv hd hn
    have h3 := h.step rfl ha.near (st_name hb)
    rw [List.append_nil] at h3
    refine ⟨b1, ⟨r2, drop_more (x := nm ++ [93]) (by rw [hd]; simp) (by rw [r1, List.length_append]; rfl), by have := ha.len; simp only [List.length_append, List.length_cons] at this; omega, ha.tl⟩, ?_⟩
    have hs : secName (T t) b b1 = tx nm := by
      unfold secName tx
      rw [hd, show b1.r - b.r = nm.length + 1 by omega, List.take_take, Nat.add_sub_cancel, Nat.min_eq_left (by omega), List.take_left]
    rw [hs] at h3
    exact h3
/-- What follows a section's name. -/
theorem suf_line {t s : ByteArray} {b : Bf} {acc : List Lex.Item} {R : List Lex.Item × Bool} {q tail : List UInt8} (h : Runs t (.suf s) b acc R) (ha : At t b q tail) (hq : ∀ c ∈ q, bl c = true) :
    ∃ b', Inv t.size b' ∧ (T t).drop b'.r = tail.tail ∧ Runs t (.soo s) b' (acc ++ [.sec s]) R := by
  obtain ⟨r, hr⟩ := h.some rfl ha.near
  cases hb : rbN 10 (T t) 30000 b with
  | none => unfold stepF at hr; simp only [hb] at hr; cases hr
  | some r2 =>
    obtain ⟨b1, e⟩ := r2
    have hno : (10 : UInt8) ∉ q ∧ (13 : UInt8) ∉ q := ⟨fun e => by have := hq _ e; revert this; decide, fun e => by have := hq _ e; revert this; decide⟩
    obtain ⟨r1, r2, r3⟩ := read_line hb ha hno.1 hno.2
    have hst := st_suf (s := s) hb
    unfold sufIts sufStep at hst
    rw [r2, if_pos (ts_zero hq), if_pos (ts_zero hq)] at hst
    exact ⟨b1, r1, r3, h.step rfl ha.near hst⟩
theorem encode_asc (c : UInt8) (h : c.toNat < 128) : Utf8.encode (c.toNat : Int) = tx [c] := by
  have : ∀ n < 128, Utf8.encode ((n : Nat) : Int) = tx [UInt8.ofNat n] := by decide +kernel
  rw [this _ h]
  simp [tx]
theorem tx_snoc (a : ByteArray) (l : List UInt8) : a ++ tx l = ⟨(a.data.toList ++ l).toArray⟩ := by
  apply ByteArray.ext
  rw [ByteArray.data_append]
  simp [tx]
theorem optN_asc {t : ByteArray} {b' : Bf} {nm : ByteArray} {en : NameEnd} : ∀ (y : List UInt8) (k : Nat) (b : Bf) (a : ByteArray) (tail : List UInt8), At t b y tail → (∀ c ∈ y, good c = true) → optN t k b a = some (b', en, nm) →
    (∀ n1 v, y = n1 ++ 61 :: v → (61 : UInt8) ∉ n1 → en = .ok ∧ nm = a ++ tx n1 ∧ At t b' v tail) ∧ ((61 : UInt8) ∉ y → en ≠ .ok)
  | _, 0, b, a, tail, _, _, h => by unfold optN at h; cases h
  | [], k + 1, b, a, tail, ha, hg, h => by
    refine ⟨fun n1 v e => by simp at e, fun _ => ?_⟩
    unfold optN at h
    rcases ha.tl with e1 | ⟨rest, e1⟩
    · rw [rr_eof ha.inv (by rw [ha.eq, e1]; rfl)] at h
      simp only [Option.some.injEq, Prod.mk.injEq] at h
      rw [← h.2.1]
      simp
    · rw [(rr_asc ha.inv (by rw [ha.eq, e1]; rfl) (by decide)).1] at h
      simp only at h
      rw [if_pos (.inl rfl)] at h
      simp only [Option.some.injEq, Prod.mk.injEq] at h
      rw [← h.2.1]
      simp
  | c :: y, k + 1, b, a, tail, ha, hg, h => by
    have gc := hg c List.mem_cons_self
    have hc := good_lt gc
    have hd : (T t).drop b.r = c :: (y ++ tail) := ha.eq
    obtain ⟨r1, r2⟩ := rr_asc ha.inv hd hc
    have hno : ¬ (c.toNat = 10 ∨ c.toNat = 13) := by
      unfold good at gc
      simp only [Bool.or_eq_true, Bool.and_eq_true, beq_iff_eq, decide_eq_true_eq] at gc
      omega
    have hm : At t (rr t b).1 y tail := ha.more (inv_next ha.inv) (by rw [r2]; exact (drop_next hd).1)
    unfold optN at h
    rw [r1] at h
    simp only at h
    rw [if_neg hno] at h
    by_cases h61 : c.toNat = 61
    · have hc61 : c = 61 := UInt8.toNat_inj.1 h61
      rw [if_pos h61] at h
      simp only [Option.some.injEq, Prod.mk.injEq] at h
      obtain ⟨rfl, rfl, rfl⟩ := h
      refine ⟨fun n1 v e hn => ?_, fun hn => absurd (by rw [hc61]; exact List.mem_cons_self) hn⟩
      cases n1 with
      | nil =>
        simp only [List.nil_append, List.cons.injEq] at e
        refine ⟨rfl, ?_, by rw [← e.2]; exact hm⟩
        rw [tx_snoc, List.append_nil]
      | cons d n1 =>
        simp only [List.cons_append, List.cons.injEq] at e
        exact absurd (by rw [← e.1, hc61]; exact List.mem_cons_self) hn
    · rw [if_neg h61, encode_asc c hc] at h
      obtain ⟨i1, i2⟩ := optN_asc y k (rr t b).1 (a ++ tx [c]) tail hm (fun c' hc' => hg c' (List.mem_cons_of_mem _ hc')) h
      refine ⟨fun n1 v e hn => ?_, fun hn => i2 fun e => hn (List.mem_cons_of_mem _ e)⟩
      cases n1 with
      | nil =>
        simp only [List.nil_append, List.cons.injEq] at e
        exact absurd (by rw [e.1]; rfl) h61
      | cons d n1 =>
        simp only [List.cons_append, List.cons.injEq] at e
        obtain ⟨j1, j2, j3⟩ := i1 n1 v e.2 fun e => hn (List.mem_cons_of_mem _ e)
        refine ⟨j1, ?_, j3⟩
        rw [j2, ← e.1, ByteArray.append_assoc, tx_snoc (tx [c]) n1]
        rfl
/-- An option's name is read. -/
theorem optn_line {t s : ByteArray} {b : Bf} {acc : List Lex.Item} {R : List Lex.Item × Bool} {n1 v tail : List UInt8} (h : Runs t (.optn s) b acc R) (ha : At t b (n1 ++ 61 :: v) tail) (hg : ∀ c ∈ n1 ++ 61 :: v, good c = true) (hn : (61 : UInt8) ∉ n1) :
    ∃ b', At t b' v tail ∧ Runs t (.optv s (tx (trB n1)) ByteArray.empty) b' acc R := by
  obtain ⟨r, hr⟩ := h.some rfl ha.near
  cases hb : optN t 30000 b ByteArray.empty with
  | none => unfold stepF at hr; simp only [hb] at hr; cases hr
  | some q =>
    obtain ⟨b1, en, nm⟩ := q
    obtain ⟨rfl, rfl, h3⟩ := (optN_asc _ _ _ _ _ ha hg hb).1 n1 v rfl hn
    have h4 := h.step rfl ha.near (st_optn (s := s) hb)
    rw [List.append_nil] at h4
    refine ⟨b1, h3, ?_⟩
    have : trimV (ByteArray.empty ++ tx n1) = tx (trB n1) := by
      rw [tx_snoc]
      unfold trimV tx
      rw [show (⟨(ByteArray.empty.data.toList ++ n1).toArray⟩ : ByteArray).data.toList = n1 from by simp, trimD_eq fun c hc => hg c (List.mem_append_left _ hc)]
    rw [this] at h4
    exact h4
theorem optn_bad {t s : ByteArray} {b : Bf} {acc : List Lex.Item} {R : List Lex.Item × Bool} {y tail : List UInt8} (h : Runs t (.optn s) b acc R) (ha : At t b y tail) (hg : ∀ c ∈ y, good c = true) (hn : (61 : UInt8) ∉ y) : R = (acc, false) := by
  obtain ⟨r, hr⟩ := h.some rfl ha.near
  cases hb : optN t 30000 b ByteArray.empty with
  | none => unfold stepF at hr; simp only [hb] at hr; cases hr
  | some q =>
    obtain ⟨b1, en, nm⟩ := q
    have h3 := (optN_asc _ _ _ _ _ ha hg hb).2 hn
    have hst := st_optn (s := s) hb
    have : optnStep s en nm = none := by
      cases en with
      | ok => exact absurd rfl h3
      | eof => rfl
      | bad => rfl
    rw [this] at hst
    have := h.bad rfl ha.near hst
    rwa [List.append_nil] at this
theorem trimV_tx {v : List UInt8} (hg : ∀ c ∈ v, good c = true) : trimV (tx v) = tx (trB v) := by
  unfold trimV
  rw [show (tx v).data.toList = v from by simp [tx], trimD_eq hg]
  rfl
/-- An option's value is read. -/
theorem optv_line {t s n : ByteArray} {b : Bf} {acc : List Lex.Item} {R : List Lex.Item × Bool} {v tail : List UInt8} (h : Runs t (.optv s n ByteArray.empty) b acc R) (ha : At t b v tail) (hg : ∀ c ∈ v, good c = true) (hs : Lib.hasSuffix v [92] = false) :
    ∃ b', Inv t.size b' ∧ (T t).drop b'.r = tail.tail ∧ Runs t (.soo s) b' (acc ++ [.opt s n (tx (trB v))]) R := by
  obtain ⟨r, hr⟩ := h.some rfl ha.near
  cases hb : rbN 10 (T t) 30000 b with
  | none => unfold stepF at hr; simp only [hb] at hr; cases hr
  | some r2 =>
    obtain ⟨b1, e⟩ := r2
    obtain ⟨r1, r2, r3⟩ := read_line hb ha (good_no hg).1 (good_no hg).2
    have hst := st_optv (s := s) (n := n) (d := ByteArray.empty) hb
    unfold optvR at hst
    rw [r2] at hst
    refine ⟨b1, r1, r3, ?_⟩
    have hv0 : trimV ByteArray.empty = tx [] := by decide +kernel
    by_cases h0 : tsLen v = 0
    · rw [if_pos h0] at hst
      have := h.step rfl ha.near hst
      have h1 : Lex.valOf ByteArray.empty = tx (trB v) := by
        unfold Lex.valOf
        rw [if_neg (by decide), hv0, trB_blank (ts_pos hg h0)]
      rw [h1] at this
      exact this
    · rw [if_neg h0, if_neg (by rw [hs]; decide)] at hst
      have := h.step rfl ha.near hst
      have h1 : Lex.valOf (ByteArray.empty ++ ⟨v.toArray⟩) = tx (trB v) := by
        have h2 : ByteArray.empty ++ (⟨v.toArray⟩ : ByteArray) = tx v := by
          show ByteArray.empty ++ tx v = tx v
          rw [tx_snoc]
          simp [tx]
        rw [h2]
        unfold Lex.valOf
        rw [if_neg (by rw [show (tx v).data.toList = v from by simp [tx], suf_no (good_no hg).1]; decide), trimV_tx hg]
      rw [h1] at this
      exact this
end Go.Proofs.YtlmmgienbmghmaaDoor.PureS

/- The plain law of the reader of unit files: lines, and a text of lines. -/
set_option linter.unusedVariables false
set_option linter.unusedSimpArgs false
namespace Go.Proofs.YtlmmgienbmghmaaDoor.PureS
open Go.RowKit Go.Proofs.YtlmmgienbmghmaaDoorW.PrintWords Go.Proofs.YtlmmgienbmghmaaDoorW.PrintLast Go.Proofs.YtlmmgienbmghmaaDoorW.PrintMore Go.Proofs.YtlmmgienbmghmaaDoor.Lex Go.Proofs.YtlmmgienbmghmaaDoor.UDoor Go.Proofs.YtlmmgienbmghmaaDoor.DoorU Go.Proofs.YtlmmgienbmghmaaDoor.PureT
/-- What a line says: it is left open, it says nothing, it is a section, it lacks an equals sign, it is an option. -/
inductive LineR where
  | opn
  | skip
  | sec (nm : List UInt8)
  | noeq
  | opt (n v : List UInt8)
  deriving DecidableEq
def lastB (l : List UInt8) : UInt8 := l.getD (l.length - 1) 0
def secOk (l : List UInt8) : Bool := (l.all fun c => decide (32 < c.toNat) && decide (c.toNat < 127) && c != 91 && c != 93) && !l.isEmpty
def nameOk (l : List UInt8) : Bool := (l.all fun c => decide (32 < c.toNat) && decide (c.toNat < 127) && c != 61 && c != 92) && !l.isEmpty && l.getD 0 0 != 35 && l.getD 0 0 != 59 && l.getD 0 0 != 91
def eqAt : List UInt8 → Option (List UInt8 × List UInt8)
  | [] => none
  | c :: l => if c = 61 then some ([], l) else (eqAt l).map fun q => (c :: q.1, q.2)
def lineR (has : Bool) (x : List UInt8) : LineR :=
  if x.all good = false then .opn
  else if trB x = [] then (if x = [] then .skip else .opn)
  else if lastB x = 92 ∨ (bl (x.getD 0 0) = true ∧ ((trB x).getD 0 0 = 35 ∨ (trB x).getD 0 0 = 59)) then .opn
  else if lastB (trB x) = 92 then .opn
  else if (trB x).getD 0 0 = 35 ∨ (trB x).getD 0 0 = 59 then .skip
  else if (trB x).getD 0 0 = 91 then (if lastB (trB x) = 93 ∧ secOk ((trB x).drop 1).dropLast = true then .sec ((trB x).drop 1).dropLast else .opn)
  else if has = false then .opn
  else match eqAt (trB x) with
    | none => .noeq
    | some (n, v) => if nameOk (trB n) = true then .opt (trB n) (trB v) else .opn
theorem eqAt_none : ∀ l : List UInt8, eqAt l = none → (61 : UInt8) ∉ l
  | [], _, h => by cases h
  | c :: l, h, hm => by
    unfold eqAt at h
    split at h
    · cases h
    · rename_i hc
      rcases List.mem_cons.1 hm with e | e
      · exact hc e.symm
      · refine eqAt_none l ?_ e
        cases he : eqAt l with
        | none => rfl
        | some q => rw [he] at h; cases h
theorem eqAt_some : ∀ (l n v : List UInt8), eqAt l = some (n, v) → l = n ++ 61 :: v ∧ (61 : UInt8) ∉ n
  | [], _, _, h => by cases h
  | c :: l, n, v, h => by
    unfold eqAt at h
    split at h
    · rename_i hc
      injection h with h
      injection h with h1 h2
      subst h1 h2
      exact ⟨by rw [hc]; rfl, fun e => by cases e⟩
    · rename_i hc
      cases he : eqAt l with
      | none => rw [he] at h; cases h
      | some q =>
        rw [he] at h
        injection h with h
        injection h with h1 h2
        obtain ⟨i1, i2⟩ := eqAt_some l q.1 q.2 (by rw [he])
        subst h1 h2
        refine ⟨by rw [List.cons_append, ← i1], fun e => ?_⟩
        rcases List.mem_cons.1 e with e | e
        · exact hc e.symm
        · exact i2 e
theorem lastB_cat {l : List UInt8} {c : UInt8} : lastB (l ++ [c]) = c := by simp [lastB]
theorem last_split {l : List UInt8} (h : l ≠ []) : l = l.dropLast ++ [lastB l] := by
  conv => lhs; rw [← List.dropLast_concat_getLast h]
  congr 2
  unfold lastB
  have := List.length_pos_iff.2 h
  rw [List.getD_eq_getElem?_getD, List.getElem?_eq_getElem (by omega), List.getLast_eq_getElem]
  rfl
theorem lastB_mem {l : List UInt8} (h : l ≠ []) : lastB l ∈ l := by
  have h1 : lastB l ∈ l.dropLast ++ [lastB l] := List.mem_append_right _ List.mem_cons_self
  rw [← last_split h] at h1
  exact h1
theorem noBS {y q : List UInt8} (hq : ∀ c ∈ q, bl c = true) (hy : y = [] ∨ lastB y ≠ 92) : Lib.hasSuffix (y ++ q) [92] = false := by
  cases e : Lib.hasSuffix (y ++ q) [92] with
  | false => rfl
  | true =>
    exfalso
    obtain ⟨l', h⟩ := (suf_iff _ _).1 e
    by_cases h0 : q = []
    · rw [h0, List.append_nil] at h
      rcases hy with h1 | h1
      · rw [h1] at h; simp at h
      · rw [h, lastB_cat] at h1; exact h1 rfl
    · rw [last_split h0, ← List.append_assoc] at h
      have h2 := (List.append_inj' h rfl).2
      simp only [List.cons.injEq, and_true] at h2
      have h3 := hq (lastB q) (lastB_mem h0)
      rw [h2] at h3
      revert h3
      decide
/-- Behind a comment's first sign nothing goes on. -/
theorem com_ok {y q : List UInt8} (hq : ∀ c ∈ q, bl c = true) (hy : y = [] ∨ (lastB y ≠ 92 ∧ bl (lastB y) = false)) : Lib.hasSuffix (trimB 32 (y ++ q)) [92] = false := by
  have h0 := noBS hq (y := y) (hy.imp id And.left)
  cases e : Lib.hasSuffix (y ++ q) [32] with
  | false => rw [trimB_no e]; exact h0
  | true =>
    obtain ⟨l', h⟩ := (suf_iff _ _).1 e
    rw [h, trimB_end]
    by_cases hq0 : q = []
    · rw [hq0, List.append_nil] at h
      rcases hy with h1 | h1
      · rw [h1] at h; simp at h
      · rw [h, lastB_cat] at h1
        exact absurd h1.2 (by decide)
    · have hs := last_split hq0
      rw [hs, ← List.append_assoc] at h
      have h2 := (List.append_inj' h rfl).1
      rw [← h2]
      exact noBS (fun c hc => hq c (by rw [hs]; exact List.mem_append_left _ hc)) (hy.imp id And.left)
theorem trB_right {v q : List UInt8} (hq : ∀ c ∈ q, bl c = true) : trB (v ++ q) = trB v := by
  unfold trB
  rw [List.dropWhile_append]
  split
  · rename_i h
    rw [List.isEmpty_iff.1 h, dw_all bl q hq]
  · rw [List.reverse_append, List.dropWhile_append, dw_all bl q.reverse fun c hc => hq c (List.mem_reverse.1 hc)]
    rw [if_pos (show ([] : List UInt8).isEmpty = true from rfl)]
/-- The lexer is behind the line. -/
def Next (t : ByteArray) (M : Option ByteArray) (acc : List Lex.Item) (R : List Lex.Item × Bool) (tail : List UInt8) : Prop := ∃ b', Inv t.size b' ∧ (T t).drop b'.r = tail.tail ∧ Runs t (stM M) b' acc R
theorem line_sim {t : ByteArray} {M : Option ByteArray} {b : Bf} {acc : List Lex.Item} {R : List Lex.Item × Bool} {x tail : List UInt8} (h : Runs t (stM M) b acc R) (ha : At t b x tail) :
    match lineR M.isSome x with
    | .opn => True
    | .skip => Next t M acc R tail
    | .sec nm => Next t (some (tx nm)) (acc ++ [.sec (tx nm)]) R tail
    | .noeq => R = (acc, false)
    | .opt n v => ∃ s, M = some s ∧ Next t M (acc ++ [.opt s (tx n) (tx v)]) R tail := by
  by_cases hg0 : x.all good = false
  · have : lineR M.isSome x = .opn := by unfold lineR; rw [if_pos hg0]
    rw [this]; trivial
  have hg : ∀ c ∈ x, good c = true := by
    have : x.all good = true := by simpa using hg0
    exact List.all_eq_true.1 this
  by_cases h0 : trB x = []
  · by_cases hx : x = []
    · have : lineR M.isSome x = .skip := by unfold lineR; rw [if_neg hg0, if_pos h0, if_pos hx]
      rw [this]
      subst hx
      rcases ha.tl with e | ⟨rest, e⟩
      · exact ⟨b, ha.inv, by rw [ha.eq, e]; rfl, h⟩
      · obtain ⟨b', i1, i2, i3⟩ := mode_blank h ha.inv ha.near (c := 10) (rest := rest) (by rw [ha.eq, e]; rfl) (.inr (.inl rfl))
        exact ⟨b', i1, by rw [i2, e]; rfl, i3⟩
    · have : lineR M.isSome x = .opn := by unfold lineR; rw [if_neg hg0, if_pos h0, if_neg hx]
      rw [this]; trivial
  by_cases hop : lastB x = 92 ∨ (bl (x.getD 0 0) = true ∧ ((trB x).getD 0 0 = 35 ∨ (trB x).getD 0 0 = 59))
  · have : lineR M.isSome x = .opn := by unfold lineR; rw [if_neg hg0, if_neg h0, if_pos hop]
    rw [this]; trivial
  by_cases hbs : lastB (trB x) = 92
  · have : lineR M.isSome x = .opn := by unfold lineR; rw [if_neg hg0, if_neg h0, if_neg hop, if_pos hbs]
    rw [this]; trivial
  have hE : lineR M.isSome x = if (trB x).getD 0 0 = 35 ∨ (trB x).getD 0 0 = 59 then .skip
      else if (trB x).getD 0 0 = 91 then (if lastB (trB x) = 93 ∧ secOk ((trB x).drop 1).dropLast = true then .sec ((trB x).drop 1).dropLast else .opn)
      else if M.isSome = false then .opn
      else match eqAt (trB x) with
        | none => .noeq
        | some (n, v) => if nameOk (trB n) = true then .opt (trB n) (trB v) else .opn := by
    unfold lineR
    rw [if_neg hg0, if_neg h0, if_neg hop, if_neg hbs]
  rw [hE]
  clear hE
  obtain ⟨p, q, m⟩ : ∃ p q, Mid x p (trB x) q := by
    rcases split_bl x with hb | hm
    · exact absurd (trB_blank hb) h0
    · exact hm
  obtain ⟨y, hy⟩ : ∃ y, trB x = y := ⟨_, rfl⟩
  rw [hy] at m h0 hbs ⊢
  rw [m.eq] at ha
  obtain ⟨b1, ha1, h1⟩ := mode_blanks p (y ++ q) tail b h ha m.p
  have hgy : ∀ c ∈ y, good c = true := fun c hc => hg c (by rw [m.eq]; exact List.mem_append_right _ (List.mem_append_left _ hc))
  have hgq : ∀ c ∈ q, good c = true := fun c hc => hg c (by rw [m.eq]; exact List.mem_append_right _ (List.mem_append_right _ hc))
  obtain ⟨c0, y', rfl⟩ : ∃ c0 y', y = c0 :: y' := by
    cases y with
    | nil => exact absurd rfl h0
    | cons c0 y' => exact ⟨c0, y', rfl⟩
  have hc0 : (c0 :: y').getD 0 0 = c0 := rfl
  rw [hc0]
  have hb0 : bl c0 = false := m.hd c0 rfl
  have g0 := hgy c0 List.mem_cons_self
  have gs := good_sp g0 hb0
  have hd1 : (T t).drop b1.r = c0 :: (y' ++ q ++ tail) := by rw [ha1.eq]; simp
  have hlast : y' = [] ∨ lastB y' = lastB (c0 :: y') := by
    by_cases e : y' = []
    · exact .inl e
    · right
      have h2 := last_split e
      conv => rhs; rw [h2, ← List.cons_append, lastB_cat]
  have hblast : bl (lastB (c0 :: y')) = false := by
    have h2 := last_split (List.cons_ne_nil c0 y')
    refine m.lt _ ?_
    conv => lhs; rw [h2]
    simp
  have ha2 : ∀ b2, Inv t.size b2 → (T t).drop b2.r = y' ++ q ++ tail → At t b2 (y' ++ q) tail := fun b2 i1 i2 => ⟨i1, i2, by have := ha1.len; simp only [List.length_append, List.length_cons] at this ⊢; omega, ha1.tl⟩
  by_cases hcom : c0 = 35 ∨ c0 = 59
  · rw [if_pos hcom]
    obtain ⟨b2, i1, i2, i3⟩ := mode_com h1 ha1.inv ha1.near hd1 (by rcases hcom with rfl | rfl; exact .inl rfl; exact .inr rfl)
    obtain ⟨b3, j1, j2, j3⟩ := ign_line i3 (ha2 b2 i1 i2) (fun c hc => (List.mem_append.1 hc).elim (fun e => hgy c (List.mem_cons_of_mem _ e)) (hgq c)) (com_ok m.q (by
      rcases hlast with e | e
      · exact .inl e
      · exact .inr ⟨by rw [e]; exact hbs, by rw [e]; exact hblast⟩))
    exact ⟨b3, j1, j2, j3⟩
  rw [if_neg hcom]
  by_cases hsec : c0 = 91
  · rw [if_pos hsec]
    by_cases hok : lastB (c0 :: y') = 93 ∧ secOk ((c0 :: y').drop 1).dropLast = true
    · rw [if_pos hok]
      obtain ⟨h93, hso⟩ := hok
      have hy' : y' = y'.dropLast ++ [93] := by
        rcases hlast with e | e
        · exfalso
          rw [e] at h93
          rw [hsec] at h93
          exact absurd h93 (by decide)
        · have hne : y' ≠ [] := by
            rintro rfl
            rw [hsec] at h93
            exact absurd h93 (by decide)
          have h2 := last_split hne
          rw [e, h93] at h2
          exact h2
      obtain ⟨b2, i1, i2, i3⟩ := mode_open h1 ha1.inv ha1.near hd1 (by rw [hsec]; rfl)
      have hno : (93 : UInt8) ∉ y'.dropLast := by
        intro e
        unfold secOk at hso
        have h3 := (Bool.and_eq_true _ _ ▸ hso).1
        have h4 := List.all_eq_true.1 h3 93 e
        revert h4
        decide
      have ha3 : At t b2 (y'.dropLast ++ 93 :: q) tail := by
        have := ha2 b2 i1 i2
        rw [hy'] at this
        simpa using this
      obtain ⟨b3, j1, j2⟩ := name_line i3 ha3 hno
      obtain ⟨b4, k1, k2, k3⟩ := suf_line j2 j1 m.q
      exact ⟨b4, k1, k2, k3⟩
    · rw [if_neg hok]; trivial
  rw [if_neg hsec]
  cases M with
  | none => trivial
  | some s =>
    rw [if_neg (by simp)]
    have hn : ∀ k : UInt8, c0 ≠ k → c0.toNat ≠ k.toNat := fun k hk e => hk (UInt8.toNat_inj.1 e)
    obtain ⟨b2, i1, i2, i3⟩ := mode_opt h1 ha1.inv ha1.near hd1 gs.2.2 gs.2.1 (hn 91 hsec) (hn 35 fun e => hcom (.inl e)) (hn 59 fun e => hcom (.inr e))
    have ha3 : At t b2 ((c0 :: y') ++ q) tail := ⟨i1, by rw [i2]; simp, ha1.len, ha1.tl⟩
    have hgyq : ∀ c ∈ (c0 :: y') ++ q, good c = true := fun c hc => (List.mem_append.1 hc).elim (hgy c) (hgq c)
    cases he : eqAt (c0 :: y') with
    | none =>
      exact optn_bad i3 ha3 hgyq fun e => (List.mem_append.1 e).elim (eqAt_none _ he) (fun e2 => by have := m.q _ e2; revert this; decide)
    | some nv =>
      obtain ⟨n, v⟩ := nv
      obtain ⟨e1, e2⟩ := eqAt_some _ _ _ he
      simp only
      by_cases hok : nameOk (trB n) = true
      · rw [if_pos hok]
        have e3 : (c0 :: y') ++ q = n ++ 61 :: (v ++ q) := by rw [e1]; simp
        rw [e3] at ha3 hgyq
        obtain ⟨b3, j1, j2⟩ := optn_line i3 ha3 hgyq e2
        have hvl : v = [] ∨ lastB v ≠ 92 := by
          by_cases e : v = []
          · exact .inl e
          · right
            have h2 := last_split e
            have h3 : lastB (c0 :: y') = lastB v := by
              rw [e1, h2, ← List.cons_append, ← List.append_assoc, lastB_cat, lastB_cat]
            rw [← h3]
            exact hbs
        obtain ⟨b4, k1, k2, k3⟩ := optv_line j2 j1 (fun c hc => hgyq c (List.mem_append_right _ (List.mem_cons_of_mem _ hc))) (noBS m.q hvl)
        rw [trB_right m.q] at k3
        exact ⟨s, rfl, b4, k1, k2, k3⟩
      · rw [if_neg hok]; trivial
end Go.Proofs.YtlmmgienbmghmaaDoor.PureS

/- The plain law of the reader of unit files: a text, line by line. -/
set_option linter.unusedVariables false
set_option linter.unusedSimpArgs false
namespace Go.Proofs.YtlmmgienbmghmaaDoor.PureS
open Go.RowKit Go.Proofs.YtlmmgienbmghmaaDoorW.PrintWords Go.Proofs.YtlmmgienbmghmaaDoorW.PrintLast Go.Proofs.YtlmmgienbmghmaaDoorW.PrintMore Go.Proofs.YtlmmgienbmghmaaDoor.Lex Go.Proofs.YtlmmgienbmghmaaDoor.UDoor Go.Proofs.YtlmmgienbmghmaaDoor.DoorU Go.Proofs.YtlmmgienbmghmaaDoor.PureT
/-- The lines of a text, the last one also without its line feed. -/
def cutL : List UInt8 → List UInt8 → List (List UInt8)
  | cur, [] => if cur = [] then [] else [cur]
  | cur, c :: l => if c = 10 then cur :: cutL [] l else cutL (cur ++ [c]) l
def lines (l : List UInt8) : List (List UInt8) := cutL [] l
theorem cutL_next : ∀ (x cur tail : List UInt8), (10 : UInt8) ∉ x → (∃ rest, tail = 10 :: rest) → cutL cur (x ++ tail) = (cur ++ x) :: lines tail.tail
  | [], cur, tail, _, ⟨rest, e⟩ => by
    subst e
    rw [List.nil_append, cutL, if_pos rfl, List.append_nil]
    rfl
  | c :: x, cur, tail, hx, ht => by
    rw [List.cons_append, cutL, if_neg (fun e => hx (by rw [e]; exact List.mem_cons_self)), cutL_next x (cur ++ [c]) tail (fun e => hx (List.mem_cons_of_mem _ e)) ht, List.append_assoc]
    rfl
theorem cutL_end : ∀ (x cur : List UInt8), (10 : UInt8) ∉ x → cur ++ x ≠ [] → cutL cur x = [cur ++ x]
  | [], cur, _, h => by
    rw [List.append_nil] at h ⊢
    rw [cutL, if_neg h]
  | c :: x, cur, hx, h => by
    rw [cutL, if_neg (fun e => hx (by rw [e]; exact List.mem_cons_self)), cutL_end x (cur ++ [c]) (fun e => hx (List.mem_cons_of_mem _ e)) (by simp), List.append_assoc]
    rfl
theorem line_of : ∀ l : List UInt8, ∃ x tail, l = x ++ tail ∧ (10 : UInt8) ∉ x ∧ (tail = [] ∨ ∃ rest, tail = 10 :: rest)
  | [] => ⟨[], [], rfl, (fun e => by cases e), .inl rfl⟩
  | c :: l => by
    by_cases hc : c = 10
    · exact ⟨[], c :: l, rfl, (fun e => by cases e), .inr ⟨l, by rw [hc]⟩⟩
    · obtain ⟨x, tail, h1, h2, h3⟩ := line_of l
      exact ⟨c :: x, tail, by rw [h1]; rfl, fun e => (List.mem_cons.1 e).elim (fun e => hc e.symm) h2, h3⟩
theorem lines_cons {l : List UInt8} (h : l ≠ []) : ∃ x tail, l = x ++ tail ∧ (10 : UInt8) ∉ x ∧ (tail = [] ∨ ∃ rest, tail = 10 :: rest) ∧ lines l = x :: lines tail.tail ∧ tail.tail.length < l.length := by
  obtain ⟨x, tail, h1, h2, h3⟩ := line_of l
  refine ⟨x, tail, h1, h2, h3, ?_, ?_⟩
  · rcases h3 with e | e
    · rw [h1, e, List.append_nil]
      have hx : x ≠ [] := by rintro rfl; rw [e] at h1; exact h h1
      have := cutL_end x [] h2 (by simpa using hx)
      rw [List.nil_append] at this
      exact this
    · rw [h1]
      exact cutL_next x [] tail h2 e
  · have := List.length_pos_iff.2 h
    have e := congrArg List.length h1
    rw [List.length_append] at e
    rw [List.length_tail]
    omega
/-- An option: its section, its name, its value. -/
abbrev O3 := List UInt8 × List UInt8 × List UInt8
/-- What the lines say, in order; told: 1 they say it, 2 they leave it open. -/
def parseL (lim : Nat) : Option (List UInt8) → List (List UInt8) → List O3 → List O3 × Bool × Int
  | _, [], out => (out, true, 1)
  | M, x :: L, out =>
    if lim < x.length then ([], false, 2)
    else match lineR M.isSome x with
      | .opn => ([], false, 2)
      | .skip => parseL lim M L out
      | .sec nm => parseL lim (some nm) L out
      | .noeq => ([], false, 1)
      | .opt n v => parseL lim M L (out ++ [(M.getD [], n, v)])
def tx3 (o : O3) : ByteArray × ByteArray × ByteArray := (tx o.1, tx o.2.1, tx o.2.2)
/-- The options among what was found. -/
def optsOf : List Lex.Item → List (ByteArray × ByteArray × ByteArray)
  | [] => []
  | .sec _ :: l => optsOf l
  | .opt s n v :: l => (s, n, v) :: optsOf l
theorem optsOf_append : ∀ (a b : List Lex.Item), optsOf (a ++ b) = optsOf a ++ optsOf b
  | [], b => rfl
  | .sec _ :: l, b => optsOf_append l b
  | .opt s n v :: l, b => by
    show (s, n, v) :: optsOf (l ++ b) = (s, n, v) :: optsOf l ++ optsOf b
    rw [optsOf_append l b]
    rfl
theorem desF_opts : ∀ (l : List Lex.Item) (S S' : List SecP) (O O' : List (ByteArray × ByteArray × ByteArray)), desF l S O = some (S', O') → O' = O ++ optsOf l
  | [], S, S', O, O', h => by
    injection h with h
    injection h with h1 h2
    rw [← h2]
    exact (List.append_nil O).symm
  | .sec _ :: l, S, S', O, O', h => desF_opts l _ S' O O' h
  | .opt _ _ _ :: _, [], S', O, O', h => by cases h
  | .opt s n v :: l, (nm, es) :: S, S', O, O', h => by
    rw [desF_opts l _ S' _ O' h, List.append_assoc]
    rfl
theorem lines_sim {t : ByteArray} {R : List Lex.Item × Bool} {lim : Nat} (hlim : lim ≤ 2046) {want : List O3} {ok : Bool} : ∀ (n : Nat) (l : List UInt8) (M : Option (List UInt8)) (b : Bf) (acc : List Lex.Item) (out : List O3),
    l.length ≤ n → Runs t (stM (M.map tx)) b acc R → Inv t.size b → (T t).drop b.r = l → optsOf acc = out.map tx3 → parseL lim M (lines l) out = (want, ok, 1) → R.2 = ok ∧ (ok = true → optsOf R.1 = want.map tx3) := by
  intro n
  induction n with
  | zero =>
    intro l M b acc out hn h hi hd ho hp
    have hl : l = [] := List.length_eq_zero_iff.1 (by omega)
    subst hl
    have hR := mode_end h hi hd
    have e : parseL lim M (lines []) out = (out, true, 1) := rfl
    rw [e] at hp
    injection hp with h1 h2
    injection h2 with h2 h3
    subst h1 h2
    rw [hR]
    exact ⟨rfl, fun _ => ho⟩
  | succ n ih =>
    intro l M b acc out hn h hi hd ho hp
    by_cases hl : l = []
    · subst hl
      have hR := mode_end h hi hd
      have e : parseL lim M (lines []) out = (out, true, 1) := rfl
      rw [e] at hp
      injection hp with h1 h2
      injection h2 with h2 h3
      subst h1 h2
      rw [hR]
      exact ⟨rfl, fun _ => ho⟩
    · obtain ⟨x, tail, e1, e2, e3, e4, e5⟩ := lines_cons hl
      rw [e4] at hp
      unfold parseL at hp
      by_cases hx : lim < x.length
      · rw [if_pos hx] at hp
        injection hp with h1 h2
        injection h2 with h2 h3
        exact absurd h3 (by decide)
      · rw [if_neg hx] at hp
        have ha : At t b x tail := ⟨hi, by rw [hd]; exact e1, by omega, e3⟩
        have hs := line_sim h ha
        have hM : (M.map tx).isSome = M.isSome := by cases M <;> rfl
        rw [hM] at hs
        cases hr : lineR M.isSome x with
        | opn =>
          rw [hr] at hp
          injection hp with h1 h2
          injection h2 with h2 h3
          exact absurd h3 (by decide)
        | skip =>
          rw [hr] at hp hs
          obtain ⟨b', i1, i2, i3⟩ := hs
          exact ih tail.tail M b' acc out (by omega) i3 i1 i2 ho hp
        | sec nm =>
          rw [hr] at hp hs
          obtain ⟨b', i1, i2, i3⟩ := hs
          exact ih tail.tail (some nm) b' _ out (by omega) i3 i1 i2 (by rw [optsOf_append, ho]; exact List.append_nil _) hp
        | noeq =>
          rw [hr] at hp hs
          injection hp with h1 h2
          injection h2 with h2 h3
          subst h2
          have hs : R = (acc, false) := hs
          rw [hs]
          exact ⟨rfl, fun e => by cases e⟩
        | opt n' v =>
          rw [hr] at hp hs
          obtain ⟨s, hM2, b', i1, i2, i3⟩ := hs
          cases M with
          | none => cases hM2
          | some s0 =>
            injection hM2 with hM2
            subst hM2
            exact ih tail.tail (some s0) b' _ _ (by omega) i3 i1 i2 (by rw [optsOf_append, ho, List.map_append]; rfl) hp
/-- What UnitRead says of a text whose lines say what they say. -/
theorem read_says {t : ByteArray} (ht : t.size ≤ 20000) {lim : Nat} (hlim : lim ≤ 2046) {want : List O3} {ok : Bool} (hp : parseL lim none (lines (T t)) [] = (want, ok, 1)) :
    impl_UnitRead.f t = some (if ok = true then (want.map (toS ∘ tx3), 0) else ([], 1)) := by
  obtain ⟨R, S, O, h1, h2, h3, h4, h5⟩ := read_all t ht
  have hs := lines_sim (t := t) (R := R) hlim (T t).length (T t) none ⟨0, 0, 0, false⟩ [] [] (Nat.le_refl _) ⟨200000, h1⟩ (inv0 _) rfl rfl hp
  have hO : O = optsOf R.1 := by
    have := desF_opts R.1 [] S [] O h2
    rwa [List.nil_append] at this
  rw [h5, hs.1]
  cases ok with
  | false => rfl
  | true =>
    rw [if_pos rfl, if_pos rfl, hO, hs.2 rfl, List.map_map]
end Go.Proofs.YtlmmgienbmghmaaDoor.PureS
