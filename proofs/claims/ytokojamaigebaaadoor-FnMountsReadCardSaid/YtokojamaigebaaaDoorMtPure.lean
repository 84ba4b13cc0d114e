/- The reference's print of mounts, as functions of lists. -/
import Derived.Test.YtokojamaigebaaaDoorL4
import Derived.Test.YtokojamaigebaaaDoorL5
set_option linter.unusedVariables false
set_option linter.unusedSimpArgs false
namespace Go.Proofs.YtokojamaigebaaaDoor.MtPure
open Go.RowKit Go.Proofs.YtokojamaigebaaaDoorW.PrintWords Go.Proofs.YtokojamaigebaaaDoorW.PrintLast Go.Proofs.YtokojamaigebaaaDoorW.PrintMore Go.Proofs.YtokojamaigebaaaDoor.Scan Go.Proofs.YtokojamaigebaaaDoor.ScanL Go.Proofs.YtokojamaigebaaaDoor.GivM Go.Proofs.YtokojamaigebaaaDoor.M Go.Proofs.YtokojamaigebaaaDoor.L Go.Proofs.YtokojamaigebaaaDoor.MtDoor Go.Proofs.YtokojamaigebaaaDoor.MtRow
open Go.Proofs.YtokojamaigebaaaDoorPt hiding toB_size toB_data
/-- What a function of rounds answers in the end. -/
def Ev {α : Type} (f : Nat → Option α) (v : α) : Prop := ∃ k0, ∀ k, k0 ≤ k → f k = some v
theorem Ev.succ {α : Type} {f g : Nat → Option α} {v : α} (hg : ∀ k, g (k + 1) = f k) (h : Ev f v) : Ev g v := by
  obtain ⟨k0, h⟩ := h
  refine ⟨k0 + 1, fun k hk => ?_⟩
  obtain ⟨k, rfl⟩ : ∃ j, k = j + 1 := ⟨k - 1, by omega⟩
  rw [hg]; exact h k (by omega)
theorem Ev.bind {α β : Type} {f : Nat → Option α} {g : Nat → α → Option β} {a : α} {v : β} (h : Ev f a) (h2 : Ev (fun k => g k a) v) : Ev (fun k => (f k).bind (g k)) v := by
  obtain ⟨k0, h⟩ := h
  obtain ⟨k1, h2⟩ := h2
  exact ⟨max k0 k1, fun k hk => by simp only []; rw [h k (by omega), Option.bind_some]; exact h2 k (by omega)⟩
theorem Ev.pure {α : Type} (v : α) : Ev (fun _ => some v) v := ⟨0, fun _ _ => rfl⟩
theorem Ev.congr {α : Type} {f g : Nat → Option α} {v : α} (h : ∀ k, g k = f k) (e : Ev f v) : Ev g v := by
  obtain ⟨k0, e⟩ := e
  exact ⟨k0, fun k hk => by rw [h]; exact e k hk⟩
theorem ex (x : ByteArray) : ∃ l, x = toB l := ⟨x.data.toList, (toB_of x).symm⟩
theorem toB_app (a b : List UInt8) : toB a ++ toB b = toB (a ++ b) := by
  apply ByteArray.ext
  apply Array.toList_inj.1
  show (toB a ++ toB b).data.toList = _
  rw [ByteArray.data_append, Array.toList_append]
  rfl
theorem bt_drop (l : List UInt8) (i : Nat) (h : i < l.length) : l.drop i = l[i]'h :: l.drop (i + 1) := List.drop_eq_getElem_cons h
/-! ### what may be printed -/
def prN (wide : Bool) (a : Nat) : Bool := (decide (32 < a) && decide (a < 127)) || (wide && (decide (a = 32) || decide (a = 9) || decide (a = 10)))
def prB (wide : Bool) (b : UInt8) : Bool := prN wide b.toNat
theorem pr_step {α : Type} (a : Nat) (wide : Bool) (R F : α) : (if (a : Int) > 32 then (if (a : Int) < 127 then R else (if wide = true then (if (a : Int) = 32 then R else (if (a : Int) = 9 then R else (if (a : Int) = 10 then R else F))) else F)) else (if wide = true then (if (a : Int) = 32 then R else (if (a : Int) = 9 then R else (if (a : Int) = 10 then R else F))) else F)) = if prN wide a = true then R else F := by
  have e : (prN wide a = true) ↔ ((32 < a ∧ a < 127) ∨ (wide = true ∧ (a = 32 ∨ a = 9 ∨ a = 10))) := by
    unfold prN
    simp only [Bool.or_eq_true, Bool.and_eq_true, decide_eq_true_eq, or_assoc]
  by_cases c : prN wide a = true
  · rw [if_pos c]
    rcases e.1 c with ⟨h1, h2⟩ | ⟨hw, h⟩
    · rw [if_pos (by omega), if_pos (by omega)]
    · rw [if_neg (by omega)]
      rw [if_pos hw]
      rcases h with rfl | rfl | rfl <;> rfl
  · rw [if_neg c]
    have h := mt e.2 c
    by_cases h1 : (a : Int) > 32
    · rw [if_pos h1, if_neg (by omega)]
      by_cases hw : wide = true
      · rw [if_pos hw, if_neg (by omega), if_neg (by omega), if_neg (by omega)]
      · rw [if_neg hw]
    · rw [if_neg h1]
      by_cases hw : wide = true
      · rw [if_pos hw, if_neg (by intro h2; exact h (.inr ⟨hw, by omega⟩)), if_neg (by intro h2; exact h (.inr ⟨hw, by omega⟩)), if_neg (by intro h2; exact h (.inr ⟨hw, by omega⟩))]
      · rw [if_neg hw]
theorem pr_go (l : List UInt8) (wide : Bool) (hl : l.length ≤ 2147483647) : ∀ (n i k : Nat), n = l.length - i → i ≤ l.length → n + 1 ≤ k → spec_printable.l0 k (toB l) wide (l.length : Int) (i : Int) = some ((l.drop i).all (prB wide))
  | n, i, 0, _, _, hk => by omega
  | n, i, k + 1, hn, hi, hk => by
    have e3 : wrap64 ((i : Int) + 1) = ((i + 1 : Nat) : Int) := by rw [wr (by omega) (by omega)]; omega
    rw [spec_printable.l0]
    by_cases h : i < l.length
    · rw [if_pos (by omega), if_pos (by omega), if_pos (by rw [toB_size]; omega), bt_toB l i h, e3, pr_step, pr_go l wide hl (l.length - (i + 1)) (i + 1) k rfl (by omega) (by omega), bt_drop l i h, List.all_cons]
      by_cases c : prN wide (l[i]'h).toNat = true
      · rw [if_pos c]; unfold prB; rw [c]; rfl
      · rw [if_neg c]; unfold prB; rw [Bool.eq_false_iff.2 c]; rfl
    · rw [if_neg (by omega), List.drop_eq_nil_of_le (by omega)]; rfl
theorem pr_is (l : List UInt8) (wide : Bool) (hl : l.length ≤ 2147483647) (k : Nat) (hk : l.length + 1 ≤ k) : spec_printable.f k (toB l) wide = some (l.all (prB wide)) := by
  unfold spec_printable.f
  rw [toB_size]
  have := pr_go l wide hl (l.length - 0) 0 k rfl (Nat.zero_le _) (by omega)
  rw [List.drop_zero] at this
  exact this
def wordB (l : List UInt8) : Bool := l.all (fun b => !(b == 92)) && (!(l == [])) && l.all (prB false)
theorem word_go (l : List UInt8) (hl : l.length ≤ 2147483647) : ∀ (n i k : Nat), n = l.length - i → i ≤ l.length → n + l.length + 2 ≤ k → spec_word.l0 k (toB l) (l.length : Int) (i : Int) = some ((l.drop i).all (fun b => !(b == 92)) && (!(l == [])) && l.all (prB false))
  | n, i, 0, _, _, hk => by omega
  | n, i, k + 1, hn, hi, hk => by
    have e3 : wrap64 ((i : Int) + 1) = ((i + 1 : Nat) : Int) := by rw [wr (by omega) (by omega)]; omega
    rw [spec_word.l0]
    by_cases h : i < l.length
    · rw [if_pos (by omega), if_pos (by omega), if_pos (by rw [toB_size]; omega), bt_toB l i h, e3, bt_drop l i h, List.all_cons]
      by_cases c : l[i]'h = 92
      · rw [if_pos (by rw [c]; rfl), c]; rfl
      · have c2 : ¬ (((l[i]'h).toNat : Int) = 92) := fun e => c ((tn (n := 92) (by decide)).1 e)
        rw [if_neg c2, word_go l hl (l.length - (i + 1)) (i + 1) k rfl (by omega) (by omega)]
        have : (!(l[i]'h == 92)) = true := by simp [c]
        rw [this, Bool.true_and]
    · rw [if_neg (by omega), List.drop_eq_nil_of_le (by omega), toB_list]
      by_cases c : l = []
      · subst c; rfl
      · rw [if_neg c, pr_is l false hl k (by omega), Option.bind_some]
        have : (!(l == [])) = true := by simp [c]
        rw [this]; rfl
theorem word_is (l : List UInt8) (hl : l.length ≤ 2147483647) (k : Nat) (hk : 2 * l.length + 2 ≤ k) : spec_word.f k (toB l) = some (wordB l) := by
  unfold spec_word.f
  rw [toB_size]
  have := word_go l hl (l.length - 0) 0 k rfl (Nat.zero_le _) (by omega)
  rw [List.drop_zero] at this
  exact this
/-! ### fields -/
def pre (p : List UInt8) (l : List UInt8) : List (List UInt8) := match splitL 32 l with
  | [] => [p]
  | q :: qs => (p ++ q) :: qs
theorem pre_nil (l : List UInt8) : pre [] l = splitL 32 l := by
  unfold pre
  cases h : splitL 32 l with
  | nil => have := (splitL_len 32 l).1; rw [h] at this; simp at this
  | cons q qs => rfl
theorem pre_end (p : List UInt8) : pre p [] = [p] := by unfold pre; rw [splitL]; simp
theorem pre_cut (p l : List UInt8) : pre p (32 :: l) = p :: splitL 32 l := by unfold pre; rw [splitL, if_pos rfl]; simp
theorem pre_step (p l : List UInt8) (x : UInt8) (h : x ≠ 32) : pre p (x :: l) = pre (p ++ [x]) l := by
  unfold pre
  rw [splitL, if_neg h]
  cases h : splitL 32 l with
  | nil => rfl
  | cons q qs => simp
theorem fields_go (l : List UInt8) (hl : l.length ≤ 2147483647) : ∀ (n i k from_ : Nat) (acc : List ByteArray), n = l.length - i → i ≤ l.length → n + 1 ≤ k → from_ ≤ i → acc.length ≤ i → spec_fields.l0 k (toB l) acc (from_ : Int) (l.length : Int) (i : Int) = some (acc ++ (pre ((l.drop from_).take (i - from_)) (l.drop i)).map toB)
  | n, i, 0, _, _, _, _, hk, _, _ => by omega
  | n, i, k + 1, from_, acc, hn, hi, hk, hf, ha => by
    have e3 : wrap64 ((i : Int) + 1) = ((i + 1 : Nat) : Int) := by rw [wr (by omega) (by omega)]; omega
    rw [spec_fields.l0]
    by_cases h : i < l.length
    · rw [if_pos (by omega), if_pos (by omega), if_pos (by rw [toB_size]; omega), bt_toB l i h, e3, bt_drop l i h]
      by_cases c : l[i]'h = 32
      · rw [if_pos (by rw [c]; rfl), if_pos (by omega), if_pos (by omega), if_pos (by rw [toB_size]; omega), if_pos (by omega), Int.toNat_natCast, Int.toNat_natCast, toB_ext,
          fields_go l hl (l.length - (i + 1)) (i + 1) k (i + 1) _ rfl (by omega) (by omega) (by omega) (by rw [List.length_append, List.length_singleton]; omega), c, pre_cut]
        rw [Nat.sub_self, List.take_zero, pre_nil, List.append_assoc]
        rfl
      · have c2 : ¬ (((l[i]'h).toNat : Int) = 32) := fun e => c ((tn (n := 32) (by decide)).1 e)
        rw [if_neg c2, fields_go l hl (l.length - (i + 1)) (i + 1) k from_ acc rfl (by omega) (by omega) (by omega) (by omega), pre_step _ _ _ c]
        have e : (l.drop from_).take (i + 1 - from_) = (l.drop from_).take (i - from_) ++ [l[i]'h] := by
          rw [show i + 1 - from_ = (i - from_) + 1 by omega, List.take_add_one, List.getElem?_drop, show from_ + (i - from_) = i by omega, List.getElem?_eq_getElem h]
          rfl
        rw [e]
    · rw [if_neg (by omega), if_pos (by omega), if_pos (by rw [toB_size]; omega), if_pos (by omega), List.drop_eq_nil_of_le (show l.length ≤ i by omega), pre_end, toB_size, Int.toNat_natCast, toB_ext]
      rw [show l.length = i by omega]
      rfl
theorem fields_is (l : List UInt8) (hl : l.length ≤ 2147483647) (k : Nat) (hk : l.length + 1 ≤ k) : spec_fields.f k (toB l) = some ((splitL 32 l).map toB) := by
  unfold spec_fields.f
  rw [toB_size]
  have := fields_go l hl (l.length - 0) 0 k 0 [] rfl (Nat.zero_le _) (by omega) (Nat.le_refl _) (Nat.le_refl _)
  rw [Nat.sub_self, List.take_zero, List.drop_zero, pre_nil, List.nil_append] at this
  exact this
/-! ### numbers -/
def natL (n : Nat) : List UInt8 := if n < 10 then [UInt8.ofNat (48 + n)] else natL (n / 10) ++ [UInt8.ofNat (48 + n % 10)]
termination_by n
decreasing_by omega
theorem natL_dig : ∀ (n : Nat), ∀ b ∈ natL n, 48 ≤ b.toNat ∧ b.toNat ≤ 57 := by
  intro n
  induction n using Nat.strongRecOn with
  | _ n ih =>
    intro b hb
    rw [natL] at hb
    have hd : ∀ d, d < 10 → 48 ≤ (UInt8.ofNat (48 + d)).toNat ∧ (UInt8.ofNat (48 + d)).toNat ≤ 57 := fun d h => by rw [UInt8.toNat_ofNat_of_lt' (by simp [UInt8.size]; omega)]; omega
    split at hb
    · rw [List.mem_singleton] at hb; subst hb; exact hd n (by assumption)
    · rcases List.mem_append.1 hb with hb | hb
      · exact ih (n / 10) (by omega) b hb
      · rw [List.mem_singleton] at hb; subst hb; exact hd _ (by omega)
theorem natL_ne (n : Nat) : natL n ≠ [] := by
  rw [natL]
  split <;> simp
theorem parse_snoc (d : UInt8) (hd : 48 ≤ d.toNat ∧ d.toNat ≤ 57) : ∀ (l : List UInt8) (acc u : Nat), Lib.parseUint10 acc l = .ok u → u < 1000000000000000000 → Lib.parseUint10 acc (l ++ [d]) = .ok (u * 10 + (d.toNat - 48))
  | [], acc, u, h, hu => by
    rw [Lib.parseUint10] at h
    injection h with h
    subst h
    rw [List.nil_append, Lib.parseUint10, if_pos hd, if_neg (by omega), if_neg (by omega), Lib.parseUint10]
  | c :: l, acc, u, h, hu => by
    rw [List.cons_append, Lib.parseUint10]
    rw [Lib.parseUint10] at h
    by_cases h1 : 48 ≤ c.toNat ∧ c.toNat ≤ 57
    · rw [if_pos h1] at h ⊢
      by_cases h2 : 1844674407370955162 ≤ acc
      · rw [if_pos h2] at h; cases h
      · rw [if_neg h2] at h ⊢
        by_cases h3 : 18446744073709551616 ≤ acc * 10 + (c.toNat - 48)
        · rw [if_pos h3] at h; cases h
        · rw [if_neg h3] at h ⊢
          exact parse_snoc d hd l _ u h hu
    · rw [if_neg h1] at h; cases h
theorem parse_nat : ∀ (n : Nat), n < 1000000000000000000 → Lib.parseUint10 0 (natL n) = .ok n := by
  intro n
  induction n using Nat.strongRecOn with
  | _ n ih =>
    intro hn
    have hd : ∀ d, d < 10 → (UInt8.ofNat (48 + d)).toNat = 48 + d := fun d h => by rw [UInt8.toNat_ofNat_of_lt' (by simp [UInt8.size]; omega)]
    rw [natL]
    split
    · next c =>
      rw [Lib.parseUint10, hd n c, if_pos (by omega), if_neg (by omega), if_neg (by omega), Lib.parseUint10]
      congr 1
      omega
    · next c =>
      have hd2 := hd (n % 10) (by omega)
      rw [parse_snoc (UInt8.ofNat (48 + n % 10)) (by omega) (natL (n / 10)) 0 (n / 10) (ih (n / 10) (by omega) (by omega)) (by omega), hd2]
      congr 1
      omega
theorem toInt_nat (n : Nat) (hn : n < 1000000000000000000) : toIntV (natL n) = (n : Int) := by
  have hp := parse_nat n hn
  have hdig := natL_dig n
  have hne := natL_ne n
  unfold toIntV
  cases h : natL n with
  | nil => exact absurd h hne
  | cons c r =>
    rw [h] at hp hdig
    have hc := hdig c List.mem_cons_self
    have e : Lib.atoiAll (c :: r) = .ok (n : Int) := by
      rw [Lib.atoiAll_plain c r (by omega) (by omega)]
      unfold Lib.parseMag
      rw [if_neg (by simp), hp]
      unfold Lib.signless
      simp only
      rw [if_neg (by omega)]
    rw [e]
/-! ### octal -/
end Go.Proofs.YtokojamaigebaaaDoor.MtPure
