import Derived.Test.YtlmmgienbmghmaaDoorPureFnUnitLong
import Derived.Test.YtlmmgienbmghmaaDoorL5
/- The plain law of FnUnitRead: the reference's small functions. -/
set_option linter.unusedVariables false
set_option linter.unusedSimpArgs false
namespace Go.Proofs.YtlmmgienbmghmaaDoor.PureR
open Go.RowKit Go.Proofs.YtlmmgienbmghmaaDoorW.PrintWords Go.Proofs.YtlmmgienbmghmaaDoorW.PrintLast Go.Proofs.YtlmmgienbmghmaaDoorW.PrintMore Go.Proofs.YtlmmgienbmghmaaDoor.Lex Go.Proofs.YtlmmgienbmghmaaDoor.UDoor Go.Proofs.YtlmmgienbmghmaaDoor.DoorU Go.Proofs.YtlmmgienbmghmaaDoor.PureT Go.Proofs.YtlmmgienbmghmaaDoor.PureS Go.Proofs.YtlmmgienbmghmaaDoor.L Go.Proofs.YtlmmgienbmghmaaDoor.M Go.Proofs.YtlmmgienbmghmaaDoor.PureUL
/-- From some number of rounds on, this is what comes. -/
def Ev {α : Type} (f : Nat → Option α) (r : α) : Prop := ∃ k0, ∀ k, k0 ≤ k → f k = some r
theorem Ev.succ {α : Type} {f g : Nat → Option α} {r : α} (h : ∀ k, f (k + 1) = g k) (hg : Ev g r) : Ev f r := by
  obtain ⟨k0, hk⟩ := hg
  refine ⟨k0 + 1, fun k hk2 => ?_⟩
  obtain ⟨j, rfl⟩ : ∃ j, k = j + 1 := ⟨k - 1, by omega⟩
  rw [h]
  exact hk j (by omega)
theorem Ev.same {α : Type} {f g : Nat → Option α} {r : α} (h : ∀ k, f k = g k) (hg : Ev g r) : Ev f r := by
  obtain ⟨k0, hk⟩ := hg
  exact ⟨k0, fun k hk2 => (h k).trans (hk k hk2)⟩
theorem Ev.bind {α β : Type} {f : Nat → Option α} {a : α} {g : Nat → α → Option β} {r : β} (hf : Ev f a) (hg : Ev (fun k => g k a) r) : Ev (fun k => (f k).bind (g k)) r := by
  obtain ⟨k0, h0⟩ := hf
  obtain ⟨k1, h1⟩ := hg
  refine ⟨max k0 k1, fun k hk => ?_⟩
  show (f k).bind (g k) = _
  rw [h0 k (by omega), Option.bind_some]
  exact h1 k (by omega)
theorem Ev.val {α : Type} (r : α) : Ev (fun _ => some r) r := ⟨0, fun _ _ => rfl⟩
theorem bt_tx (l : List UInt8) (i : Nat) : bt (tx l) (i : Int) = ((l.getD i 0).toNat : Int) := by
  unfold bt
  rw [Int.toNat_natCast]
  by_cases h : i < l.length
  · have h' : i < (tx l).size := by rw [tx_size]; exact h
    rw [dif_pos h', List.getD_eq_getElem?_getD, List.getElem?_eq_getElem h]
    rfl
  · have h' : ¬ i < (tx l).size := by rw [tx_size]; exact h
    rw [dif_neg h', List.getD_eq_getElem?_getD, List.getElem?_eq_none (by omega)]
    rfl
theorem toList_tx (l : List UInt8) : (tx l).toList = l := by rw [Lib.toList_data]; exact T_tx l
theorem extract_tx (l : List UInt8) (a b : Nat) : (tx l).extract a b = tx ((l.drop a).take (b - a)) := by
  rw [← Lib.mk_data ((tx l).extract a b), ← Lib.toList_data, Lib.extract_toList, show (tx l).data.toList = l from T_tx l]
  rfl
theorem w1 (i : Nat) (h : i ≤ 4611686018427387904) : wrap64 ((i : Int) + 1) = ((i + 1 : Nat) : Int) := by unfold wrap64; omega
theorem wm (i : Nat) (h : i ≤ 4611686018427387904) (h0 : 1 ≤ i) : wrap64 ((i : Int) - 1) = ((i - 1 : Nat) : Int) := by unfold wrap64; omega
/-- A byte that the documents speak of. -/
def asc (c : UInt8) : Bool := decide (c.toNat < 128) && c.toNat != 0
theorem drop_at {l : List UInt8} {i d : Nat} (h : i + (d + 1) = l.length) : l.drop i = l.getD i 0 :: l.drop (i + 1) := by
  rw [List.getD_eq_getElem?_getD, List.getElem?_eq_getElem (by omega)]
  exact List.drop_eq_getElem_cons (by omega)
theorem ascii_l0 (l : List UInt8) (hl : l.length ≤ 4611686018427387904) : ∀ (d i : Nat), i + d = l.length → Ev (fun k => spec_ascii.l0 k (tx l) (l.length : Int) (i : Int)) ((l.drop i).all asc)
  | 0, i, h => by
    rw [List.drop_eq_nil_iff.2 (by omega)]
    refine Ev.succ (g := fun _ => some true) (fun k => ?_) (Ev.val _)
    unfold spec_ascii.l0
    rw [if_neg (by omega)]
  | d + 1, i, h => by
    rw [drop_at h, List.all_cons]
    by_cases h1 : 128 ≤ (l.getD i 0).toNat
    · refine Ev.succ (g := fun _ => some false) (fun k => ?_) ?_
      · unfold spec_ascii.l0
        rw [if_pos (by omega), if_pos (by omega), if_pos (by rw [tx_size]; omega), bt_tx, if_pos (by omega)]
      · have : asc (l.getD i 0) = false := by unfold asc; rw [decide_eq_false (by omega)]; rfl
        rw [this]
        exact Ev.val _
    · by_cases h2 : (l.getD i 0).toNat = 0
      · refine Ev.succ (g := fun _ => some false) (fun k => ?_) ?_
        · unfold spec_ascii.l0
          rw [if_pos (by omega), if_pos (by omega), if_pos (by rw [tx_size]; omega), bt_tx, if_neg (by omega), if_pos (by omega)]
        · have : asc (l.getD i 0) = false := by unfold asc; rw [h2]; rfl
          rw [this]
          exact Ev.val _
      · refine Ev.succ (g := fun k => spec_ascii.l0 k (tx l) (l.length : Int) ((i + 1 : Nat) : Int)) (fun k => ?_) ?_
        · conv => lhs; unfold spec_ascii.l0
          rw [if_pos (by omega), if_pos (by omega), if_pos (by rw [tx_size]; omega), bt_tx, if_neg (by omega), if_neg (by omega), w1 i (by omega)]
        · have : asc (l.getD i 0) = true := by unfold asc; rw [decide_eq_true (by omega), Bool.true_and]; exact bne_iff_ne.2 h2
          rw [this, Bool.true_and]
          exact ascii_l0 l hl d (i + 1) (by omega)
theorem ascii_is (l : List UInt8) (hl : l.length ≤ 4611686018427387904) : Ev (fun k => spec_ascii.f k (tx l)) (l.all asc) := by
  refine Ev.same (g := fun k => spec_ascii.l0 k (tx l) (l.length : Int) ((0 : Nat) : Int)) (fun k => ?_) (ascii_l0 l hl l.length 0 (by omega))
  unfold spec_ascii.f
  rw [tx_size]
  rfl
theorem cut_l0 (l : List UInt8) (hl : l.length ≤ 1000000) : ∀ (d i a : Nat) (out : List ByteArray), i + d = l.length → a ≤ i → out.length ≤ i →
    Ev (fun k => spec_cutLines.l0 k (tx l) out (a : Int) (l.length : Int) (i : Int)) (out ++ (cutL ((l.drop a).take (i - a)) (l.drop i)).map tx)
  | 0, i, a, out, h, ha, ho => by
    rw [List.drop_eq_nil_iff.2 (show l.length ≤ i by omega), cutL]
    by_cases h1 : a < l.length
    · have hne : (l.drop a).take (i - a) ≠ [] := by
        intro e
        have := congrArg List.length e
        rw [List.length_take, List.length_drop, List.length_nil] at this
        omega
      rw [if_neg hne]
      refine Ev.succ (g := fun _ => some (out ++ [(tx l).extract a l.length])) (fun k => ?_) ?_
      · unfold spec_cutLines.l0
        rw [if_neg (by omega), if_pos (by rw [tx_size]; omega), if_pos (by omega), if_pos (by rw [tx_size]; omega), if_pos (by omega), tx_size, Int.toNat_natCast]
      · rw [extract_tx, show i - a = l.length - a by omega]
        exact Ev.val _
    · have hne : (l.drop a).take (i - a) = [] := by rw [show i - a = 0 by omega, List.take_zero]
      rw [if_pos hne]
      refine Ev.succ (g := fun _ => some out) (fun k => ?_) ?_
      · unfold spec_cutLines.l0
        rw [if_neg (by omega), if_neg (by rw [tx_size]; omega)]
      · rw [List.map_nil, List.append_nil]
        exact Ev.val _
  | d + 1, i, a, out, h, ha, ho => by
    rw [drop_at h, cutL]
    by_cases h1 : l.getD i 0 = 10
    · rw [if_pos h1]
      have hn : (l.getD i 0).toNat = 10 := by rw [h1]; rfl
      have := cut_l0 l hl d (i + 1) (i + 1) (out ++ [tx ((l.drop a).take (i - a))]) (by omega) (Nat.le_refl _) (by rw [List.length_append, List.length_singleton]; omega)
      rw [Nat.sub_self, List.take_zero, List.append_assoc] at this
      refine Ev.succ (fun k => ?_) this
      conv => lhs; unfold spec_cutLines.l0
      rw [if_pos (by omega), if_pos (by omega), if_pos (by rw [tx_size]; omega), bt_tx, if_pos (by omega), if_pos (by omega), if_pos (by omega), if_pos (by rw [tx_size]; omega), if_pos (by omega), Int.toNat_natCast, Int.toNat_natCast, extract_tx, w1 i (by omega)]
    · rw [if_neg h1]
      have hn : (l.getD i 0).toNat ≠ 10 := fun e => h1 (UInt8.toNat_inj.1 e)
      have := cut_l0 l hl d (i + 1) a out (by omega) (by omega) (by omega)
      have e : (l.drop a).take (i + 1 - a) = (l.drop a).take (i - a) ++ [l.getD i 0] := by
        rw [show i + 1 - a = (i - a) + 1 by omega, List.take_add_one, List.getElem?_drop, show a + (i - a) = i by omega, List.getElem?_eq_getElem (by omega), List.getD_eq_getElem?_getD, List.getElem?_eq_getElem (by omega)]
        rfl
      rw [e] at this
      refine Ev.succ (fun k => ?_) this
      conv => lhs; unfold spec_cutLines.l0
      rw [if_pos (by omega), if_pos (by omega), if_pos (by rw [tx_size]; omega), bt_tx, if_neg (by omega), w1 i (by omega)]
theorem cut_is (l : List UInt8) (hl : l.length ≤ 1000000) : Ev (fun k => spec_cutLines.f k (tx l)) ((lines l).map tx) := by
  have := cut_l0 l hl l.length 0 0 [] (by omega) (Nat.le_refl _) (Nat.zero_le _)
  rw [Nat.sub_self, List.take_zero, List.nil_append, List.drop_zero] at this
  refine Ev.same (fun k => ?_) this
  unfold spec_cutLines.f
  rw [tx_size]
  rfl
theorem blank_is (c : UInt8) : spec_blank.f (c.toNat : Int) = some (bl c) := by
  unfold spec_blank.f bl
  by_cases h : c.toNat = 32
  · rw [if_pos (by omega), h]
    rfl
  · rw [if_neg (by omega), show (c.toNat == 32) = false by simpa using h, Bool.false_or]
    congr 1
    by_cases h9 : c.toNat = 9
    · rw [h9]; rfl
    · rw [show (c.toNat == 9) = false by simpa using h9, beq_eq_false_iff_ne]
      omega
theorem last_get (l : List UInt8) (c : UInt8) : (l ++ [c]).getD ((l ++ [c]).length - 1) 0 = c := lastB_cat
theorem trimmed_l1 : ∀ (r : List UInt8), r.length ≤ 1000000 → Ev (fun k => spec_trimmed.l1 k (tx r.reverse)) (tx (r.dropWhile bl).reverse)
  | [], _ => by
    refine Ev.succ (g := fun _ => some (tx [])) (fun k => ?_) (Ev.val _)
    unfold spec_trimmed.l1
    rw [if_pos (show (tx ([] : List UInt8).reverse).toList = [] from toList_tx _)]
    rfl
  | c :: r, h => by
    rw [List.length_cons] at h
    have hlen : ((c :: r).reverse).length = r.length + 1 := by rw [List.length_reverse, List.length_cons]
    have hgt : (c :: r).reverse.getD (r.length + 1 - 1) 0 = c := by
      have := last_get r.reverse c
      rw [← List.reverse_cons, hlen] at this
      exact this
    have hne : (tx (c :: r).reverse).toList ≠ [] := by rw [toList_tx]; simp
    rw [List.dropWhile_cons]
    by_cases hb : bl c = true
    · rw [if_pos hb]
      refine Ev.succ (fun k => ?_) (trimmed_l1 r (by omega))
      conv => lhs; unfold spec_trimmed.l1
      rw [if_neg hne, tx_size, hlen, wm _ (by omega) (by omega), if_pos (by omega), if_pos (by omega), bt_tx, hgt, blank_is, Option.bind_some, if_pos hb, if_pos (by omega), Int.toNat_natCast, extract_tx]
      congr 2
      rw [List.drop_zero, List.reverse_cons, Nat.sub_zero, Nat.add_sub_cancel, ← List.length_reverse, List.take_left]
    · rw [if_neg hb]
      refine Ev.succ (g := fun _ => some (tx (c :: r).reverse)) (fun k => ?_) (Ev.val _)
      unfold spec_trimmed.l1
      rw [if_neg hne, tx_size, hlen, wm _ (by omega) (by omega), if_pos (by omega), if_pos (by omega), bt_tx, hgt, blank_is, Option.bind_some, if_neg hb]
theorem trimmed_l0 : ∀ (l : List UInt8), l.length ≤ 1000000 → Ev (fun k => spec_trimmed.l0 k (tx l)) (tx (trB l))
  | [], _ => by
    refine Ev.succ (g := fun k => spec_trimmed.j1 k (tx [])) (fun k => ?_) (Ev.succ (g := fun k => spec_trimmed.l1 k (tx [])) (fun k => ?_) (trimmed_l1 [] (by simp)))
    · unfold spec_trimmed.l0
      rw [if_pos (toList_tx _)]
    · unfold spec_trimmed.j1
      rfl
  | c :: l, h => by
    rw [List.length_cons] at h
    have hne : (tx (c :: l)).toList ≠ [] := by rw [toList_tx]; simp
    have hbt : bt (tx (c :: l)) 0 = (c.toNat : Int) := bt_tx (c :: l) 0
    by_cases hb : bl c = true
    · have e : trB (c :: l) = trB l := by unfold trB; rw [List.dropWhile_cons, if_pos hb]
      rw [e]
      refine Ev.succ (fun k => ?_) (trimmed_l0 l (by omega))
      conv => lhs; unfold spec_trimmed.l0
      rw [if_neg hne, tx_size, List.length_cons, if_pos (by omega), hbt, blank_is, Option.bind_some, if_pos hb, if_pos (by omega), extract_tx]
      congr 2
      rw [List.drop_succ_cons, List.drop_zero, Nat.add_sub_cancel, List.take_length]
    · have e : trB (c :: l) = ((c :: l).reverse.dropWhile bl).reverse := by unfold trB; rw [List.dropWhile_cons, if_neg hb]
      rw [e]
      have := trimmed_l1 (c :: l).reverse (by rw [List.length_reverse, List.length_cons]; omega)
      rw [List.reverse_reverse] at this
      refine Ev.succ (g := fun k => spec_trimmed.j1 k (tx (c :: l))) (fun k => ?_) (Ev.succ (g := fun k => spec_trimmed.l1 k (tx (c :: l))) (fun k => ?_) this)
      · unfold spec_trimmed.l0
        rw [if_neg hne, tx_size, List.length_cons, if_pos (by omega), hbt, blank_is, Option.bind_some, if_neg hb]
      · unfold spec_trimmed.j1
        rfl
theorem trimmed_is (l : List UInt8) (h : l.length ≤ 1000000) : Ev (fun k => spec_trimmed.f k (tx l)) (tx (trB l)) := trimmed_l0 l h
def secC (c : UInt8) : Bool := decide (32 < c.toNat) && decide (c.toNat < 127) && c != 91 && c != 93
theorem sec_l0 (l : List UInt8) (hl : l.length ≤ 1000000) : ∀ (d i : Nat), i + d = l.length → Ev (fun k => spec_sectionName.l0 k (tx l) (l.length : Int) (i : Int)) ((l.drop i).all secC && !l.isEmpty)
  | 0, i, h => by
    rw [List.drop_eq_nil_iff.2 (by omega), List.all_nil, Bool.true_and]
    refine Ev.succ (g := fun _ => some (!l.isEmpty)) (fun k => ?_) (Ev.val _)
    unfold spec_sectionName.l0
    rw [if_neg (by omega), toList_tx, bne_nil]
  | d + 1, i, h => by
    rw [drop_at h, List.all_cons]
    obtain ⟨c, hc⟩ : ∃ c, l.getD i 0 = c := ⟨_, rfl⟩
    have hbt : bt (tx l) (i : Int) = (c.toNat : Int) := by rw [bt_tx, hc]
    rw [hc]
    have n91 : c.toNat = 91 ↔ c = 91 := ⟨fun e => UInt8.toNat_inj.1 e, fun e => by rw [e]; rfl⟩
    have n93 : c.toNat = 93 ↔ c = 93 := ⟨fun e => UInt8.toNat_inj.1 e, fun e => by rw [e]; rfl⟩
    by_cases hcc : secC c = true
    · rw [hcc, Bool.true_and]
      unfold secC at hcc
      simp only [Bool.and_eq_true, decide_eq_true_eq, bne_iff_ne] at hcc
      obtain ⟨⟨⟨h1, h2⟩, h3⟩, h4⟩ := hcc
      rw [Ne, ← n91] at h3
      rw [Ne, ← n93] at h4
      refine Ev.succ (fun k => ?_) (sec_l0 l hl d (i + 1) (by omega))
      conv => lhs; unfold spec_sectionName.l0
      rw [if_pos (by omega), if_pos (by omega), if_pos (by rw [tx_size]; omega), hbt, if_neg (by omega), if_neg (by omega), if_neg (by omega), if_neg (by omega), w1 i (by omega)]
    · have hcf : secC c = false := by simpa using hcc
      rw [hcf, Bool.false_and, Bool.false_and]
      refine Ev.succ (g := fun _ => some false) (fun k => ?_) (Ev.val _)
      unfold spec_sectionName.l0
      rw [if_pos (by omega), if_pos (by omega), if_pos (by rw [tx_size]; omega), hbt]
      unfold secC at hcf
      by_cases h1 : c.toNat ≤ 32
      · rw [if_pos (by omega)]
      · by_cases h2 : c.toNat ≥ 127
        · rw [if_neg (by omega), if_pos (by omega)]
        · by_cases h3 : c = 91
          · rw [if_neg (by omega), if_neg (by omega), if_pos (by have := n91.2 h3; omega)]
          · by_cases h4 : c = 93
            · rw [if_neg (by omega), if_neg (by omega), if_neg (by have := mt n91.1 h3; omega), if_pos (by have := n93.2 h4; omega)]
            · exfalso
              rw [decide_eq_true (by omega), decide_eq_true (by omega), show (c != 91) = true from bne_iff_ne.2 h3, show (c != 93) = true from bne_iff_ne.2 h4] at hcf
              cases hcf
theorem sec_is2 (l : List UInt8) (hl : l.length ≤ 1000000) : Ev (fun k => spec_sectionName.f k (tx l)) (secOk l) := by
  refine Ev.same (fun k => ?_) (sec_l0 l hl l.length 0 (by omega))
  unfold spec_sectionName.f
  rw [tx_size]
  rfl
def nameC (c : UInt8) : Bool := decide (32 < c.toNat) && decide (c.toNat < 127) && c != 61 && c != 92
theorem name_l0 (l : List UInt8) (hl : l.length ≤ 1000000) : ∀ (d i : Nat), i + d = l.length → Ev (fun k => spec_optionName.l0 k (tx l) (l.length : Int) (i : Int)) ((l.drop i).all nameC && !l.isEmpty && l.getD 0 0 != 35 && l.getD 0 0 != 59 && l.getD 0 0 != 91)
  | 0, i, h => by
    rw [List.drop_eq_nil_iff.2 (by omega), List.all_nil, Bool.true_and]
    refine Ev.succ (g := fun _ => some (!l.isEmpty && l.getD 0 0 != 35 && l.getD 0 0 != 59 && l.getD 0 0 != 91)) (fun k => ?_) (Ev.val _)
    unfold spec_optionName.l0
    rw [if_neg (by omega), toList_tx]
    cases l with
    | nil => rfl
    | cons c l =>
      have hbt : bt (tx (c :: l)) 0 = (c.toNat : Int) := bt_tx (c :: l) 0
      have hn : ∀ k : UInt8, ((c.toNat : Int) = (k.toNat : Int)) ↔ c = k := fun k => ⟨fun e => UInt8.toNat_inj.1 (by omega), fun e => by rw [e]⟩
      rw [if_neg (by simp), tx_size, List.length_cons, if_pos (by omega), hbt]
      show (if (c.toNat : Int) = ((35 : UInt8).toNat : Int) then some false else if (c.toNat : Int) = ((59 : UInt8).toNat : Int) then some false else some ((c.toNat : Int) != ((91 : UInt8).toNat : Int))) = some (!false && c != 35 && c != 59 && c != 91)
      by_cases h1 : c = 35
      · rw [if_pos ((hn 35).2 h1), h1]; rfl
      · rw [if_neg (mt (hn 35).1 h1), show (c != 35) = true from bne_iff_ne.2 h1]
        by_cases h2 : c = 59
        · rw [if_pos ((hn 59).2 h2), h2]; rfl
        · rw [if_neg (mt (hn 59).1 h2), show (c != 59) = true from bne_iff_ne.2 h2]
          congr 1
          by_cases h3 : c = 91
          · rw [h3]; rfl
          · rw [show (c != 91) = true from bne_iff_ne.2 h3]
            exact bne_iff_ne.2 (mt (hn 91).1 h3)
  | d + 1, i, h => by
    rw [drop_at h, List.all_cons]
    obtain ⟨c, hc⟩ : ∃ c, l.getD i 0 = c := ⟨_, rfl⟩
    have hbt : bt (tx l) (i : Int) = (c.toNat : Int) := by rw [bt_tx, hc]
    rw [hc]
    have n61 : c.toNat = 61 ↔ c = 61 := ⟨fun e => UInt8.toNat_inj.1 e, fun e => by rw [e]; rfl⟩
    have n92 : c.toNat = 92 ↔ c = 92 := ⟨fun e => UInt8.toNat_inj.1 e, fun e => by rw [e]; rfl⟩
    by_cases hcc : nameC c = true
    · rw [hcc, Bool.true_and]
      unfold nameC at hcc
      simp only [Bool.and_eq_true, decide_eq_true_eq, bne_iff_ne] at hcc
      obtain ⟨⟨⟨h1, h2⟩, h3⟩, h4⟩ := hcc
      rw [Ne, ← n61] at h3
      rw [Ne, ← n92] at h4
      refine Ev.succ (fun k => ?_) (name_l0 l hl d (i + 1) (by omega))
      conv => lhs; unfold spec_optionName.l0
      rw [if_pos (by omega), if_pos (by omega), if_pos (by rw [tx_size]; omega), hbt, if_neg (by omega), if_neg (by omega), if_neg (by omega), if_neg (by omega), w1 i (by omega)]
    · have hcf : nameC c = false := by simpa using hcc
      rw [hcf, Bool.false_and, Bool.false_and, Bool.false_and, Bool.false_and, Bool.false_and]
      refine Ev.succ (g := fun _ => some false) (fun k => ?_) (Ev.val _)
      unfold spec_optionName.l0
      rw [if_pos (by omega), if_pos (by omega), if_pos (by rw [tx_size]; omega), hbt]
      unfold nameC at hcf
      by_cases h1 : c.toNat ≤ 32
      · rw [if_pos (by omega)]
      · by_cases h2 : c.toNat ≥ 127
        · rw [if_neg (by omega), if_pos (by omega)]
        · by_cases h3 : c = 61
          · rw [if_neg (by omega), if_neg (by omega), if_pos (by have := n61.2 h3; omega)]
          · by_cases h4 : c = 92
            · rw [if_neg (by omega), if_neg (by omega), if_neg (by have := mt n61.1 h3; omega), if_pos (by have := n92.2 h4; omega)]
            · exfalso
              rw [decide_eq_true (by omega), decide_eq_true (by omega), show (c != 61) = true from bne_iff_ne.2 h3, show (c != 92) = true from bne_iff_ne.2 h4] at hcf
              cases hcf
theorem name_is2 (l : List UInt8) (hl : l.length ≤ 1000000) : Ev (fun k => spec_optionName.f k (tx l)) (nameOk l) := by
  refine Ev.same (fun k => ?_) (name_l0 l hl l.length 0 (by omega))
  unfold spec_optionName.f
  rw [tx_size]
  rfl
end Go.Proofs.YtlmmgienbmghmaaDoor.PureR

/- The plain law of FnUnitRead: the reference reads a unit file line by line. -/
set_option linter.unusedVariables false
set_option linter.unusedSimpArgs false
namespace Go.Proofs.YtlmmgienbmghmaaDoor.PureR
open Go.RowKit Go.Proofs.YtlmmgienbmghmaaDoorW.PrintWords Go.Proofs.YtlmmgienbmghmaaDoorW.PrintLast Go.Proofs.YtlmmgienbmghmaaDoorW.PrintMore Go.Proofs.YtlmmgienbmghmaaDoor.Lex Go.Proofs.YtlmmgienbmghmaaDoor.UDoor Go.Proofs.YtlmmgienbmghmaaDoor.DoorU Go.Proofs.YtlmmgienbmghmaaDoor.PureT Go.Proofs.YtlmmgienbmghmaaDoor.PureS Go.Proofs.YtlmmgienbmghmaaDoor.L Go.Proofs.YtlmmgienbmghmaaDoor.M Go.Proofs.YtlmmgienbmghmaaDoor.PureUL
abbrev SO := S52
def cv (o : O3) : SO := ⟨tx o.1, tx o.2.1, tx o.2.2⟩
def res (p : List O3 × Bool × Int) : List SO × Bool × Int := (p.1.map cv, p.2.1, p.2.2)
/-- What stands behind the loop over a line's bytes. -/
def EL (k : Nat) (x5 : List SO) (x6 x8 : ByteArray) (x22 : List ByteArray) (x23 x24 : Int) : Option (List SO × Bool × Int) := ((spec_trimmed.f k x8).bind fun t137 => (if t137.toList = ([] : List UInt8) then (if x8.toList = ([] : List UInt8) then (spec_UnitParse.l0 k x5 x6 x22 x23 (wrap64 (x24 + 1))) else (some (([] : List (S52)), false, 2))) else (if 0 ≤ (wrap64 ((x8.size : Int) - 1)) then (if (wrap64 ((x8.size : Int) - 1)) < (x8.size : Int) then (if (bt x8 (wrap64 ((x8.size : Int) - 1))) = 92 then (spec_UnitParse.j3 k x5 x6 x8 x22 x23 x24 true) else (if (x8.size : Int) > 1900 then (spec_UnitParse.j3 k x5 x6 x8 x22 x23 x24 true) else (if 0 < (x8.size : Int) then ((spec_blank.f (bt x8 0)).bind fun t138 => (if t138 = true then ((spec_trimmed.f k x8).bind fun t139 => (if 0 < (t139.size : Int) then (if (bt t139 0) = 35 then (spec_UnitParse.j3 k x5 x6 x8 x22 x23 x24 true) else ((spec_trimmed.f k x8).bind fun t140 => (if 0 < (t140.size : Int) then (spec_UnitParse.j3 k x5 x6 x8 x22 x23 x24 ((bt t140 0) == 59)) else (none)))) else (none))) else (spec_UnitParse.j3 k x5 x6 x8 x22 x23 x24 false))) else (none)))) else (none)) else (none))))
/-- What stands behind the search for an equals sign. -/
def EX (k : Nat) (x5 : List SO) (x6 x8 : ByteArray) (x10 : Int) (x22 : List ByteArray) (x23 x24 : Int) : Option (List SO × Bool × Int) := (if x6.toList = ([] : List UInt8) then (some (([] : List (S52)), false, 2)) else (if x10 < 0 then (some (([] : List (S52)), false, 1)) else (if 0 ≤ x10 then (if x10 ≤ (x8.size : Int) then ((spec_trimmed.f k (x8.extract 0 (x10 : Int).toNat)).bind fun t143 => (if 0 ≤ (wrap64 (x10 + 1)) then (if (wrap64 (x10 + 1)) ≤ (x8.size : Int) then ((spec_trimmed.f k (x8.extract ((wrap64 (x10 + 1)) : Int).toNat x8.size)).bind fun t144 => ((spec_optionName.f k t143).bind fun t146 => (if t146 = true then (if x5.length < 2932031007402 then (spec_UnitParse.l0 k (x5 ++ [(⟨x6, t143, t144⟩ : S52)]) x6 x22 x23 (wrap64 (x24 + 1))) else (none)) else (some (([] : List (S52)), false, 2))))) else (none)) else (none))) else (none)) else (none))))
abbrev opn : List SO × Bool × Int := ([], false, 2)
theorem up_l1 (x5 : List SO) (x6 : ByteArray) (x : List UInt8) (x22 : List ByteArray) (x23 x24 : Int) (hx : x.length ≤ 1000000) (ha : ∀ c ∈ x, asc c = true) (r : List SO × Bool × Int) (hE : x.all good = true → Ev (fun k => EL k x5 x6 (tx x) x22 x23 x24) r) : ∀ (d i : Nat), i + d = x.length → (x.take i).all good = true →
    Ev (fun k => spec_UnitParse.l1 k x5 x6 (tx x) x22 x23 x24 (x.length : Int) (i : Int)) (if x.all good = true then r else opn)
  | 0, i, h, hp => by
    have hall : x.all good = true := by rwa [List.take_of_length_le (by omega)] at hp
    rw [if_pos hall]
    refine Ev.succ (fun k => ?_) (hE hall)
    conv => lhs; unfold spec_UnitParse.l1
    rw [if_neg (by omega)]
    rfl
  | d + 1, i, h, hp => by
    obtain ⟨c, hc⟩ : ∃ c, x.getD i 0 = c := ⟨_, rfl⟩
    have hbt : bt (tx x) (i : Int) = (c.toNat : Int) := by rw [bt_tx, hc]
    have hget : x[i]? = some c := by
      rw [List.getD_eq_getElem?_getD, List.getElem?_eq_getElem (by omega)] at hc
      rw [List.getElem?_eq_getElem (by omega)]
      exact congrArg some hc
    have hm : c ∈ x := List.mem_of_getElem? hget
    have hac := ha c hm
    unfold asc at hac
    simp only [Bool.and_eq_true, decide_eq_true_eq, bne_iff_ne] at hac
    by_cases hg : good c = true
    · have hg' := hg
      unfold good at hg'
      simp only [Bool.or_eq_true, Bool.and_eq_true, beq_iff_eq, decide_eq_true_eq] at hg'
      refine Ev.succ (fun k => ?_) (up_l1 x5 x6 x x22 x23 x24 hx ha r hE d (i + 1) (by omega) (by
        rw [List.take_add_one, hget, List.all_append, hp]
        simp [hg]))
      conv => lhs; unfold spec_UnitParse.l1
      rw [if_pos (by omega), if_pos (by omega), if_pos (by rw [tx_size]; omega), hbt]
      by_cases h32 : c.toNat < 32
      · rw [if_pos (by omega), if_pos (by omega), if_neg (by omega), w1 i (by omega)]
      · rw [if_neg (by omega), if_neg (by omega), w1 i (by omega)]
    · have hno : ¬ x.all good = true := fun e => hg (List.all_eq_true.1 e c hm)
      rw [if_neg hno]
      have hg' : good c = false := by simpa using hg
      unfold good at hg'
      simp only [Bool.or_eq_false_iff, Bool.and_eq_false_iff, beq_eq_false_iff_ne, decide_eq_false_iff_not] at hg'
      refine Ev.succ (g := fun _ => some opn) (fun k => ?_) (Ev.val _)
      unfold spec_UnitParse.l1
      rw [if_pos (by omega), if_pos (by omega), if_pos (by rw [tx_size]; omega), hbt]
      by_cases h32 : c.toNat < 32
      · rw [if_pos (by omega), if_neg (by omega)]
      · rw [if_neg (by omega), if_pos (by omega)]
theorem up_j3_true (x5 : List SO) (x6 x8 : ByteArray) (x22 : List ByteArray) (x23 x24 : Int) : Ev (fun k => spec_UnitParse.j3 k x5 x6 x8 x22 x23 x24 true) opn := by
  refine Ev.succ (g := fun _ => some opn) (fun k => ?_) (Ev.val _)
  unfold spec_UnitParse.j3
  rw [if_pos rfl]
theorem head_eq {y : List UInt8} (k : UInt8) : bt (tx y) 0 = (k.toNat : Int) ↔ y.getD 0 0 = k := by
  rw [show (0 : Int) = ((0 : Nat) : Int) from rfl, bt_tx]
  exact ⟨fun e => UInt8.toNat_inj.1 (by omega), fun e => by rw [e]⟩
theorem last_eq {y : List UInt8} (hy : 1 ≤ y.length) (hl : y.length ≤ 1000000) (k : UInt8) : bt (tx y) (wrap64 (((tx y).size : Int) - 1)) = (k.toNat : Int) ↔ lastB y = k := by
  rw [tx_size, wm _ (by omega) hy, bt_tx]
  exact ⟨fun e => UInt8.toNat_inj.1 (show (lastB y).toNat = k.toNat by unfold lastB; omega), fun e => by rw [← e]; rfl⟩
theorem head_beq (y : List UInt8) (k : UInt8) : (bt (tx y) 0 == (k.toNat : Int)) = (y.getD 0 0 == k) := by
  by_cases h : y.getD 0 0 = k
  · rw [(head_eq k).2 h, h]; simp
  · rw [show (y.getD 0 0 == k) = false from beq_eq_false_iff_ne.2 h, beq_eq_false_iff_ne]
    exact mt (head_eq k).1 h
theorem up_l2_on (x5 : List SO) (x6 : ByteArray) (y : List UInt8) (a : Nat) (x22 : List ByteArray) (x23 x24 : Int) (hy : y.length ≤ 1000000) (r : List SO × Bool × Int) (hE : Ev (fun k => EX k x5 x6 (tx y) (a : Int) x22 x23 x24) r) : ∀ (d i : Nat), i + d = y.length →
    Ev (fun k => spec_UnitParse.l2 k x5 x6 (tx y) (a : Int) x22 x23 x24 (y.length : Int) (i : Int)) r
  | 0, i, h => by
    refine Ev.succ (fun k => ?_) hE
    conv => lhs; unfold spec_UnitParse.l2
    rw [if_neg (by omega)]
    rfl
  | d + 1, i, h => by
    refine Ev.succ (fun k => ?_) (up_l2_on x5 x6 y a x22 x23 x24 hy r hE d (i + 1) (by omega))
    conv => lhs; unfold spec_UnitParse.l2
    rw [if_pos (by omega), if_pos (by omega), if_pos (by rw [tx_size]; omega), w1 i (by omega)]
    split
    · rw [if_neg (by omega)]
    · rfl
theorem up_l2 (x5 : List SO) (x6 : ByteArray) (y : List UInt8) (x22 : List ByteArray) (x23 x24 : Int) (hy : y.length ≤ 1000000) (r : List SO × Bool × Int)
    (h0 : (61 : UInt8) ∉ y → Ev (fun k => EX k x5 x6 (tx y) (-1) x22 x23 x24) r) (h1 : ∀ n v, y = n ++ 61 :: v → (61 : UInt8) ∉ n → Ev (fun k => EX k x5 x6 (tx y) (n.length : Int) x22 x23 x24) r) : ∀ (d i : Nat), i + d = y.length → (61 : UInt8) ∉ y.take i →
    Ev (fun k => spec_UnitParse.l2 k x5 x6 (tx y) (-1) x22 x23 x24 (y.length : Int) (i : Int)) r
  | 0, i, h, hn => by
    rw [List.take_of_length_le (by omega)] at hn
    refine Ev.succ (fun k => ?_) (h0 hn)
    conv => lhs; unfold spec_UnitParse.l2
    rw [if_neg (by omega)]
    rfl
  | d + 1, i, h, hn => by
    obtain ⟨c, hc⟩ : ∃ c, y.getD i 0 = c := ⟨_, rfl⟩
    have hbt : bt (tx y) (i : Int) = (c.toNat : Int) := by rw [bt_tx, hc]
    have hd := drop_at (l := y) (i := i) (d := d) h
    rw [hc] at hd
    have hs : y = y.take i ++ c :: y.drop (i + 1) := by rw [← hd, List.take_append_drop]
    by_cases h61 : c = 61
    · have h2 := h1 (y.take i) (y.drop (i + 1)) (by rw [← h61]; exact hs) hn
      rw [List.length_take, Nat.min_eq_left (by omega)] at h2
      refine Ev.succ (fun k => ?_) (up_l2_on x5 x6 y i x22 x23 x24 hy r h2 d (i + 1) (by omega))
      conv => lhs; unfold spec_UnitParse.l2
      rw [if_pos (by omega), if_pos (by omega), if_pos (by rw [tx_size]; omega), hbt, if_pos (by rw [h61]; rfl), if_pos (by decide), w1 i (by omega)]
    · have hn61 : c.toNat ≠ 61 := fun e => h61 (UInt8.toNat_inj.1 e)
      refine Ev.succ (fun k => ?_) (up_l2 x5 x6 y x22 x23 x24 hy r h0 h1 d (i + 1) (by omega) (by
        rw [List.take_add_one, List.getElem?_eq_getElem (by omega)]
        intro e
        rcases List.mem_append.1 e with e | e
        · exact hn e
        · have hc2 : y[i]'(by omega) = c := by
            rw [List.getD_eq_getElem?_getD, List.getElem?_eq_getElem (by omega)] at hc
            exact hc
          rw [hc2] at e
          exact h61 (List.mem_singleton.1 (show (61 : UInt8) ∈ [c] from e)).symm))
      conv => lhs; unfold spec_UnitParse.l2
      rw [if_pos (by omega), if_pos (by omega), if_pos (by rw [tx_size]; omega), hbt, if_neg (by omega), w1 i (by omega)]
/-- The section as the reference keeps it. -/
def sx (M : Option (List UInt8)) : ByteArray := tx (M.getD [])
theorem trB_le (x : List UInt8) : (trB x).length ≤ x.length := by
  rcases split_bl x with h | ⟨p, q, m⟩
  · rw [trB_blank h]; exact Nat.zero_le _
  · have := congrArg List.length m.eq
    rw [List.length_append, List.length_append] at this
    omega
/-- Behind a line's own bytes: a line that does not go on and is no comment behind blanks. -/
theorem up_j4 (M : Option (List UInt8)) (hM : ∀ nm, M = some nm → nm ≠ []) (out : List O3) (y : List UInt8) (hy : y ≠ []) (hyl : y.length ≤ 1000000) (x22 : List ByteArray) (x23 : Int) (i : Nat) (hi : i ≤ 1000000) (hout : out.length ≤ 1000000) (P : Option (List UInt8) → List O3 → List O3 × Bool × Int)
    (ih : ∀ M' out', (∀ nm, M' = some nm → nm ≠ []) → out'.length ≤ out.length + 1 → Ev (fun k => spec_UnitParse.l0 k (out'.map cv) (sx M') x22 x23 ((i + 1 : Nat) : Int)) (res (P M' out'))) :
    Ev (fun k => spec_UnitParse.j4 k (out.map cv) (sx M) (tx y) x22 x23 (i : Int) false) (res (
      if y.getD 0 0 = 91 then (if lastB y = 93 ∧ secOk (y.drop 1).dropLast = true then P (some (y.drop 1).dropLast) out else ([], false, 2))
      else if M.isSome = false then ([], false, 2)
      else match eqAt y with
        | none => ([], false, 1)
        | some (n, v) => if nameOk (trB n) = true then P M (out ++ [(M.getD [], trB n, trB v)]) else ([], false, 2))) := by
  have hl1 : 1 ≤ y.length := List.length_pos_iff.2 hy
  have hw : wrap64 (((tx y).size : Int) - 1) = ((y.length - 1 : Nat) : Int) := by rw [tx_size, wm _ (by omega) hl1]
  have hm : (y.drop 1).dropLast = (y.drop 1).take (y.length - 1 - 1) := by rw [List.dropLast_eq_take, List.length_drop]
  by_cases h91 : y.getD 0 0 = 91
  · rw [if_pos h91]
    by_cases h93 : lastB y = 93
    · have hlen2 : 2 ≤ y.length := by
        rcases Nat.lt_or_ge 1 y.length with h | h
        · exact h
        · exfalso
          have e1 : y.length = 1 := by omega
          unfold lastB at h93
          rw [e1, h91] at h93
          exact absurd h93 (by decide)
      have hs := sec_is2 (y.drop 1).dropLast (by rw [List.length_dropLast, List.length_drop]; omega)
      refine Ev.succ (g := fun k => (spec_sectionName.f k (tx (y.drop 1).dropLast)).bind fun t142 => (if t142 = true then (spec_UnitParse.l0 k (out.map cv) (tx (y.drop 1).dropLast) x22 x23 ((i + 1 : Nat) : Int)) else (some (([] : List SO), false, 2)))) (fun k => ?_) (Ev.bind hs ?_)
      · have e91 : bt (tx y) 0 = 91 := (head_eq 91).2 h91
        conv => lhs; unfold spec_UnitParse.j4
        rw [if_neg (by decide), if_pos (by rw [tx_size]; omega), if_pos e91, hw, if_pos (by omega), if_pos (by rw [tx_size]; omega)]
        have hl : bt (tx y) (wrap64 (((tx y).size : Int) - 1)) = 93 := (last_eq hl1 hyl 93).2 h93
        rw [hw] at hl
        rw [if_pos hl, if_pos (by omega), if_pos (by rw [tx_size]; omega), Int.toNat_natCast, extract_tx, ← hm, w1 i (by omega)]
      · show Ev (fun k => if secOk (y.drop 1).dropLast = true then _ else _) _
        by_cases hok : secOk (y.drop 1).dropLast = true
        · rw [if_pos ⟨h93, hok⟩]
          refine Ev.same (fun k => if_pos hok) (ih (some (y.drop 1).dropLast) out (fun nm e => ?_) (by omega))
          injection e with e
          subst e
          rintro e
          rw [e] at hok
          exact absurd hok (by decide)
        · rw [if_neg (fun e => hok e.2)]
          exact Ev.same (fun k => if_neg hok) (Ev.val _)
    · rw [if_neg (fun e => h93 e.1)]
      refine Ev.succ (g := fun _ => some opn) (fun k => ?_) (Ev.val _)
      unfold spec_UnitParse.j4
      have hl : ¬ bt (tx y) (wrap64 (((tx y).size : Int) - 1)) = 93 := mt (last_eq hl1 hyl 93).1 h93
      have e91 : bt (tx y) 0 = 91 := (head_eq 91).2 h91
      rw [hw] at hl
      rw [if_neg (by decide), if_pos (by rw [tx_size]; omega), if_pos e91, hw, if_pos (by omega), if_pos (by rw [tx_size]; omega), if_neg hl]
  · rw [if_neg h91]
    refine Ev.succ (g := fun k => spec_UnitParse.l2 k (out.map cv) (sx M) (tx y) (-1) x22 x23 (i : Int) (y.length : Int) ((0 : Nat) : Int)) (fun k => ?_) ?_
    · have e91 : ¬ bt (tx y) 0 = 91 := mt (head_eq 91).1 h91
      conv => lhs; unfold spec_UnitParse.j4
      rw [if_neg (by decide), if_pos (by rw [tx_size]; omega), if_neg e91, tx_size]
      rfl
    · refine up_l2 _ _ y x22 x23 _ hyl _ (fun hn => ?_) (fun n v e hn => ?_) y.length 0 (by omega) (by simp)
      · cases M with
        | none =>
          rw [if_pos (show (none : Option (List UInt8)).isSome = false from rfl)]
          refine Ev.same (fun k => ?_) (Ev.val _)
          unfold EX sx
          rw [if_pos (show (tx ((none : Option (List UInt8)).getD [])).toList = [] from toList_tx _)]
          rfl
        | some nm =>
          rw [if_neg (by simp)]
          have he : eqAt y = none := by
            cases h : eqAt y with
            | none => rfl
            | some q => exact absurd (by rw [(eqAt_some y q.1 q.2 h).1]; exact List.mem_append_right _ List.mem_cons_self) hn
          rw [he]
          refine Ev.same (fun k => ?_) (Ev.val _)
          unfold EX sx
          rw [if_neg (by rw [toList_tx]; exact hM nm rfl), if_pos (by decide)]
          rfl
      · cases M with
        | none =>
          rw [if_pos (show (none : Option (List UInt8)).isSome = false from rfl)]
          refine Ev.same (fun k => ?_) (Ev.val _)
          unfold EX sx
          rw [if_pos (show (tx ((none : Option (List UInt8)).getD [])).toList = [] from toList_tx _)]
          rfl
        | some nm =>
          rw [if_neg (by simp)]
          have he : eqAt y = some (n, v) := by
            cases h : eqAt y with
            | none => exact absurd (by rw [e]; exact List.mem_append_right _ List.mem_cons_self) (eqAt_none y h)
            | some q =>
              obtain ⟨e1, e2⟩ := eqAt_some y q.1 q.2 h
              have hlen : q.1.length = n.length := by
                rcases Nat.lt_trichotomy q.1.length n.length with hl | hl | hl
                · exfalso
                  have : n[q.1.length]? = some 61 := by
                    have h2 : y[q.1.length]? = some 61 := by rw [e1, List.getElem?_append_right (Nat.le_refl _), Nat.sub_self]; rfl
                    rw [e, List.getElem?_append_left hl] at h2
                    exact h2
                  exact hn (List.mem_of_getElem? this)
                · exact hl
                · exfalso
                  have : q.1[n.length]? = some 61 := by
                    have h2 : y[n.length]? = some 61 := by rw [e, List.getElem?_append_right (Nat.le_refl _), Nat.sub_self]; rfl
                    rw [e1, List.getElem?_append_left hl] at h2
                    exact h2
                  exact e2 (List.mem_of_getElem? this)
              have h3 := List.append_inj (e1.symm.trans e) hlen
              have h4 := List.cons.inj h3.2
              rw [← h3.1, ← h4.2]
          rw [he]
          have hyn : y.length = n.length + (v.length + 1) := by rw [e, List.length_append, List.length_cons]
          have x1 : (tx y).extract 0 n.length = tx n := by
            rw [extract_tx, List.drop_zero, Nat.sub_zero, e, List.take_left]
          have x2 : (tx y).extract (n.length + 1) (tx y).size = tx v := by
            rw [extract_tx, tx_size, e]
            congr 1
            rw [show n ++ 61 :: v = (n ++ [61]) ++ v by simp, show n.length + 1 = (n ++ [61]).length by simp, List.drop_left]
            exact List.take_of_length_le (by simp only [List.length_append, List.length_singleton]; omega)
          refine Ev.same (g := fun k => (spec_trimmed.f k (tx n)).bind fun t143 => (spec_trimmed.f k (tx v)).bind fun t144 => (spec_optionName.f k t143).bind fun t146 => (if t146 = true then (spec_UnitParse.l0 k (out.map cv ++ [(⟨sx (some nm), t143, t144⟩ : SO)]) (sx (some nm)) x22 x23 ((i + 1 : Nat) : Int)) else (some (([] : List SO), false, 2)))) (fun k => ?_) ?_
          · unfold EX
            have c1 : (0 : Int) ≤ ((n.length + 1 : Nat) : Int) := by omega
            have c2 : ((n.length + 1 : Nat) : Int) ≤ ((tx y).size : Int) := by rw [tx_size]; omega
            have c3 : (out.map cv).length < 2932031007402 := by rw [List.length_map]; omega
            rw [if_neg (by unfold sx; rw [toList_tx]; exact hM nm rfl), if_neg (by omega), if_pos (by omega), if_pos (by rw [tx_size]; omega)]
            simp only [w1 n.length (by omega), w1 i (by omega), Int.toNat_natCast, x1, x2, if_pos c1, if_pos c2, if_pos c3]
          · refine Ev.bind (trimmed_is n (by omega)) (Ev.bind (trimmed_is v (by omega)) (Ev.bind (name_is2 (trB n) (by have := trB_le n; omega)) ?_))
            show Ev (fun k => if nameOk (trB n) = true then _ else _) (res (if nameOk (trB n) = true then _ else _))
            by_cases hok : nameOk (trB n) = true
            · rw [if_pos hok]
              have := ih (some nm) (out ++ [(nm, trB n, trB v)]) hM (by rw [List.length_append, List.length_singleton]; exact Nat.le_refl _)
              rw [List.map_append] at this
              exact Ev.same (fun k => if_pos hok) this
            · rw [if_neg hok]
              exact Ev.same (fun k => if_neg hok) (Ev.val _)
end Go.Proofs.YtlmmgienbmghmaaDoor.PureR

/- The plain law of FnUnitRead: any text is read as the options that it means, or refused. -/
set_option linter.unusedVariables false
set_option linter.unusedSimpArgs false
namespace Go.Proofs.YtlmmgienbmghmaaDoor.PureR
open Go.RowKit Go.Proofs.YtlmmgienbmghmaaDoorW.PrintWords Go.Proofs.YtlmmgienbmghmaaDoorW.PrintLast Go.Proofs.YtlmmgienbmghmaaDoorW.PrintMore Go.Proofs.YtlmmgienbmghmaaDoor.Lex Go.Proofs.YtlmmgienbmghmaaDoor.UDoor Go.Proofs.YtlmmgienbmghmaaDoor.DoorU Go.Proofs.YtlmmgienbmghmaaDoor.PureT Go.Proofs.YtlmmgienbmghmaaDoor.PureS Go.Proofs.YtlmmgienbmghmaaDoor.L Go.Proofs.YtlmmgienbmghmaaDoor.M Go.Proofs.YtlmmgienbmghmaaDoor.PureUL
theorem up_j3 (M : Option (List UInt8)) (hM : ∀ nm, M = some nm → nm ≠ []) (out : List O3) (x : List UInt8) (hy : trB x ≠ []) (hxl : x.length ≤ 1000000) (x22 : List ByteArray) (x23 : Int) (i : Nat) (hi : i ≤ 1000000) (hout : out.length ≤ 1000000) (P : Option (List UInt8) → List O3 → List O3 × Bool × Int)
    (ih : ∀ M' out', (∀ nm, M' = some nm → nm ≠ []) → out'.length ≤ out.length + 1 → Ev (fun k => spec_UnitParse.l0 k (out'.map cv) (sx M') x22 x23 ((i + 1 : Nat) : Int)) (res (P M' out'))) :
    Ev (fun k => spec_UnitParse.j3 k (out.map cv) (sx M) (tx x) x22 x23 (i : Int) false) (res (
      if lastB (trB x) = 92 then ([], false, 2)
      else if (trB x).getD 0 0 = 35 ∨ (trB x).getD 0 0 = 59 then P M out
      else if (trB x).getD 0 0 = 91 then (if lastB (trB x) = 93 ∧ secOk ((trB x).drop 1).dropLast = true then P (some ((trB x).drop 1).dropLast) out else ([], false, 2))
      else if M.isSome = false then ([], false, 2)
      else match eqAt (trB x) with
        | none => ([], false, 1)
        | some (n, v) => if nameOk (trB n) = true then P M (out ++ [(M.getD [], trB n, trB v)]) else ([], false, 2))) := by
  have hyl := trB_le x
  have ht := trimmed_is x hxl
  generalize trB x = y at hy hyl ht ⊢
  have hl1 : 1 ≤ y.length := List.length_pos_iff.2 hy
  have hw : wrap64 (((tx y).size : Int) - 1) = ((y.length - 1 : Nat) : Int) := by rw [tx_size, wm _ (by omega) hl1]
  have c1 : (0 : Int) ≤ wrap64 (((tx y).size : Int) - 1) := by rw [hw]; omega
  have c2 : wrap64 (((tx y).size : Int) - 1) < ((tx y).size : Int) := by rw [hw, tx_size]; omega
  have c3 : (0 : Int) < ((tx y).size : Int) := by rw [tx_size]; omega
  refine Ev.succ (g := fun k => (spec_trimmed.f k (tx x)).bind fun t141 => (if 0 ≤ (wrap64 ((t141.size : Int) - 1)) then (if (wrap64 ((t141.size : Int) - 1)) < (t141.size : Int) then (if (bt t141 (wrap64 ((t141.size : Int) - 1))) = 92 then (some (([] : List SO), false, 2)) else (if 0 < (t141.size : Int) then (if (bt t141 0) = 35 then (spec_UnitParse.j4 k (out.map cv) (sx M) t141 x22 x23 (i : Int) true) else (spec_UnitParse.j4 k (out.map cv) (sx M) t141 x22 x23 (i : Int) ((bt t141 0) == 59))) else (none))) else (none)) else (none))) (fun k => ?_) (Ev.bind ht ?_)
  · conv => lhs; unfold spec_UnitParse.j3
    rw [if_neg (by decide)]
  · have hj4 : Ev (fun k => spec_UnitParse.j4 k (out.map cv) (sx M) (tx y) x22 x23 (i : Int) true) (res (P M out)) := by
      refine Ev.succ (fun k => ?_) (ih M out hM (by omega))
      conv => lhs; unfold spec_UnitParse.j4
      rw [if_pos rfl, w1 i (by omega)]
    by_cases h92 : lastB y = 92
    · rw [if_pos h92]
      have e : bt (tx y) (wrap64 (((tx y).size : Int) - 1)) = 92 := (last_eq hl1 (by omega) 92).2 h92
      refine Ev.same (fun k => ?_) (Ev.val _)
      show (if _ then _ else _) = _
      rw [if_pos c1, if_pos c2, if_pos e]
      rfl
    · rw [if_neg h92]
      have e : ¬ bt (tx y) (wrap64 (((tx y).size : Int) - 1)) = 92 := mt (last_eq hl1 (by omega) 92).1 h92
      by_cases h35 : y.getD 0 0 = 35
      · rw [if_pos (.inl h35)]
        have e2 : bt (tx y) 0 = 35 := (head_eq 35).2 h35
        refine Ev.same (fun k => ?_) hj4
        show (if _ then _ else _) = _
        rw [if_pos c1, if_pos c2, if_neg e, if_pos c3, if_pos e2]
      · have e2 : ¬ bt (tx y) 0 = 35 := mt (head_eq 35).1 h35
        have e3 : (bt (tx y) 0 == 59) = (y.getD 0 0 == 59) := head_beq y 59
        by_cases h59 : y.getD 0 0 = 59
        · rw [if_pos (.inr h59)]
          refine Ev.same (fun k => ?_) hj4
          show (if _ then _ else _) = _
          rw [if_pos c1, if_pos c2, if_neg e, if_pos c3, if_neg e2, e3, h59]
          rfl
        · rw [if_neg (by rintro (h | h); exact h35 h; exact h59 h)]
          refine Ev.same (fun k => ?_) (up_j4 M hM out y hy (by omega) x22 x23 i hi hout P ih)
          show (if _ then _ else _) = _
          rw [if_pos c1, if_pos c2, if_neg e, if_pos c3, if_neg e2, e3, show (y.getD 0 0 == 59) = false from beq_eq_false_iff_ne.2 h59]
theorem up_EL (M : Option (List UInt8)) (hM : ∀ nm, M = some nm → nm ≠ []) (out : List O3) (x : List UInt8) (hxl : x.length ≤ 1000000) (hg : x.all good = true) (x22 : List ByteArray) (x23 : Int) (i : Nat) (hi : i ≤ 1000000) (hout : out.length ≤ 1000000) (L : List (List UInt8))
    (ih : ∀ M' out', (∀ nm, M' = some nm → nm ≠ []) → out'.length ≤ out.length + 1 → Ev (fun k => spec_UnitParse.l0 k (out'.map cv) (sx M') x22 x23 ((i + 1 : Nat) : Int)) (res (parseL 1900 M' L out'))) :
    Ev (fun k => EL k (out.map cv) (sx M) (tx x) x22 x23 (i : Int)) (res (parseL 1900 M (x :: L) out)) := by
  have hg0 : ¬ x.all good = false := by rw [hg]; decide
  have ht := trimmed_is x hxl
  by_cases h0 : trB x = []
  · by_cases hx : x = []
    · have e : parseL 1900 M (x :: L) out = parseL 1900 M L out := by
        subst hx
        rfl
      rw [e]
      refine Ev.bind ht (Ev.same (fun k => ?_) (ih M out hM (by omega)))
      show (if (tx (trB x)).toList = [] then _ else _) = _
      rw [if_pos (by rw [toList_tx]; exact h0), if_pos (by rw [toList_tx]; exact hx), w1 i (by omega)]
    · have e : parseL 1900 M (x :: L) out = ([], false, 2) := by
        have hr : lineR M.isSome x = .opn := by unfold lineR; rw [if_neg hg0, if_pos h0, if_neg hx]
        unfold parseL
        split
        · rfl
        · rw [hr]
      rw [e]
      refine Ev.bind ht (Ev.same (fun k => ?_) (Ev.val _))
      show (if (tx (trB x)).toList = [] then _ else _) = _
      rw [if_pos (by rw [toList_tx]; exact h0), if_neg (by rw [toList_tx]; exact hx)]
      rfl
  · have hx : x ≠ [] := by
      rintro rfl
      exact h0 rfl
    have hl1 : 1 ≤ x.length := List.length_pos_iff.2 hx
    have hw : wrap64 (((tx x).size : Int) - 1) = ((x.length - 1 : Nat) : Int) := by rw [tx_size, wm _ (by omega) hl1]
    have c1 : (0 : Int) ≤ wrap64 (((tx x).size : Int) - 1) := by rw [hw]; omega
    have c2 : wrap64 (((tx x).size : Int) - 1) < ((tx x).size : Int) := by rw [hw, tx_size]; omega
    have c3 : (0 : Int) < ((tx x).size : Int) := by rw [tx_size]; omega
    have c4 : (0 : Int) < ((tx (trB x)).size : Int) := by have := List.length_pos_iff.2 h0; rw [tx_size]; omega
    have hb : bt (tx x) 0 = ((x.getD 0 0).toNat : Int) := bt_tx x 0
    have h0' : ¬ (tx (trB x)).toList = [] := by rw [toList_tx]; exact h0
    by_cases hlong : 1900 < x.length
    · have e : parseL 1900 M (x :: L) out = ([], false, 2) := by
        unfold parseL
        rw [if_pos hlong]
      rw [e]
      refine Ev.bind ht ?_
      refine Ev.same (fun k => ?_) (up_j3_true (out.map cv) (sx M) (tx x) x22 x23 (i : Int))
      show (if (tx (trB x)).toList = [] then _ else _) = _
      rw [if_neg h0', if_pos c1, if_pos c2]
      split
      · rfl
      · rw [if_pos (by rw [tx_size]; omega)]
    · have c5 : ¬ ((tx x).size : Int) > 1900 := by rw [tx_size]; omega
      by_cases h92 : lastB x = 92
      · have hr : lineR M.isSome x = .opn := by unfold lineR; rw [if_neg hg0, if_neg h0, if_pos (.inl h92)]
        have e : parseL 1900 M (x :: L) out = ([], false, 2) := by
          unfold parseL
          rw [if_neg hlong, hr]
        rw [e]
        refine Ev.bind ht ?_
        refine Ev.same (fun k => ?_) (up_j3_true (out.map cv) (sx M) (tx x) x22 x23 (i : Int))
        have e9 : bt (tx x) (wrap64 (((tx x).size : Int) - 1)) = 92 := (last_eq hl1 hxl 92).2 h92
        show (if (tx (trB x)).toList = [] then _ else _) = _
        rw [if_neg h0', if_pos c1, if_pos c2, if_pos e9]
      · have e9 : ¬ bt (tx x) (wrap64 (((tx x).size : Int) - 1)) = 92 := mt (last_eq hl1 hxl 92).1 h92
        have hj3 := up_j3 M hM out x h0 hxl x22 x23 i hi hout (fun M' out' => parseL 1900 M' L out') ih
        by_cases hop : bl (x.getD 0 0) = true ∧ ((trB x).getD 0 0 = 35 ∨ (trB x).getD 0 0 = 59)
        · have hr : lineR M.isSome x = .opn := by unfold lineR; rw [if_neg hg0, if_neg h0, if_pos (.inr hop)]
          have e : parseL 1900 M (x :: L) out = ([], false, 2) := by
            unfold parseL
            rw [if_neg hlong, hr]
          rw [e]
          refine Ev.bind ht ?_
          refine Ev.same (g := fun k => (spec_trimmed.f k (tx x)).bind fun t139 => (if 0 < (t139.size : Int) then (if (bt t139 0) = 35 then (spec_UnitParse.j3 k (out.map cv) (sx M) (tx x) x22 x23 (i : Int) true) else ((spec_trimmed.f k (tx x)).bind fun t140 => (if 0 < (t140.size : Int) then (spec_UnitParse.j3 k (out.map cv) (sx M) (tx x) x22 x23 (i : Int) ((bt t140 0) == 59)) else (none)))) else (none))) (fun k => ?_) (Ev.bind ht ?_)
          · show (if (tx (trB x)).toList = [] then _ else _) = _
            rw [if_neg h0', if_pos c1, if_pos c2, if_neg e9, if_neg c5, if_pos c3, hb, blank_is, Option.bind_some, if_pos hop.1]
          · by_cases h35 : (trB x).getD 0 0 = 35
            · have e2 : bt (tx (trB x)) 0 = 35 := (head_eq 35).2 h35
              refine Ev.same (fun k => ?_) (up_j3_true (out.map cv) (sx M) (tx x) x22 x23 (i : Int))
              show (if _ then _ else _) = _
              rw [if_pos c4, if_pos e2]
            · have e2 : ¬ bt (tx (trB x)) 0 = 35 := mt (head_eq 35).1 h35
              have h59 : (trB x).getD 0 0 = 59 := hop.2.resolve_left h35
              have e3 : (bt (tx (trB x)) 0 == 59) = true := (head_beq (trB x) 59).trans (by rw [h59]; rfl)
              refine Ev.same (g := fun k => (spec_trimmed.f k (tx x)).bind fun t140 => (if 0 < (t140.size : Int) then (spec_UnitParse.j3 k (out.map cv) (sx M) (tx x) x22 x23 (i : Int) ((bt t140 0) == 59)) else (none))) (fun k => ?_) (Ev.bind ht ?_)
              · show (if _ then _ else _) = _
                rw [if_pos c4, if_neg e2]
              · refine Ev.same (fun k => ?_) (up_j3_true (out.map cv) (sx M) (tx x) x22 x23 (i : Int))
                show (if _ then _ else _) = _
                rw [if_pos c4, e3]
        · have hr : lineR M.isSome x = (if lastB (trB x) = 92 then .opn
              else if (trB x).getD 0 0 = 35 ∨ (trB x).getD 0 0 = 59 then .skip
              else if (trB x).getD 0 0 = 91 then (if lastB (trB x) = 93 ∧ secOk ((trB x).drop 1).dropLast = true then .sec ((trB x).drop 1).dropLast else .opn)
              else if M.isSome = false then .opn
              else match eqAt (trB x) with
                | none => .noeq
                | some (n, v) => if nameOk (trB n) = true then .opt (trB n) (trB v) else .opn) := by
            unfold lineR
            rw [if_neg hg0, if_neg h0, if_neg (fun h => h.elim h92 hop)]
            rfl
          have e : parseL 1900 M (x :: L) out = (if lastB (trB x) = 92 then ([], false, 2)
              else if (trB x).getD 0 0 = 35 ∨ (trB x).getD 0 0 = 59 then parseL 1900 M L out
              else if (trB x).getD 0 0 = 91 then (if lastB (trB x) = 93 ∧ secOk ((trB x).drop 1).dropLast = true then parseL 1900 (some ((trB x).drop 1).dropLast) L out else ([], false, 2))
              else if M.isSome = false then ([], false, 2)
              else match eqAt (trB x) with
                | none => ([], false, 1)
                | some (n, v) => if nameOk (trB n) = true then parseL 1900 M L (out ++ [(M.getD [], trB n, trB v)]) else ([], false, 2)) := by
            conv => lhs; unfold parseL
            rw [if_neg hlong, hr]
            by_cases a1 : lastB (trB x) = 92
            · rw [if_pos a1, if_pos a1]
            · rw [if_neg a1, if_neg a1]
              by_cases a2 : (trB x).getD 0 0 = 35 ∨ (trB x).getD 0 0 = 59
              · rw [if_pos a2, if_pos a2]
              · rw [if_neg a2, if_neg a2]
                by_cases a3 : (trB x).getD 0 0 = 91
                · rw [if_pos a3, if_pos a3]
                  by_cases a4 : lastB (trB x) = 93 ∧ secOk ((trB x).drop 1).dropLast = true
                  · rw [if_pos a4, if_pos a4]
                  · rw [if_neg a4, if_neg a4]
                · rw [if_neg a3, if_neg a3]
                  by_cases a4 : M.isSome = false
                  · rw [if_pos a4, if_pos a4]
                  · rw [if_neg a4, if_neg a4]
                    cases eqAt (trB x) with
                    | none => rfl
                    | some q =>
                      obtain ⟨n, v⟩ := q
                      simp only
                      by_cases a5 : nameOk (trB n) = true
                      · rw [if_pos a5, if_pos a5]
                      · rw [if_neg a5, if_neg a5]
          rw [e]
          refine Ev.bind ht ?_
          by_cases hbl : bl (x.getD 0 0) = true
          · have h35 : ¬ (trB x).getD 0 0 = 35 := fun h => hop ⟨hbl, .inl h⟩
            have h59 : ¬ (trB x).getD 0 0 = 59 := fun h => hop ⟨hbl, .inr h⟩
            have e2 : ¬ bt (tx (trB x)) 0 = 35 := mt (head_eq 35).1 h35
            have e3 : (bt (tx (trB x)) 0 == 59) = false := (head_beq (trB x) 59).trans (beq_eq_false_iff_ne.2 h59)
            refine Ev.same (g := fun k => (spec_trimmed.f k (tx x)).bind fun t139 => (if 0 < (t139.size : Int) then (if (bt t139 0) = 35 then (spec_UnitParse.j3 k (out.map cv) (sx M) (tx x) x22 x23 (i : Int) true) else ((spec_trimmed.f k (tx x)).bind fun t140 => (if 0 < (t140.size : Int) then (spec_UnitParse.j3 k (out.map cv) (sx M) (tx x) x22 x23 (i : Int) ((bt t140 0) == 59)) else (none)))) else (none))) (fun k => ?_) (Ev.bind ht ?_)
            · show (if (tx (trB x)).toList = [] then _ else _) = _
              rw [if_neg h0', if_pos c1, if_pos c2, if_neg e9, if_neg c5, if_pos c3, hb, blank_is, Option.bind_some, if_pos hbl]
            · refine Ev.same (g := fun k => (spec_trimmed.f k (tx x)).bind fun t140 => (if 0 < (t140.size : Int) then (spec_UnitParse.j3 k (out.map cv) (sx M) (tx x) x22 x23 (i : Int) ((bt t140 0) == 59)) else (none))) (fun k => ?_) (Ev.bind ht ?_)
              · show (if _ then _ else _) = _
                rw [if_pos c4, if_neg e2]
              · refine Ev.same (fun k => ?_) hj3
                show (if _ then _ else _) = _
                rw [if_pos c4, e3]
          · refine Ev.same (fun k => ?_) hj3
            show (if (tx (trB x)).toList = [] then _ else _) = _
            rw [if_neg h0', if_pos c1, if_pos c2, if_neg e9, if_neg c5, if_pos c3, hb, blank_is, Option.bind_some, if_neg hbl]
theorem up_l0 (A : List (List UInt8)) (hA : A.length ≤ 1000000) (hx : ∀ x ∈ A, x.length ≤ 1000000 ∧ ∀ c ∈ x, asc c = true) : ∀ (L : List (List UInt8)) (i : Nat) (M : Option (List UInt8)) (out : List O3), A.drop i = L → i + L.length = A.length → (∀ nm, M = some nm → nm ≠ []) → out.length ≤ i →
    Ev (fun k => spec_UnitParse.l0 k (out.map cv) (sx M) (A.map tx) (A.length : Int) (i : Int)) (res (parseL 1900 M L out))
  | [], i, M, out, hd, hi, hM, ho => by
    refine Ev.succ (g := fun _ => some (out.map cv, true, 1)) (fun k => ?_) (Ev.val _)
    unfold spec_UnitParse.l0
    rw [if_neg (by simp only [List.length_nil] at hi; omega)]
  | x :: L, i, M, out, hd, hi, hM, ho => by
    rw [List.length_cons] at hi
    have hget : A[i]? = some x := by
      have := congrArg (fun l => l[0]?) hd
      simpa [List.getElem?_drop] using this
    have hm : x ∈ A := List.mem_of_getElem? hget
    have hrd : rdOf ByteArray.empty (A.map tx) (i : Int) = tx x := by
      unfold rdOf
      rw [Int.toNat_natCast, List.getD_eq_getElem?_getD, List.getElem?_map, hget]
      rfl
    obtain ⟨hxl, hxa⟩ := hx x hm
    have hd2 : A.drop (i + 1) = L := by rw [← List.drop_drop, hd]; rfl
    have hE : x.all good = true → Ev (fun k => EL k (out.map cv) (sx M) (tx x) (A.map tx) (A.length : Int) (i : Int)) (res (parseL 1900 M (x :: L) out)) := fun hg =>
      up_EL M hM out x hxl hg (A.map tx) (A.length : Int) i (by omega) (by omega) L fun M' out' hM' ho' => up_l0 A hA hx L (i + 1) M' out' hd2 (by omega) hM' (by omega)
    have h1 := up_l1 (out.map cv) (sx M) x (A.map tx) (A.length : Int) (i : Int) hxl hxa _ hE x.length 0 (by omega) (by rw [List.take_zero]; rfl)
    have hr : (if x.all good = true then res (parseL 1900 M (x :: L) out) else opn) = res (parseL 1900 M (x :: L) out) := by
      by_cases hg : x.all good = true
      · rw [if_pos hg]
      · rw [if_neg hg]
        have e : parseL 1900 M (x :: L) out = ([], false, 2) := by
          have hl : lineR M.isSome x = .opn := by unfold lineR; rw [if_pos (by simpa using hg)]
          unfold parseL
          split
          · rfl
          · rw [hl]
        rw [e]
        rfl
    rw [hr] at h1
    refine Ev.succ (fun k => ?_) h1
    conv => lhs; unfold spec_UnitParse.l0
    rw [if_pos (by omega), if_pos (by omega), if_pos (by rw [List.length_map]; omega), hrd, tx_size]
    rfl
/-- The lines of a text are no longer, and no more, than it. -/
theorem lines_mem : ∀ (l cur : List UInt8), (∀ x ∈ cutL cur l, x.length ≤ cur.length + l.length ∧ ∀ c ∈ x, c ∈ cur ∨ c ∈ l) ∧ (cutL cur l).length ≤ l.length + 1
  | [], cur => by
    unfold cutL
    split
    · exact ⟨(fun x hx => by cases hx), Nat.zero_le _⟩
    · refine ⟨fun x hx => ?_, Nat.le_refl _⟩
      rw [List.mem_singleton.1 hx]
      exact ⟨by omega, fun c hc => .inl hc⟩
  | c :: l, cur => by
    unfold cutL
    split
    · obtain ⟨h1, h2⟩ := lines_mem l []
      refine ⟨fun x hx => ?_, by simp only [List.length_cons]; omega⟩
      rcases List.mem_cons.1 hx with e | e
      · rw [e]
        exact ⟨by simp only [List.length_cons]; omega, fun d hd => .inl hd⟩
      · obtain ⟨h3, h4⟩ := h1 x e
        refine ⟨by simp only [List.length_cons, List.length_nil] at h3 ⊢; omega, fun d hd => .inr (List.mem_cons_of_mem _ ?_)⟩
        rcases h4 d hd with h5 | h5
        · cases h5
        · exact h5
    · obtain ⟨h1, h2⟩ := lines_mem l (cur ++ [c])
      refine ⟨fun x hx => ?_, by simp only [List.length_cons]; omega⟩
      obtain ⟨h3, h4⟩ := h1 x hx
      refine ⟨by simp only [List.length_append, List.length_cons, List.length_nil] at h3 ⊢; omega, fun d hd => ?_⟩
      rcases h4 d hd with h5 | h5
      · rcases List.mem_append.1 h5 with h6 | h6
        · exact .inl h6
        · exact .inr (by rw [List.mem_singleton.1 h6]; exact List.mem_cons_self)
      · exact .inr (List.mem_cons_of_mem _ h5)
def parse (l : List UInt8) : List O3 × Bool × Int := if l.all asc = true then parseL 1900 none (lines l) [] else ([], false, 2)
theorem parse_is (l : List UInt8) (hl : l.length ≤ 65536) : Ev (fun k => spec_UnitParse.f k (tx l)) (res (parse l)) := by
  refine Ev.same (fun k => by unfold spec_UnitParse.f; rfl) (Ev.bind (ascii_is l (by omega)) ?_)
  unfold parse
  by_cases h : l.all asc = true
  · rw [if_pos h]
    have hd : decide (((tx l).size : Int) > 65536) = false := decide_eq_false (by rw [tx_size]; omega)
    refine Ev.same (g := fun k => spec_UnitParse.j0 k (tx l) false) (fun k => ?_) ?_
    · show (if l.all asc = true then _ else _) = _
      rw [if_pos h, hd]
    · refine Ev.succ (g := fun k => (spec_cutLines.f k (tx l)).bind fun t133 => (spec_UnitParse.l0 k ([] : List SO) (⟨#[]⟩ : ByteArray) t133 (t133.length : Int) 0)) (fun k => ?_) (Ev.bind (cut_is l (by omega)) ?_)
      · rfl
      · obtain ⟨h1, h2⟩ := lines_mem l []
        have := up_l0 (lines l) (by unfold lines; omega) (fun x hx => ⟨by have := (h1 x hx).1; simp only [List.length_nil] at this; omega, fun c hc => by
          rcases (h1 x hx).2 c hc with e | e
          · cases e
          · exact List.all_eq_true.1 h c e⟩) (lines l) 0 none [] rfl (by omega) (fun _ e => by cases e) (Nat.le_refl _)
        refine Ev.same (fun k => ?_) this
        show spec_UnitParse.l0 k ([] : List SO) (⟨#[]⟩ : ByteArray) ((lines l).map tx) (((lines l).map tx).length : Int) 0 = _
        rw [List.length_map]
        rfl
  · rw [if_neg h]
    refine Ev.same (g := fun k => spec_UnitParse.j0 k (tx l) true) (fun k => ?_) ?_
    · show (if l.all asc = true then _ else _) = _
      rw [if_neg h]
    · refine Ev.succ (g := fun _ => some opn) (fun k => ?_) (Ev.val _)
      rfl
def sc (o : SO) : S28 := ⟨o.f0, o.f1, o.f2⟩
theorem from_l0 (l : List SO) (hl : l.length ≤ 1000000) : ∀ (d i : Nat) (out : List S28), i + d = l.length → out.length = i → Ev (fun k => laws_fromSpec.l0 k out l (l.length : Int) (i : Int)) (out ++ (l.drop i).map sc)
  | 0, i, out, h, ho => by
    rw [List.drop_eq_nil_iff.2 (by omega), List.map_nil, List.append_nil]
    refine Ev.succ (g := fun _ => some out) (fun k => ?_) (Ev.val _)
    unfold laws_fromSpec.l0
    rw [if_neg (by omega)]
  | d + 1, i, out, h, ho => by
    have hi : i < l.length := by omega
    have hrd : rd_T52 l (i : Int) = l[i] := by
      unfold rd_T52
      rw [Int.toNat_natCast, List.getD_eq_getElem?_getD, List.getElem?_eq_getElem hi]
      rfl
    have := from_l0 l hl d (i + 1) (out ++ [sc l[i]]) (by omega) (by rw [List.length_append, ho]; rfl)
    rw [List.drop_eq_getElem_cons hi, List.map_cons]
    rw [List.append_assoc] at this
    refine Ev.succ (fun k => ?_) this
    conv => lhs; unfold laws_fromSpec.l0
    rw [if_pos (by omega), if_pos (by omega), if_pos (by omega), if_pos (by omega), hrd, w1 i (by omega)]
    rfl
theorem parseL_len (lim : Nat) : ∀ (L : List (List UInt8)) (M : Option (List UInt8)) (out : List O3), (parseL lim M L out).1.length ≤ out.length + L.length
  | [], M, out => by unfold parseL; show out.length ≤ _; omega
  | x :: L, M, out => by
    unfold parseL
    split
    · exact Nat.zero_le _
    · split
      · exact Nat.zero_le _
      · have := parseL_len lim L M out
        rw [List.length_cons]; omega
      · rename_i nm _
        have := parseL_len lim L (some nm) out
        rw [List.length_cons]; omega
      · exact Nat.zero_le _
      · rename_i n v _
        have := parseL_len lim L M (out ++ [(M.getD [], n, v)])
        rw [List.length_append, List.length_singleton] at this
        rw [List.length_cons]; omega
theorem tx_T (t : ByteArray) : tx (T t) = t := Lib.mk_data t
theorem pure : laws_FnUnitRead.Pure := by
  intro a0 _
  by_cases h1 : (a0.size : Int) > 2147483647
  · exact ⟨0, by unfold laws_FnUnitRead.f; rw [if_pos h1]⟩
  · by_cases h2 : (a0.size : Int) > 20000
    · exact ⟨0, by unfold laws_FnUnitRead.f; rw [if_neg h1, if_pos h2]⟩
    · obtain ⟨R, S, O, r1, r2, r3, r4, r5⟩ := read_all a0 (by omega)
      obtain ⟨k0, hk⟩ := parse_is (T a0) (by rw [len_t]; omega)
      rw [tx_T] at hk
      have hlen : (parse (T a0)).1.length ≤ 1000000 := by
        unfold parse
        split
        · have e1 := parseL_len 1900 (lines (T a0)) none []
          have e2 := (lines_mem (T a0) []).2
          rw [len_t] at e2
          unfold lines at e1 ⊢
          simp only [List.length_nil] at e1
          omega
        · exact Nat.zero_le _
      obtain ⟨k1, hf⟩ := from_l0 ((parse (T a0)).1.map cv) (by rw [List.length_map]; exact hlen) ((parse (T a0)).1.map cv).length 0 [] (by omega) rfl
      refine ⟨max k0 (max k1 1000002), ?_⟩
      generalize hK : max k0 (max k1 1000002) = K
      have hk' : spec_UnitParse.f K a0 = some (res (parse (T a0))) := hk K (by omega)
      have hf' : laws_fromSpec.f K ((parse (T a0)).1.map cv) = some (((parse (T a0)).1.map cv).map sc) := hf K (by omega)
      unfold laws_FnUnitRead.f
      rw [if_neg h1, if_neg h2]
      by_cases hy : (parse (T a0)).2.2 = 1
      · have hp : parseL 1900 none (lines (T a0)) [] = ((parse (T a0)).1, (parse (T a0)).2.1, 1) := by
          have e : parse (T a0) = parseL 1900 none (lines (T a0)) [] := by
            unfold parse at hy ⊢
            split at hy
            · rename_i h; rw [if_pos h]
            · exact absurd hy (by decide)
          rw [← e, ← hy]
        have hs := read_says (t := a0) (by omega) (by omega) hp
        rw [hs, Option.bind_some, hk', Option.bind_some, if_pos (show (res (parse (T a0))).2.2 = 1 from hy)]
        by_cases hok : (parse (T a0)).2.1 = true
        · have e1 : (res (parse (T a0))).2.1 = true := hok
          have e2 : (res (parse (T a0))).1 = (parse (T a0)).1.map cv := rfl
          have e3 : ((parse (T a0)).1.map cv).map sc = (parse (T a0)).1.map (toS ∘ tx3) := by rw [List.map_map]; rfl
          rw [if_pos e1, hok, if_pos rfl, if_pos rfl, e2, hf', Option.bind_some, e3, same_is _ (by rw [List.length_map]; omega) K (by rw [List.length_map]; omega), Option.bind_some, if_pos rfl, reads_is]
          rfl
        · have e1 : ¬ (res (parse (T a0))).2.1 = true := hok
          rw [if_neg e1, if_neg hok, if_pos rfl, reads_is]
          rfl
      · rw [r5, Option.bind_some, hk', Option.bind_some, if_neg (show ¬ (res (parse (T a0))).2.2 = 1 from hy), reads_is]
        rfl
end Go.Proofs.YtlmmgienbmghmaaDoor.PureR
