import Derived.Test.YtokojamaigebaaaDoorMtPure3
import Derived.Test.YtokojamaigebaaaDoorK2
import Derived.Test.YtokojamaigebaaaDoorK3
import Derived.Test.YtokojamaigebaaaDoorL5
import Derived.Test.YtokojamaigebaaaDoorMtScan
/- The reference's reader of mounts: lines, numbers, octal escapes, as functions of lists. -/
set_option linter.unusedVariables false
set_option linter.unusedSimpArgs false
namespace Go.Proofs.YtokojamaigebaaaDoor.MtRd
open Go.RowKit Go.Proofs.YtokojamaigebaaaDoorW.PrintWords Go.Proofs.YtokojamaigebaaaDoorW.PrintLast Go.Proofs.YtokojamaigebaaaDoorW.PrintMore Go.Proofs.YtokojamaigebaaaDoor.ScanL Go.Proofs.YtokojamaigebaaaDoor.GivM Go.Proofs.YtokojamaigebaaaDoor.M Go.Proofs.YtokojamaigebaaaDoor.K Go.Proofs.YtokojamaigebaaaDoor.MtRow Go.Proofs.YtokojamaigebaaaDoor.MtPure
open Go.Proofs.YtokojamaigebaaaDoorPt hiding toB_size toB_data
/-! ### lines -/
theorem cl_go (l : List UInt8) (hl : l.length ≤ 1000000) : ∀ (n i k from_ : Nat) (acc : List ByteArray), n = l.length - i → i ≤ l.length → n + 1 ≤ k → from_ ≤ i → acc.length ≤ i → spec_cutLines.l0 k (toB l) acc (from_ : Int) (l.length : Int) (i : Int) = some (acc ++ (linesGo ((l.drop from_).take (i - from_)) (l.drop i)).map toB)
  | n, i, 0, _, _, _, _, hk, _, _ => by omega
  | n, i, k + 1, from_, acc, hn, hi, hk, hf, ha => by
    have e3 : wrap64 ((i : Int) + 1) = ((i + 1 : Nat) : Int) := by rw [wr (by omega) (by omega)]; omega
    rw [spec_cutLines.l0]
    by_cases h : i < l.length
    · rw [if_pos (by omega), if_pos (by omega), if_pos (by rw [toB_size]; omega), bt_toB l i h, e3, bt_drop l i h, linesGo]
      by_cases c : l[i]'h = 10
      · rw [if_pos (by rw [c]; rfl), if_pos (by omega), if_pos (by omega), if_pos (by rw [toB_size]; omega), if_pos (by omega), Int.toNat_natCast, Int.toNat_natCast, toB_ext,
          cl_go l hl (l.length - (i + 1)) (i + 1) k (i + 1) _ rfl (by omega) (by omega) (by omega) (by rw [List.length_append, List.length_singleton]; omega), if_pos c]
        rw [Nat.sub_self, List.take_zero, List.append_assoc]
        rfl
      · have c2 : ¬ (((l[i]'h).toNat : Int) = 10) := fun e => c ((tn (n := 10) (by decide)).1 e)
        rw [if_neg c2, cl_go l hl (l.length - (i + 1)) (i + 1) k from_ acc rfl (by omega) (by omega) (by omega) (by omega), if_neg c]
        have e : (l.drop from_).take (i + 1 - from_) = (l.drop from_).take (i - from_) ++ [l[i]'h] := by
          rw [show i + 1 - from_ = (i - from_) + 1 by omega, List.take_add_one, List.getElem?_drop, show from_ + (i - from_) = i by omega, List.getElem?_eq_getElem h]
          rfl
        rw [e]
    · obtain rfl : i = l.length := by omega
      rw [if_neg (by omega), List.drop_eq_nil_of_le (Nat.le_refl _), linesGo, toB_size, Int.toNat_natCast, toB_ext]
      by_cases c : from_ < l.length
      · have hne : ((l.drop from_).take (l.length - from_)).isEmpty = false := by
          cases hx : (l.drop from_).take (l.length - from_) with
          | nil =>
            have := congrArg List.length hx
            rw [List.length_take, List.length_drop, List.length_nil] at this
            omega
          | cons _ _ => rfl
        rw [if_pos (by omega), if_pos (by omega), if_pos (by omega), if_pos (by omega), hne]
        rfl
      · have hx : (l.drop from_).take (l.length - from_) = [] := by rw [List.drop_eq_nil_of_le (by omega), List.take_nil]
        rw [if_neg (by omega), hx]
        simp
theorem cl_is (l : List UInt8) (hl : l.length ≤ 1000000) (k : Nat) (hk : l.length + 1 ≤ k) : spec_cutLines.f k (toB l) = some ((linesL l).map toB) := by
  unfold spec_cutLines.f linesL
  rw [toB_size]
  have := cl_go l hl (l.length - 0) 0 k 0 [] rfl (Nat.zero_le _) (by omega) (Nat.le_refl _) (Nat.le_refl _)
  rw [Nat.sub_self, List.take_zero, List.drop_zero, List.nil_append] at this
  exact this
/-! ### numbers -/
theorem wrA (c n x : Nat) (hc : c ≤ 10) (hn : n ≤ 2147483647) (h1 : 48 ≤ x) (h2 : x < 256) : wrap64 (wrap64 ((c : Int) * (n : Int)) + (((x : Int) - 48) % 256)) = ((c * n + (x - 48) : Nat) : Int) := by
  have hm : c * n ≤ 10 * 2147483647 := Nat.mul_le_mul hc hn
  have hm2 : ((c : Int) * (n : Int)) = ((c * n : Nat) : Int) := by rw [Int.natCast_mul]
  rw [hm2]
  generalize c * n = y at hm ⊢
  rw [wr (x := (y : Int)) (by omega) (by omega), show ((x : Int) - 48) % 256 = ((x - 48 : Nat) : Int) by omega, wr (by omega) (by omega)]
  omega
def nGo : Nat → List UInt8 → Option Nat
  | n, [] => some n
  | n, b :: l => if b.toNat < 48 ∨ 57 < b.toNat then none else if 2147483647 < 10 * n + (b.toNat - 48) then none else nGo (10 * n + (b.toNat - 48)) l
def nFin (l : List UInt8) : Bool := (!(l == [])) && (!(l.head? == some 48) || l.length == 1)
def numL (l : List UInt8) : Int × Bool := match nGo 0 l with
  | none => (0, false)
  | some n => ((n : Int), nFin l)
theorem num_go (l : List UInt8) (hl : l.length ≤ 1000000) : ∀ (m i k n : Nat), m = l.length - i → i ≤ l.length → 2 * m + 1 ≤ k → n ≤ 2147483647 → spec_number.l0 k (toB l) (n : Int) (l.length : Int) (i : Int) = some (match nGo n (l.drop i) with | none => (0, false) | some v => ((v : Int), nFin l))
  | m, i, 0, n, _, _, hk, _ => by omega
  | m, i, k + 1, n, hm, hi, hk, hn => by
    rw [spec_number.l0]
    by_cases h : i < l.length
    · obtain ⟨k, rfl⟩ : ∃ j, k = j + 1 := ⟨k - 1, by omega⟩
      have hb := UInt8.toNat_lt (l[i]'h)
      rw [if_pos (by omega), if_pos (by omega), if_pos (by rw [toB_size]; omega), bt_toB l i h, bt_drop l i h, nGo]
      by_cases c1 : (l[i]'h).toNat < 48
      · rw [if_pos (by omega), spec_number.j1, if_pos rfl, if_pos (.inl c1)]
      · rw [if_neg (by omega)]
        by_cases c2 : 57 < (l[i]'h).toNat
        · rw [decide_eq_true (by omega), spec_number.j1, if_pos rfl, if_pos (.inr c2)]
        · have hA := wrA 10 n (l[i]'h).toNat (by decide) hn (by omega) (by omega)
          rw [show ((10 : Nat) : Int) = 10 from rfl] at hA
          have hc12 : ¬ ((l[i]'h).toNat < 48 ∨ 57 < (l[i]'h).toNat) := by clear hA; omega
          have hs1 : (0 : Int) ≤ (i : Int) := by clear hA; omega
          have hs2 : (i : Int) < ((toB l).size : Int) := by clear hA; rw [toB_size]; omega
          have hs3 : ¬ (((l[i]'h).toNat : Int) > 57) := by clear hA; omega
          have hk2 : 2 * (l.length - (i + 1)) + 1 ≤ k := by clear hA; omega
          have hi2 : i + 1 ≤ l.length := h
          have e3 : wrap64 ((i : Int) + 1) = ((i + 1 : Nat) : Int) := by clear hA; rw [wr (by omega) (by omega)]; omega
          rw [decide_eq_false hs3, spec_number.j1, if_neg (by decide), if_pos hs1, if_pos hs2, bt_toB l i h, e3, if_neg hc12]
          rw [hA]
          clear hA e3
          by_cases c3 : 2147483647 < 10 * n + ((l[i]'h).toNat - 48)
          · rw [if_pos (by omega), if_pos c3]
          · rw [if_neg (by omega), if_neg c3]
            exact num_go l hl (l.length - (i + 1)) (i + 1) k _ rfl hi2 hk2 (Nat.le_of_not_lt c3)
    · obtain rfl : i = l.length := by omega
      rw [if_neg (by omega), List.drop_eq_nil_of_le (Nat.le_refl _), nGo, toB_list]
      cases l with
      | nil => rw [if_pos rfl]; rfl
      | cons a r =>
        have h0 : bt (toB (a :: r)) 0 = ((a.toNat : Nat) : Int) := bt_toB (a :: r) 0 (by simp)
        rw [if_neg (by simp), if_pos (by rw [toB_size]; simp), h0]
        by_cases c : a = 48
        · have e : (((toB (a :: r)).size : Int) == 1) = ((a :: r).length == 1) := by
            rw [toB_size]
            by_cases c1 : (a :: r).length = 1
            · rw [beq_iff_eq.2 c1, beq_iff_eq.2 (by omega)]
            · rw [beq_eq_false_iff_ne.2 c1, beq_eq_false_iff_ne.2 (by omega)]
          rw [if_pos (by rw [c]; rfl), e]
          unfold nFin
          subst c
          rfl
        · have c2 : ¬ ((a.toNat : Int) = 48) := fun e => c ((tn (n := 48) (by decide)).1 e)
          rw [if_neg c2]
          unfold nFin
          have : (some a == some (48 : UInt8)) = false := beq_eq_false_iff_ne.2 (fun e => c (Option.some.inj e))
          rw [List.head?_cons, this]
          rfl
termination_by _ _ k => k
decreasing_by omega
theorem num_is (l : List UInt8) (hl : l.length ≤ 1000000) (k : Nat) (hk : 2 * l.length + 1 ≤ k) : spec_number.f k (toB l) = some (numL l) := by
  unfold spec_number.f numL
  rw [toB_size]
  exact num_go l hl (l.length - 0) 0 k 0 rfl (Nat.zero_le _) (by omega) (by decide)
/-- What a number's digits say. -/
def valL (l : List UInt8) : Nat := l.foldl (fun n b => 10 * n + (b.toNat - 48)) 0
theorem nGo_val : ∀ (l : List UInt8) (n v : Nat), nGo n l = some v → v = l.foldl (fun n b => 10 * n + (b.toNat - 48)) n ∧ (∀ b ∈ l, 48 ≤ b.toNat ∧ b.toNat ≤ 57) ∧ (n ≤ 2147483647 → v ≤ 2147483647)
  | [], n, v, h => by
    rw [nGo] at h
    obtain rfl := Option.some.inj h
    exact ⟨rfl, fun b hb => by simp at hb, fun h => h⟩
  | b :: l, n, v, h => by
    rw [nGo] at h
    by_cases c : b.toNat < 48 ∨ 57 < b.toNat
    · rw [if_pos c] at h; cases h
    · rw [if_neg c] at h
      by_cases c2 : 2147483647 < 10 * n + (b.toNat - 48)
      · rw [if_pos c2] at h; cases h
      · rw [if_neg c2] at h
        obtain ⟨h1, h2, h3⟩ := nGo_val l _ v h
        refine ⟨h1, fun x hx => ?_, fun _ => h3 (by omega)⟩
        rcases List.mem_cons.1 hx with rfl | hx
        · omega
        · exact h2 x hx
theorem nat_of : ∀ (m : Nat) (l : List UInt8), l.length = m → l ≠ [] → (∀ b ∈ l, 48 ≤ b.toNat ∧ b.toNat ≤ 57) → (l.head? ≠ some 48 ∨ l.length = 1) → natL (valL l) = l ∧ (l.head? ≠ some 48 → 1 ≤ valL l) := by
  intro m
  induction m with
  | zero => intro l hm hne; exact absurd (List.eq_nil_of_length_eq_zero hm) hne
  | succ m ih =>
    intro l hm hne hd hz
    rcases List.eq_nil_or_concat l with rfl | ⟨l', d, rfl⟩
    · exact absurd rfl hne
    · rw [List.concat_eq_append] at *
      have hdd := hd d (by simp)
      have hv : valL (l' ++ [d]) = 10 * valL l' + (d.toNat - 48) := by unfold valL; rw [List.foldl_append]; rfl
      have hdb : UInt8.ofNat (48 + (d.toNat - 48)) = d := by
        rw [show 48 + (d.toNat - 48) = d.toNat by omega]
        exact UInt8.ofNat_toNat
      cases hl : l' with
      | nil =>
        subst hl
        have h0 : valL ([] : List UInt8) = 0 := rfl
        rw [hv, h0]
        constructor
        · rw [natL, if_pos (by omega), show 10 * 0 + (d.toNat - 48) = d.toNat - 48 by omega, hdb]
          rfl
        · intro h48
          have : d.toNat ≠ 48 := fun e => h48 (by rw [List.nil_append, List.head?_cons]; congr 1; exact UInt8.toNat_inj.1 e)
          omega
      | cons a r =>
        have hh : (l' ++ [d]).head? = l'.head? := by rw [hl]; rfl
        have hne' : l' ≠ [] := by rw [hl]; simp
        have h48 : l'.head? ≠ some 48 := by
          rcases hz with h | h
          · rw [← hh]; exact h
          · rw [List.length_append, hl] at h; simp at h
        obtain ⟨h1, h2⟩ := ih l' (by rw [List.length_append, List.length_singleton] at hm; omega) hne' (fun b hb => hd b (by simp [hb])) (.inl h48)
        have h3 := h2 h48
        rw [← hl, hv]
        constructor
        · rw [natL, if_neg (by omega), show (10 * valL l' + (d.toNat - 48)) / 10 = valL l' by omega, show (10 * valL l' + (d.toNat - 48)) % 10 = d.toNat - 48 by omega, h1, hdb]
        · intro _
          omega
theorem num_nat (l : List UInt8) (v : Int) (h : numL l = (v, true)) : 0 ≤ v ∧ v ≤ 2147483647 ∧ toIntV l = v := by
  unfold numL at h
  cases hn : nGo 0 l with
  | none => rw [hn] at h; cases h
  | some n =>
    rw [hn] at h
    obtain ⟨rfl, hf⟩ := Prod.mk.inj h
    obtain ⟨h1, h2, h3⟩ := nGo_val l 0 n hn
    have h4 := h3 (by decide)
    unfold nFin at hf
    rw [Bool.and_eq_true, Bool.or_eq_true] at hf
    obtain ⟨hne, hz⟩ := hf
    have hne2 : l ≠ [] := by intro e; rw [e] at hne; cases hne
    have hz2 : l.head? ≠ some 48 ∨ l.length = 1 := by
      rcases hz with hz | hz
      · exact .inl (fun e => by rw [e] at hz; cases hz)
      · exact .inr (eq_of_beq hz)
    have h5 := (nat_of l.length l rfl hne2 h2 hz2).1
    have h6 : valL l = n := h1.symm
    rw [h6] at h5
    refine ⟨by omega, by omega, ?_⟩
    rw [← h5]
    exact toInt_nat n (by omega)
/-! ### octal escapes -/
def octU (b : UInt8) : Bool := decide (48 ≤ b.toNat) && decide (b.toNat ≤ 55)
def escU (b c d : UInt8) : Option UInt8 :=
  if octU b && octU c && octU d then (if (b.toNat - 48) * 64 + (c.toNat - 48) * 8 + (d.toNat - 48) = 32 ∨ (b.toNat - 48) * 64 + (c.toNat - 48) * 8 + (d.toNat - 48) = 9 ∨ (b.toNat - 48) * 64 + (c.toNat - 48) * 8 + (d.toNat - 48) = 10 ∨ (b.toNat - 48) * 64 + (c.toNat - 48) * 8 + (d.toNat - 48) = 92 then some (UInt8.ofNat ((b.toNat - 48) * 64 + (c.toNat - 48) * 8 + (d.toNat - 48))) else none) else none
def uN : Nat → List UInt8 → Option (List UInt8)
  | 0, _ => some []
  | n + 1, l => match l with
    | [] => some []
    | a :: r => if a = 92 then (if 3 ≤ r.length then (escU (r.getD 0 0) (r.getD 1 0) (r.getD 2 0)).bind fun v => (uN n (r.drop 3)).map (v :: ·) else none) else (uN n r).map (a :: ·)
theorem uN_cons (n : Nat) (a : UInt8) (r : List UInt8) : uN (n + 1) (a :: r) = if a = 92 then (if 3 ≤ r.length then (escU (r.getD 0 0) (r.getD 1 0) (r.getD 2 0)).bind fun v => (uN n (r.drop 3)).map (v :: ·) else none) else (uN n r).map (a :: ·) := rfl
theorem nums_snoc (acc : List UInt8) (x : UInt8) : MtRow.nums acc ++ [(x.toNat : Int)] = MtRow.nums (acc ++ [x]) := by simp [MtRow.nums]
def uRes (acc : List UInt8) (o : Option (List UInt8)) : ByteArray × Bool := match o with
  | some r => (toB (acc ++ r), true)
  | none => (toB [], false)
theorem uRes_map (acc : List UInt8) (a : UInt8) (o : Option (List UInt8)) : uRes acc (o.map (a :: ·)) = uRes (acc ++ [a]) o := by
  cases o with
  | none => rfl
  | some r => unfold uRes; simp
theorem strOf_nums (l : List UInt8) : strOfNums (MtRow.nums l) = toB l := by
  apply ByteArray.ext
  apply Array.toList_inj.1
  rw [strOfNums_data, List.map_map]
  have e : ((fun n : Int => UInt8.ofNat n.toNat) ∘ fun b : UInt8 => (b.toNat : Int)) = id := by
    funext b
    simp
  rw [e, List.map_id]
  rfl
theorem l1_step (k : Nat) (l : List UInt8) (acc : List Int) (i j n : Nat) (hl : l.length ≤ 1000000) (hj : j ≤ 3) (hij : i + j < l.length) (hn : n ≤ 1000) :
    spec_unoctal.l1 (k + 1) (toB l) acc (i : Int) (n : Int) (j : Int) = if octU (l[i + j]'hij) = true then spec_unoctal.l1 k (toB l) acc (i : Int) ((8 * n + ((l[i + j]'hij).toNat - 48) : Nat) : Int) ((j + 1 : Nat) : Int) else some (toB [], false) := by
  have hb := UInt8.toNat_lt (l[i + j]'hij)
  rw [spec_unoctal.l1, if_pos (by omega)]
  have hs1 : (0 : Int) ≤ ((i + j : Nat) : Int) := by omega
  have hs2 : ((i + j : Nat) : Int) < ((toB l).size : Int) := by rw [toB_size]; omega
  have e1 : wrap64 ((i : Int) + (j : Int)) = ((i + j : Nat) : Int) := by rw [wr (by omega) (by omega)]; omega
  rw [e1, if_pos hs1, if_pos hs2, bt_toB l (i + j) hij]
  clear e1
  have e2 : wrap64 ((j : Int) + 1) = ((j + 1 : Nat) : Int) := by rw [wr (by omega) (by omega)]; omega
  rw [e2]
  clear e2
  generalize l[i + j]'hij = x at hb ⊢
  unfold octU
  by_cases c1 : x.toNat < 48
  · rw [if_pos (by omega), decide_eq_false (show ¬ 48 ≤ x.toNat by omega), Bool.false_and, if_neg (by decide)]
    rfl
  · rw [if_neg (by omega)]
    by_cases c2 : 55 < x.toNat
    · rw [if_pos (by omega), decide_eq_false (show ¬ x.toNat ≤ 55 by omega), Bool.and_false, if_neg (by decide)]
      rfl
    · rw [if_neg (by omega), decide_eq_true (show 48 ≤ x.toNat by omega), decide_eq_true (show x.toNat ≤ 55 by omega), Bool.and_self, if_pos rfl]
      have hA := wrA 8 n x.toNat (by decide) (by omega) (by omega) (by omega)
      rw [show ((8 : Nat) : Int) = 8 from rfl] at hA
      rw [hA]
theorem un_go (l : List UInt8) (hl : l.length ≤ 1000000) : ∀ (m i k : Nat) (acc : List UInt8), (l.drop i).length ≤ m → i ≤ l.length → 5 * m + 1 ≤ k → acc.length ≤ i → spec_unoctal.l0 k (toB l) (MtRow.nums acc) (i : Int) = some (uRes acc (uN m (l.drop i)))
  | m, i, 0, acc, _, _, hk, _ => by omega
  | m, i, k + 1, acc, hm, hi, hk, ha => by
    rw [spec_unoctal.l0]
    by_cases h : i < l.length
    · have E3 := Aside0.mk (show wrap64 ((i : Int) + 1) = ((i + 1 : Nat) : Int) by rw [wr (by omega) (by omega)]; omega)
      have E4 := Aside0.mk (show wrap64 ((i : Int) + 3) = ((i + 3 : Nat) : Int) by rw [wr (by omega) (by omega)]; omega)
      have hd := bt_drop l i h
      rw [hd] at hm
      obtain ⟨m, rfl⟩ : ∃ j, m = j + 1 := ⟨m - 1, by rw [List.length_cons] at hm; omega⟩
      rw [if_pos (by rw [toB_size]; omega), if_pos (by omega), bt_toB l i h, hd, uN_cons]
      by_cases c : l[i]'h = 92
      · rw [if_pos (by rw [c]; rfl), E4.out, if_pos c]
        by_cases c2 : i + 3 ≥ l.length
        · rw [if_pos (by rw [toB_size]; omega), if_neg (by rw [List.length_drop]; omega)]
          rfl
        · rw [if_neg (by rw [toB_size]; omega), if_pos (by rw [List.length_drop]; omega)]
          obtain ⟨k, rfl⟩ : ∃ j, k = j + 4 := ⟨k - 4, by omega⟩
          have hd2 : l.drop (i + 1) = l[i + 1]'(by omega) :: l[i + 2]'(by omega) :: l[i + 3]'(by omega) :: l.drop (i + 4) := by
            rw [bt_drop l (i + 1) (by omega), bt_drop l (i + 2) (by omega), bt_drop l (i + 3) (by omega)]
          have g0 : (l.drop (i + 1)).getD 0 0 = l[i + 1]'(by omega) := by rw [hd2]; rfl
          have g1 : (l.drop (i + 1)).getD 1 0 = l[i + 2]'(by omega) := by rw [hd2]; rfl
          have g2 : (l.drop (i + 1)).getD 2 0 = l[i + 3]'(by omega) := by rw [hd2]; rfl
          have g3 : (l.drop (i + 1)).drop 3 = l.drop (i + 4) := by rw [List.drop_drop]
          rw [g0, g1, g2, g3]
          have s1 := l1_step (k + 3) l (MtRow.nums acc) i 1 0 hl (by decide) (by omega) (by decide)
          rw [show ((0 : Nat) : Int) = 0 from rfl, show ((1 : Nat) : Int) = 1 from rfl] at s1
          rw [s1]
          unfold escU
          cases o1 : octU (l[i + 1]'(by omega)) with
          | false => rw [if_neg (by decide)]; simp only [Bool.false_and, Bool.and_false, Bool.true_and]; rw [if_neg (by decide)]; rfl
          | true =>
            have b1 : (l[i + 1]'(by omega)).toNat ≤ 55 := by unfold octU at o1; rw [Bool.and_eq_true] at o1; exact of_decide_eq_true o1.2
            rw [if_pos rfl, l1_step (k + 2) l (MtRow.nums acc) i 2 _ hl (by decide) (by omega) (by omega)]
            cases o2 : octU (l[i + 2]'(by omega)) with
            | false => rw [if_neg (by decide)]; simp only [Bool.false_and, Bool.and_false, Bool.true_and]; rw [if_neg (by decide)]; rfl
            | true =>
              have b2 : (l[i + 2]'(by omega)).toNat ≤ 55 := by unfold octU at o2; rw [Bool.and_eq_true] at o2; exact of_decide_eq_true o2.2
              rw [if_pos rfl, l1_step (k + 1) l (MtRow.nums acc) i 3 _ hl (by decide) (by omega) (by omega)]
              cases o3 : octU (l[i + 3]'(by omega)) with
              | false => rw [if_neg (by decide)]; simp only [Bool.false_and, Bool.and_false, Bool.true_and]; rw [if_neg (by decide)]; rfl
              | true =>
                have b3 : (l[i + 3]'(by omega)).toNat ≤ 55 := by unfold octU at o3; rw [Bool.and_eq_true] at o3; exact of_decide_eq_true o3.2
                rw [if_pos rfl, spec_unoctal.l1, if_neg (by decide), E4.out]
                have e5 : wrap64 (((i + 3 : Nat) : Int) + 1) = ((i + 4 : Nat) : Int) := by rw [wr (by omega) (by omega)]; omega
                rw [e5]
                clear e5
                obtain ⟨v, hv⟩ : ∃ v, v = (l[i + 1].toNat - 48) * 64 + (l[i + 2].toNat - 48) * 8 + (l[i + 3].toNat - 48) := ⟨_, rfl⟩
                have hv2 : 8 * (8 * (8 * 0 + (l[i + 1].toNat - 48)) + (l[i + 2].toNat - 48)) + (l[i + 3].toNat - 48) = v := by omega
                rw [hv2, ← hv]
                have hgo : ∀ hvv : v = 32 ∨ v = 9 ∨ v = 10 ∨ v = 92, (if (MtRow.nums acc).length < 140737488355328 then (spec_unoctal.l0 (k) (toB l) ((MtRow.nums acc) ++ [((v : Nat) : Int) % 256]) ((i + 4 : Nat) : Int)) else (none)) = some (uRes acc ((uN m (l.drop (i + 4))).map (UInt8.ofNat v :: ·))) := by
                  intro hvv
                  have hvl : v < 256 := by omega
                  have ev : [((v : Nat) : Int) % 256] = MtRow.nums [UInt8.ofNat v] := by
                    show [((v : Nat) : Int) % 256] = [((UInt8.ofNat v).toNat : Int)]
                    rw [UInt8.toNat_ofNat_of_lt' hvl]
                    congr 1
                    omega
                  have ea : MtRow.nums acc ++ MtRow.nums [UInt8.ofNat v] = MtRow.nums (acc ++ [UInt8.ofNat v]) := by simp [MtRow.nums]
                  rw [if_pos (by rw [List.length_map]; omega), ev, ea, un_go l hl m (i + 4) k _ (by rw [List.length_cons, List.length_drop] at hm; rw [List.length_drop]; omega) (by omega) (by omega) (by rw [List.length_append, List.length_singleton]; omega), uRes_map]
                by_cases c32 : v = 32
                · rw [if_pos (by omega), hgo (.inl c32), Bool.and_self, Bool.and_self, if_pos rfl, if_pos (.inl c32)]; rfl
                · rw [if_neg (by omega)]
                  by_cases c9 : v = 9
                  · rw [if_pos (by omega), hgo (.inr (.inl c9)), Bool.and_self, Bool.and_self, if_pos rfl, if_pos (.inr (.inl c9))]; rfl
                  · rw [if_neg (by omega)]
                    by_cases c10 : v = 10
                    · rw [if_pos (by omega), hgo (.inr (.inr (.inl c10))), Bool.and_self, Bool.and_self, if_pos rfl, if_pos (.inr (.inr (.inl c10)))]; rfl
                    · rw [if_neg (by omega)]
                      by_cases c92 : v = 92
                      · rw [if_pos (by omega), hgo (.inr (.inr (.inr c92))), Bool.and_self, Bool.and_self, if_pos rfl, if_pos (.inr (.inr (.inr c92)))]; rfl
                      · rw [if_neg (by omega), Bool.and_self, Bool.and_self, if_pos rfl, if_neg (by omega)]; rfl
      · have c2 : ¬ (((l[i]'h).toNat : Int) = 92) := fun e => c ((tn (n := 92) (by decide)).1 e)
        have ea := nums_snoc acc (l[i]'h)
        rw [if_neg c2, if_pos (by rw [List.length_map]; omega), ea, E3.out, un_go l hl m (i + 1) k _ (by rw [List.length_cons] at hm; omega) (by omega) (by omega) (by rw [List.length_append, List.length_singleton]; omega), if_neg c, uRes_map]
    · obtain rfl : i = l.length := by omega
      rw [if_neg (by rw [toB_size]; omega), List.drop_eq_nil_of_le (Nat.le_refl _), strOf_nums]
      have : uN m [] = some [] := by cases m <;> rfl
      rw [this]
      show some (toB acc, true) = some (toB (acc ++ []), true)
      rw [List.append_nil]
def unoL (l : List UInt8) : Option (List UInt8) := uN l.length l
theorem un_is (l : List UInt8) (hl : l.length ≤ 1000000) (k : Nat) (hk : 5 * l.length + 1 ≤ k) : spec_unoctal.f k (toB l) = some (uRes [] (unoL l)) := by
  unfold spec_unoctal.f unoL
  have := un_go l hl l.length 0 k [] (by rw [List.drop_zero]; exact Nat.le_refl _) (Nat.zero_le _) hk (Nat.le_refl _)
  rw [List.drop_zero] at this
  exact this
theorem un_unesc : ∀ (n : Nat) (l r : List UInt8), uN n l = some r → l.length ≤ n → unescN n l = r
  | 0, l, r, h, hl => by
    obtain rfl := Option.some.inj h
    have : l = [] := List.eq_nil_of_length_eq_zero (by omega)
    subst this
    rfl
  | n + 1, [], r, h, _ => by obtain rfl := Option.some.inj h; rfl
  | n + 1, a :: l, r, h, hl => by
    rw [uN_cons] at h
    by_cases c : a = 92
    · rw [if_pos c] at h
      match l, h, hl with
      | b :: c' :: d :: l, h, hl =>
        rw [if_pos (by simp)] at h
        replace h : ((escU b c' d).bind fun v => (uN n l).map (v :: ·)) = some r := h
        obtain ⟨v, hv, h⟩ := Option.bind_eq_some_iff.1 h
        obtain ⟨r', hr, rfl⟩ := Option.map_eq_some_iff.1 h
        unfold escU at hv
        by_cases o : (octU b && octU c' && octU d) = true
        · rw [if_pos o] at hv
          rw [Bool.and_eq_true, Bool.and_eq_true] at o
          obtain ⟨⟨o1, o2⟩, o3⟩ := o
          unfold octU at o1 o2 o3
          rw [Bool.and_eq_true] at o1 o2 o3
          have p1 := of_decide_eq_true o1.1
          have p2 := of_decide_eq_true o1.2
          have p3 := of_decide_eq_true o2.1
          have p4 := of_decide_eq_true o2.2
          have p5 := of_decide_eq_true o3.1
          have p6 := of_decide_eq_true o3.2
          by_cases z : (b.toNat - 48) * 64 + (c'.toNat - 48) * 8 + (d.toNat - 48) = 32 ∨ (b.toNat - 48) * 64 + (c'.toNat - 48) * 8 + (d.toNat - 48) = 9 ∨ (b.toNat - 48) * 64 + (c'.toNat - 48) * 8 + (d.toNat - 48) = 10 ∨ (b.toNat - 48) * 64 + (c'.toNat - 48) * 8 + (d.toNat - 48) = 92
          · rw [if_pos z] at hv
            obtain rfl := Option.some.inj hv
            have hb : b = 48 ∨ b = 49 := by
              have : b.toNat = 48 ∨ b.toNat = 49 := by omega
              rcases this with e | e
              · exact .inl (UInt8.toNat_inj.1 e)
              · exact .inr (UInt8.toNat_inj.1 e)
            have hesc : escB 92 b c' d = true := by
              unfold escB oct
              rw [decide_eq_true p3, decide_eq_true p4, decide_eq_true p5, decide_eq_true p6]
              rcases hb with rfl | rfl <;> rfl
            rw [c, unescN, if_pos hesc, un_unesc n l r' hr (by simp at hl; omega)]
            rfl
          · rw [if_neg z] at hv; cases hv
        · rw [if_neg o] at hv; cases hv
      | [], h, _ => cases h
      | [_], h, _ => cases h
      | [_, _], h, _ => cases h
    · rw [if_neg c] at h
      obtain ⟨r', hr, rfl⟩ := Option.map_eq_some_iff.1 h
      rw [unesc_one n a l c, un_unesc n l r' hr (by simp at hl; omega)]
theorem uno_unesc (l r : List UInt8) (h : unoL l = some r) : unescL l = r := un_unesc _ l r h (Nat.le_refl _)
theorem uno_len (n : Nat) : ∀ (m : Nat) (l r : List UInt8), uN m l = some r → l.length ≤ n → r.length ≤ n
  | 0, l, r, h, _ => by obtain rfl := Option.some.inj h; exact Nat.zero_le _
  | m + 1, [], r, h, _ => by obtain rfl := Option.some.inj h; exact Nat.zero_le _
  | m + 1, a :: l, r, h, hl => by
    rw [uN_cons] at h
    rw [List.length_cons] at hl
    by_cases c : a = 92
    · rw [if_pos c] at h
      match l, h, hl with
      | b :: c' :: d :: l, h, hl =>
        rw [if_pos (by simp)] at h
        replace h : ((escU b c' d).bind fun v => (uN m l).map (v :: ·)) = some r := h
        obtain ⟨v, hv, h⟩ := Option.bind_eq_some_iff.1 h
        obtain ⟨r', hr, rfl⟩ := Option.map_eq_some_iff.1 h
        simp only [List.length_cons] at hl ⊢
        have := uno_len (n - 1) m l r' hr (by omega)
        omega
      | [], h, _ => cases h
      | [_], h, _ => cases h
      | [_, _], h, _ => cases h
    · rw [if_neg c] at h
      obtain ⟨r', hr, rfl⟩ := Option.map_eq_some_iff.1 h
      rw [List.length_cons]
      have := uno_len (n - 1) m l r' hr (by omega)
      omega
end Go.Proofs.YtokojamaigebaaaDoor.MtRd

/- The reference's reader of mounts, line by line, as a function of lists. -/
set_option linter.unusedVariables false
set_option linter.unusedSimpArgs false
namespace Go.Proofs.YtokojamaigebaaaDoor.MtRd
open Go.RowKit Go.Proofs.YtokojamaigebaaaDoorW.PrintWords Go.Proofs.YtokojamaigebaaaDoorW.PrintLast Go.Proofs.YtokojamaigebaaaDoorW.PrintMore Go.Proofs.YtokojamaigebaaaDoor.ScanL Go.Proofs.YtokojamaigebaaaDoor.GivM Go.Proofs.YtokojamaigebaaaDoor.M Go.Proofs.YtokojamaigebaaaDoor.L Go.Proofs.YtokojamaigebaaaDoor.K Go.Proofs.YtokojamaigebaaaDoor.MtRow Go.Proofs.YtokojamaigebaaaDoor.MtPure
open Go.Proofs.YtokojamaigebaaaDoor.MtDoor (rd_map)
open Go.Proofs.YtokojamaigebaaaDoorPt hiding toB_size toB_data
/-! ### the first dash -/
def dGo : Nat → List (List UInt8) → Option Nat
  | _, [] => none
  | i, p :: l => if p = [45] then some i else dGo (i + 1) l
def dRes (d : Int) (o : Option Nat) : Int := if d < 0 then (match o with | some a => (a : Int) | none => d) else d
theorem getD_at {α : Type} (l : List α) (a : α) (i : Nat) (h : i < l.length) : l.getD i a = l[i]'h := by
  rw [List.getD_eq_getElem?_getD, List.getElem?_eq_getElem h]
  rfl
theorem wi (i : Nat) (h : i ≤ 1000000000000) : wrap64 ((i : Int) + 1) = ((i + 1 : Nat) : Int) := by rw [wr (by omega) (by omega)]; omega
theorem l1_run (acc : List S62) (ls : List ByteArray) (X Y : Int) (ps : List (List UInt8)) (hps : ps.length ≤ 1000000) : ∀ (n i k : Nat) (d : Int), i + n = ps.length → (d < 0 ∨ 0 ≤ d) →
    spec_MountsRead.l1 (k + n) acc (ps.map toB) d (i : Int) ls X Y = spec_MountsRead.l1 k acc (ps.map toB) (dRes d (dGo i (ps.drop i))) (ps.length : Int) ls X Y
  | 0, i, k, d, h, _ => by
    obtain rfl : i = ps.length := h
    rw [List.drop_eq_nil_of_le (Nat.le_refl _)]
    have : dRes d (dGo ps.length []) = d := by unfold dRes dGo; split <;> rfl
    rw [this]
    rfl
  | n + 1, i, k, d, h, hd => by
    have hi : i < ps.length := by omega
    have e1 : spec_MountsRead.l1 (k + (n + 1)) acc (ps.map toB) d (i : Int) ls X Y = spec_MountsRead.l1 (k + n + 1) acc (ps.map toB) d (i : Int) ls X Y := rfl
    have g1 : (i : Int) < ((ps.map toB).length : Int) := by rw [List.length_map]; omega
    have g2 : (0 : Int) ≤ (i : Int) := by omega
    rw [e1, spec_MountsRead.l1, wi i (by omega), if_pos g1, if_pos g2, rd_map, toB_list, List.drop_eq_getElem_cons hi, getD_at ps [] i hi, dGo]
    by_cases c : ps[i]'hi = [45]
    · rw [if_pos c, if_pos c]
      by_cases c2 : d < 0
      · rw [if_pos c2, l1_run acc ls X Y ps hps n (i + 1) k (i : Int) (by omega) (.inr (by omega))]
        have e2 : dRes (i : Int) (dGo (i + 1) (ps.drop (i + 1))) = (i : Int) := by unfold dRes; rw [if_neg (by omega)]
        have e3 : dRes d (some i) = (i : Int) := by unfold dRes; rw [if_pos c2]
        rw [e2, e3]
      · rw [if_neg c2, l1_run acc ls X Y ps hps n (i + 1) k d (by omega) hd]
        have e2 : dRes d (dGo (i + 1) (ps.drop (i + 1))) = d := by unfold dRes; rw [if_neg c2]
        have e3 : dRes d (some i) = d := by unfold dRes; rw [if_neg c2]
        rw [e2, e3]
    · rw [if_neg c, if_neg c, l1_run acc ls X Y ps hps n (i + 1) k d (by omega) hd]
theorem dGo_some : ∀ (l : List (List UInt8)) (i a : Nat), dGo i l = some a → i ≤ a ∧ a < i + l.length ∧ l.getD (a - i) [] = [45]
  | [], i, a, h => by cases h
  | p :: l, i, a, h => by
    rw [dGo] at h
    by_cases c : p = [45]
    · rw [if_pos c] at h
      obtain rfl := Option.some.inj h
      refine ⟨Nat.le_refl _, by rw [List.length_cons]; omega, ?_⟩
      rw [Nat.sub_self, List.getD_cons_zero, c]
    · rw [if_neg c] at h
      obtain ⟨h1, h2, h3⟩ := dGo_some l (i + 1) a h
      refine ⟨by omega, by rw [List.length_cons]; omega, ?_⟩
      rw [show a - i = (a - (i + 1)) + 1 by omega, List.getD_cons_succ]
      exact h3
/-! ### the first colon -/
def cGo : Nat → List UInt8 → Option Nat
  | _, [] => none
  | i, b :: l => if b = 58 then some i else cGo (i + 1) l
theorem cGo_cut : ∀ (l : List UInt8) (i : Nat), (cGo i l = none → cutL 58 l = none) ∧ ∀ c, cGo i l = some c → i ≤ c ∧ c - i < l.length ∧ cutL 58 l = some (l.take (c - i), l.drop (c - i + 1))
  | [], i => ⟨fun _ => rfl, fun c h => by cases h⟩
  | b :: l, i => by
    obtain ⟨h1, h2⟩ := cGo_cut l (i + 1)
    constructor
    · intro h
      rw [cGo] at h
      by_cases c : b = 58
      · rw [if_pos c] at h; cases h
      · rw [if_neg c] at h
        rw [cutL, if_neg c, h1 h]; rfl
    · intro a h
      rw [cGo] at h
      by_cases c : b = 58
      · rw [if_pos c] at h
        obtain rfl := Option.some.inj h
        refine ⟨Nat.le_refl _, by rw [Nat.sub_self]; simp, ?_⟩
        rw [cutL, if_pos c, Nat.sub_self]; rfl
      · rw [if_neg c] at h
        obtain ⟨g1, g2, g3⟩ := h2 a h
        have e : a - i = (a - (i + 1)) + 1 := by omega
        refine ⟨by omega, by rw [List.length_cons]; omega, ?_⟩
        rw [cutL, if_neg c, g3, e]
        rfl
theorem l2_run (acc : List S62) (x8 : List ByteArray) (x9 : Int) (bs : List Bool) (ls : List ByteArray) (X Y : Int) (q : List UInt8) (hq : rdOf ByteArray.empty x8 2 = toB q) (h8 : 2 < (x8.length : Int)) (hl : q.length ≤ 1000000) (t0 t1 t2 t3 : Int) (t4 t5 t6 t7 t8 t9 t10 : ByteArray) : ∀ (n i k : Nat) (d : Int), i + n = q.length → (d < 0 ∨ 0 ≤ d) →
    spec_MountsRead.l2 (k + n) acc x8 x9 bs d ls X Y (q.length : Int) (i : Int) t0 t1 t2 t3 t4 t5 t6 t7 t8 t9 t10 = spec_MountsRead.l2 k acc x8 x9 bs (dRes d (cGo i (q.drop i))) ls X Y (q.length : Int) (q.length : Int) t0 t1 t2 t3 t4 t5 t6 t7 t8 t9 t10
  | 0, i, k, d, h, _ => by
    obtain rfl : i = q.length := h
    rw [List.drop_eq_nil_of_le (Nat.le_refl _)]
    have : dRes d (cGo q.length []) = d := by unfold dRes cGo; split <;> rfl
    rw [this]
    rfl
  | n + 1, i, k, d, h, hd => by
    have hi : i < q.length := by omega
    have e1 : spec_MountsRead.l2 (k + (n + 1)) acc x8 x9 bs d ls X Y (q.length : Int) (i : Int) t0 t1 t2 t3 t4 t5 t6 t7 t8 t9 t10 = spec_MountsRead.l2 (k + n + 1) acc x8 x9 bs d ls X Y (q.length : Int) (i : Int) t0 t1 t2 t3 t4 t5 t6 t7 t8 t9 t10 := rfl
    have g1 : (i : Int) < (q.length : Int) := by omega
    have g2 : (0 : Int) ≤ (i : Int) := by omega
    have g3 : (i : Int) < ((toB q).size : Int) := by rw [toB_size]; omega
    rw [e1, spec_MountsRead.l2, wi i (by omega), if_pos g1, if_pos h8, if_pos g2, hq, if_pos g3, bt_toB q i hi, List.drop_eq_getElem_cons hi, cGo]
    by_cases c : q[i]'hi = 58
    · have c1 : (((q[i]'hi).toNat : Nat) : Int) = 58 := by rw [c]; rfl
      rw [if_pos c1, if_pos c]
      by_cases c2 : d < 0
      · rw [if_pos c2, l2_run acc x8 x9 bs ls X Y q hq h8 hl t0 t1 t2 t3 t4 t5 t6 t7 t8 t9 t10 n (i + 1) k (i : Int) (by omega) (.inr (by omega))]
        have e2 : dRes (i : Int) (cGo (i + 1) (q.drop (i + 1))) = (i : Int) := by unfold dRes; rw [if_neg (by omega)]
        have e3 : dRes d (some i) = (i : Int) := by unfold dRes; rw [if_pos c2]
        rw [e2, e3]
      · rw [if_neg c2, l2_run acc x8 x9 bs ls X Y q hq h8 hl t0 t1 t2 t3 t4 t5 t6 t7 t8 t9 t10 n (i + 1) k d (by omega) hd]
        have e2 : dRes d (cGo (i + 1) (q.drop (i + 1))) = d := by unfold dRes; rw [if_neg c2]
        have e3 : dRes d (some i) = d := by unfold dRes; rw [if_neg c2]
        rw [e2, e3]
    · have c1 : ¬ (((q[i]'hi).toNat : Nat) : Int) = 58 := fun e => c ((tn (n := 58) (by decide)).1 e)
      rw [if_neg c1, if_neg c, l2_run acc x8 x9 bs ls X Y q hq h8 hl t0 t1 t2 t3 t4 t5 t6 t7 t8 t9 t10 n (i + 1) k d (by omega) hd]
/-! ### the optional fields -/
theorem join_snoc (ms : List (List UInt8)) (i : Nat) (hi : i < ms.length) (h0 : 0 < i) : Lib.join (ms.take (i + 1)) [32] = (Lib.join (ms.take i) [32] ++ [32]) ++ ms[i]'hi := by
  rw [List.take_add_one, List.getElem?_eq_getElem hi]
  show Lib.join (ms.take i ++ [ms[i]]) [32] = _
  rw [join_app 32 _ _ (by intro e; have := congrArg List.length e; rw [List.length_take, List.length_nil] at this; omega) (by simp), Lib.join_one, List.append_assoc]
theorem l3_run (acc : List S62) (bs : List Bool) (ls : List ByteArray) (X Y : Int) (ms : List (List UInt8)) (hl : tot ms ≤ 1000000) (t0 t1 t2 t3 : Int) (t4 t5 t6 t8 t9 t10 : ByteArray) : ∀ (n i k : Nat), i + n = ms.length →
    spec_MountsRead.l3 (k + n) acc bs ls X Y (ms.map toB) (ms.length : Int) (i : Int) t0 t1 t2 t3 t4 t5 t6 (toB (Lib.join (ms.take i) [32])) t8 t9 t10 = spec_MountsRead.l3 k acc bs ls X Y (ms.map toB) (ms.length : Int) (ms.length : Int) t0 t1 t2 t3 t4 t5 t6 (toB (Lib.join ms [32])) t8 t9 t10
  | 0, i, k, h => by
    obtain rfl : i = ms.length := h
    rw [List.take_length]
    rfl
  | n + 1, i, k, h => by
    have hi : i < ms.length := by omega
    have e1 : ∀ z, spec_MountsRead.l3 (k + (n + 1)) acc bs ls X Y (ms.map toB) (ms.length : Int) (i : Int) t0 t1 t2 t3 t4 t5 t6 z t8 t9 t10 = spec_MountsRead.l3 (k + n + 1) acc bs ls X Y (ms.map toB) (ms.length : Int) (i : Int) t0 t1 t2 t3 t4 t5 t6 z t8 t9 t10 := fun _ => rfl
    have hlen : ms.length ≤ tot ms := by
      have : ∀ l : List (List UInt8), l.length ≤ tot l := by
        intro l
        induction l with
        | nil => exact Nat.zero_le _
        | cons a l ih => unfold tot at ih ⊢; rw [List.map_cons, List.sum_cons, List.length_cons]; omega
      exact this ms
    have g1 : (i : Int) < (ms.length : Int) := by omega
    have g2 : (0 : Int) ≤ (i : Int) := by omega
    have g3 : (i : Int) < ((ms.map toB).length : Int) := by rw [List.length_map]; omega
    have hj := Nat.le_trans (join_len 32 (ms.take i)) (tot_take i ms)
    have hm : (ms[i]'hi).length + 1 ≤ tot ms := tot_mem (List.getElem_mem hi)
    have e32 : (⟨#[32]⟩ : ByteArray) = toB [32] := rfl
    rw [e1, spec_MountsRead.l3, wi i (by omega), if_pos g1, if_pos g2, if_pos g3, rd_map, getD_at ms [] i hi]
    by_cases c : 0 < i
    · have g4 : (i : Int) > 0 := by omega
      have g5 : (toB (Lib.join (ms.take i) [32])).size + 1 ≤ 9223372036854775807 := by rw [toB_size]; omega
      have g6 : (toB (Lib.join (ms.take i) [32]) ++ toB [32]).size + (toB (ms[i]'hi)).size ≤ 9223372036854775807 := by rw [toB_app, toB_size, toB_size, List.length_append, List.length_singleton]; omega
      rw [if_pos g4, e32, if_pos g5, if_pos g6, toB_app, toB_app, ← join_snoc ms i hi c, l3_run acc bs ls X Y ms hl t0 t1 t2 t3 t4 t5 t6 t8 t9 t10 n (i + 1) k (by omega)]
    · obtain rfl : i = 0 := by omega
      have g4 : ¬ ((0 : Nat) : Int) > 0 := by omega
      have g5 : (toB (Lib.join (ms.take 0) [32])).size + (toB (ms[0]'hi)).size ≤ 9223372036854775807 := by rw [toB_size, toB_size]; omega
      have e2 : Lib.join (ms.take 0) [32] ++ ms[0]'hi = Lib.join (ms.take (0 + 1)) [32] := by
        rw [List.take_add_one, List.getElem?_eq_getElem hi]
        show Lib.join [] [32] ++ ms[0] = Lib.join ([] ++ [ms[0]]) [32]
        rw [List.nil_append, Lib.join_one, Lib.join_nil, List.nil_append]
      rw [if_neg g4, if_pos g5, toB_app, e2, l3_run acc bs ls X Y ms hl t0 t1 t2 t3 t4 t5 t6 t8 t9 t10 n (0 + 1) k (by omega)]
/-! ### all is well -/
theorem l4_run (acc : List S62) (ls : List ByteArray) (X Y : Int) (bs : List Bool) (hl : bs.length ≤ 1000) (t0 t1 t2 t3 : Int) (t4 t5 t6 t7 t8 t9 t10 : ByteArray) : ∀ (n i k : Nat), i + n = bs.length →
    spec_MountsRead.l4 (k + 1 + n) acc ls X Y bs (bs.length : Int) (i : Int) t0 t1 t2 t3 t4 t5 t6 t7 t8 t9 t10 = if (bs.drop i).all id = true then spec_MountsRead.l4 (k + 1) acc ls X Y bs (bs.length : Int) (bs.length : Int) t0 t1 t2 t3 t4 t5 t6 t7 t8 t9 t10 else some (([] : List (S62)), false, 2)
  | 0, i, k, h => by
    obtain rfl : i = bs.length := h
    rw [List.drop_eq_nil_of_le (Nat.le_refl _), List.all_nil, if_pos rfl]
  | n + 1, i, k, h => by
    have hi : i < bs.length := by omega
    have e1 : spec_MountsRead.l4 (k + 1 + (n + 1)) acc ls X Y bs (bs.length : Int) (i : Int) t0 t1 t2 t3 t4 t5 t6 t7 t8 t9 t10 = spec_MountsRead.l4 (k + 1 + n + 1) acc ls X Y bs (bs.length : Int) (i : Int) t0 t1 t2 t3 t4 t5 t6 t7 t8 t9 t10 := rfl
    have g1 : (i : Int) < (bs.length : Int) := by omega
    have g2 : (0 : Int) ≤ (i : Int) := by omega
    have hr : rdOf false bs (i : Int) = bs[i]'hi := by unfold rdOf; rw [Int.toNat_natCast]; exact getD_at bs false i hi
    rw [e1, spec_MountsRead.l4, wi i (by omega), if_pos g1, if_pos g2, if_pos g1, hr, List.drop_eq_getElem_cons hi, List.all_cons]
    cases c : bs[i]'hi with
    | false => rw [if_neg (by decide)]; rfl
    | true =>
      rw [if_pos rfl, l4_run acc ls X Y bs hl t0 t1 t2 t3 t4 t5 t6 t7 t8 t9 t10 n (i + 1) k (by omega)]
      rfl
end Go.Proofs.YtokojamaigebaaaDoor.MtRd

/- The reference's reader of mounts: a line as a function of lists; the package's reader says the same of it. -/
set_option linter.unusedVariables false
set_option linter.unusedSimpArgs false
namespace Go.Proofs.YtokojamaigebaaaDoor.MtRd
open Go.RowKit Go.Proofs.YtokojamaigebaaaDoorW.PrintWords Go.Proofs.YtokojamaigebaaaDoorW.PrintLast Go.Proofs.YtokojamaigebaaaDoorW.PrintMore Go.Proofs.YtokojamaigebaaaDoor.ScanL Go.Proofs.YtokojamaigebaaaDoor.MtScan Go.Proofs.YtokojamaigebaaaDoor.GivM Go.Proofs.YtokojamaigebaaaDoor.M Go.Proofs.YtokojamaigebaaaDoor.L Go.Proofs.YtokojamaigebaaaDoor.K Go.Proofs.YtokojamaigebaaaDoor.MtRow Go.Proofs.YtokojamaigebaaaDoor.MtPure
open Go.Proofs.YtokojamaigebaaaDoor.MtDoor (rd_map)
open Go.Proofs.YtokojamaigebaaaDoorPt hiding toB_size toB_data
def bsS (ps : List (List UInt8)) (a c : Nat) : List Bool := [(numL (ps.getD 0 [])).2, (numL (ps.getD 1 [])).2, (numL ((ps.getD 2 []).take c)).2, (numL ((ps.getD 2 []).drop (c + 1))).2, (unoL (ps.getD 3 [])).isSome, (unoL (ps.getD 4 [])).isSome, (unoL (ps.getD (a + 2) [])).isSome]
def mS (ps : List (List UInt8)) (a c : Nat) : S23 := ⟨(numL (ps.getD 0 [])).1, (numL (ps.getD 1 [])).1, (numL ((ps.getD 2 []).take c)).1, (numL ((ps.getD 2 []).drop (c + 1))).1, toB ((unoL (ps.getD 3 [])).getD []), toB ((unoL (ps.getD 4 [])).getD []), toB (ps.getD 5 []), toB (Lib.join ((ps.take a).drop 6) [32]), toB (ps.getD (a + 1) []), toB ((unoL (ps.getD (a + 2) [])).getD []), toB (ps.getD (a + 3) [])⟩
/-- A line as the reference reads it; none: it leaves it. -/
def rowP (ps : List (List UInt8)) : Option S23 := match dGo 6 (ps.drop 6) with
  | none => none
  | some a => if ps.length = a + 4 then (match cGo 0 (ps.getD 2 []) with
    | none => none
    | some c => if (bsS ps a c).all id = true then (if mvM (mS ps a c) = true then some (mS ps a c) else none) else none) else none
def rowS (x : List UInt8) : Option S23 := rowP (splitL 32 x)
theorem uRes_is (u : Option (List UInt8)) : uRes [] u = (toB (u.getD []), u.isSome) := by
  cases u <;> rfl
theorem ext_take (q : List UInt8) (c : Nat) : (toB q).extract 0 c = toB (q.take c) := by
  rw [toB_ext, List.drop_zero, Nat.sub_zero]
theorem ext_drop (q : List UInt8) (c : Nat) : (toB q).extract c (toB q).size = toB (q.drop c) := by
  rw [toB_ext, toB_size, List.take_of_length_le (by rw [List.length_drop]; exact Nat.le_refl _)]
theorem wij (i j : Nat) (hi : i ≤ 1000000000000) (hj : j ≤ 1000) : wrap64 ((i : Int) + (j : Int)) = ((i + j : Nat) : Int) := by rw [wr (by omega) (by omega)]; omega
theorem uno_le (l : List UInt8) : ((unoL l).getD []).length ≤ l.length := by
  cases h : unoL l with
  | none => exact Nat.zero_le _
  | some r => exact uno_len l.length l.length l r h (Nat.le_refl _)
set_option maxHeartbeats 4000000 in
theorem tail_eval (ps : List (List UInt8)) (N : Nat) (hN : N ≤ 100000) (hpl : ps.length ≤ N + 1) (htot : tot ps ≤ N + 1) (acc : List S62) (ls : List ByteArray) (L i : Int) (K : Nat) (hK : 15000000000 ≤ K) (hacc : acc.length < 977343669134) (a : Nat) (ha6 : 6 ≤ a) (hd : dGo 6 (ps.drop 6) = some a) (hal : ps.length = a + 4) :
    match rowP ps with
    | none => spec_MountsRead.j2 K acc (ps.map toB) (a : Int) ls L i false = some (([] : List (S62)), false, 2)
    | some m => ∃ k', K ≤ k' + 3000000 ∧ spec_MountsRead.j2 K acc (ps.map toB) (a : Int) ls L i false = spec_MountsRead.l0 k' (acc ++ [toSpec m]) ls L (wrap64 (i + 1)) := by
  have hp : ∀ j : Nat, (ps.getD j []).length ≤ N := by
    intro j
    rw [List.getD_eq_getElem?_getD]
    cases hj : ps[j]? with
    | none => simp
    | some p =>
      have := tot_mem (List.mem_of_getElem? hj)
      simp only [Option.getD_some]
      omega
  have hml : ((ps.map toB).length : Int) = (ps.length : Int) := by rw [List.length_map]
  have q0 : (0 : Int) < ((ps.map toB).length : Int) := by omega
  have q1 : (1 : Int) < ((ps.map toB).length : Int) := by omega
  have q2 : (2 : Int) < ((ps.map toB).length : Int) := by omega
  have q3 : (3 : Int) < ((ps.map toB).length : Int) := by omega
  have q4 : (4 : Int) < ((ps.map toB).length : Int) := by omega
  have q5 : (5 : Int) < ((ps.map toB).length : Int) := by omega
  have r0 : rdOf ByteArray.empty (ps.map toB) 0 = toB (ps.getD 0 []) := rd_map ps 0
  have r1 : rdOf ByteArray.empty (ps.map toB) 1 = toB (ps.getD 1 []) := rd_map ps 1
  have r2 : rdOf ByteArray.empty (ps.map toB) 2 = toB (ps.getD 2 []) := rd_map ps 2
  have r3 : rdOf ByteArray.empty (ps.map toB) 3 = toB (ps.getD 3 []) := rd_map ps 3
  have r4 : rdOf ByteArray.empty (ps.map toB) 4 = toB (ps.getD 4 []) := rd_map ps 4
  have r5 : rdOf ByteArray.empty (ps.map toB) 5 = toB (ps.getD 5 []) := rd_map ps 5
  have p0 := hp 0
  have p1 := hp 1
  have p2 := hp 2
  have p3 := hp 3
  have p4 := hp 4
  have p5 := hp 5
  have pa1 := hp (a + 1)
  have pa2 := hp (a + 2)
  have pa3 := hp (a + 3)
  have hmid : tot ((ps.take a).drop 6) ≤ 1000000 := Nat.le_trans (tot_drop 6 _) (Nat.le_trans (tot_take a ps) (by omega))
  have hjl : (Lib.join ((ps.take a).drop 6) [32]).length ≤ 1000000 := Nat.le_trans (join_len 32 _) hmid
  have hmidl : ((ps.take a).drop 6).length ≤ 1000000 := by rw [List.length_drop, List.length_take]; omega
  have ymid : ((ps.map toB).take ((a : Int)).toNat).drop 6 = ((ps.take a).drop 6).map toB := by rw [Int.toNat_natCast, ← List.map_take, ← List.map_drop]
  have w1 := Aside0.mk (show wrap64 ((a : Int) + 1) = ((a + 1 : Nat) : Int) from wij a 1 (by omega) (by decide))
  have w2 := Aside0.mk (show wrap64 ((a : Int) + 2) = ((a + 2 : Nat) : Int) from wij a 2 (by omega) (by decide))
  have w3 := Aside0.mk (show wrap64 ((a : Int) + 3) = ((a + 3 : Nat) : Int) from wij a 3 (by omega) (by decide))
  have z1 : (0 : Int) ≤ ((a + 1 : Nat) : Int) := Int.natCast_nonneg _
  have z2 : (0 : Int) ≤ ((a + 2 : Nat) : Int) := Int.natCast_nonneg _
  have z3 : (0 : Int) ≤ ((a + 3 : Nat) : Int) := Int.natCast_nonneg _
  have y1 : ((a + 1 : Nat) : Int) < ((ps.map toB).length : Int) := by rw [hml]; omega
  have y2 : ((a + 2 : Nat) : Int) < ((ps.map toB).length : Int) := by rw [hml]; omega
  have y3 : ((a + 3 : Nat) : Int) < ((ps.map toB).length : Int) := by rw [hml]; omega
  have ya : ((a : Nat) : Int) ≤ ((ps.map toB).length : Int) := by rw [hml]; omega
  have za : (6 : Int) ≤ ((a : Nat) : Int) := by omega
  have ra1 := rd_map ps (a + 1)
  have ra2 := rd_map ps (a + 2)
  have ra3 := rd_map ps (a + 3)
  unfold rowP
  rw [hd]
  simp only []
  rw [if_pos hal]
  generalize hq : ps.getD 2 [] = q at *
  obtain ⟨K, rfl⟩ : ∃ j, K = j + 1 + 1 + q.length + 1 := ⟨K - q.length - 3, by omega⟩
  have u0 := num_is (ps.getD 0 []) (by omega) (K + 1 + 1 + q.length) (by omega)
  have u1 := num_is (ps.getD 1 []) (by omega) (K + 1 + 1 + q.length) (by omega)
  have b0 : (0 : Int) < ((List.replicate 7 false).length : Int) := by decide
  have b1 : (1 : Int) < ((List.replicate 7 false).length : Int) := by decide
  have sq : ((toB q).size : Int) = (q.length : Int) := by rw [toB_size]
  have J : spec_MountsRead.j2 (K + 1 + 1 + q.length + 1) acc (ps.map toB) (a : Int) ls L i false = spec_MountsRead.l2 (K + 1 + 1) acc (ps.map toB) (a : Int) (((List.replicate 7 false).set (0 : Int).toNat (numL (ps.getD 0 [])).2).set (1 : Int).toNat (numL (ps.getD 1 [])).2) (dRes (-1) (cGo 0 q)) ls L i (q.length : Int) (q.length : Int) (numL (ps.getD 0 [])).1 (numL (ps.getD 1 [])).1 0 0 (⟨#[]⟩ : ByteArray) (⟨#[]⟩ : ByteArray) (⟨#[]⟩ : ByteArray) (⟨#[]⟩ : ByteArray) (⟨#[]⟩ : ByteArray) (⟨#[]⟩ : ByteArray) (⟨#[]⟩ : ByteArray) := by
    rw [spec_MountsRead.j2, if_neg (by decide), if_pos (by decide), Option.bind_some, if_pos q0, r0, u0, Option.bind_some, if_pos b0, if_pos q1, r1, u1, Option.bind_some, if_pos b1, if_pos q2, r2, sq]
    have := l2_run acc (ps.map toB) (a : Int) (((List.replicate 7 false).set (0 : Int).toNat (numL (ps.getD 0 [])).2).set (1 : Int).toNat (numL (ps.getD 1 [])).2) ls L i q r2 q2 (by omega) (numL (ps.getD 0 [])).1 (numL (ps.getD 1 [])).1 0 0 (⟨#[]⟩ : ByteArray) (⟨#[]⟩ : ByteArray) (⟨#[]⟩ : ByteArray) (⟨#[]⟩ : ByteArray) (⟨#[]⟩ : ByteArray) (⟨#[]⟩ : ByteArray) (⟨#[]⟩ : ByteArray) q.length 0 (K + 1 + 1) (-1) (by omega) (.inl (by decide))
    rw [List.drop_zero] at this
    exact this
  rw [J]
  have hbl : (((List.replicate 7 false).set (0 : Int).toNat (numL (ps.getD 0 [])).2).set (1 : Int).toNat (numL (ps.getD 1 [])).2).length = 7 := by rw [List.length_set, List.length_set, List.length_replicate]
  have hbs : ∀ c : Nat, ((((((((List.replicate 7 false).set (0 : Int).toNat (numL (ps.getD 0 [])).2).set (1 : Int).toNat (numL (ps.getD 1 [])).2).set (2 : Int).toNat (numL (q.take c)).2).set (3 : Int).toNat (numL (q.drop (c + 1))).2).set (4 : Int).toNat (unoL (ps.getD 3 [])).isSome).set (5 : Int).toNat (unoL (ps.getD 4 [])).isSome).set (6 : Int).toNat (unoL (ps.getD (a + 2) [])).isSome) = bsS ps a c := fun c => by unfold bsS; rw [hq]; rfl
  clear J u0 u1 b0 b1
  generalize ((List.replicate 7 false).set (0 : Int).toNat (numL (ps.getD 0 [])).2).set (1 : Int).toNat (numL (ps.getD 1 [])).2 = bs0 at *
  have c2 : (2 : Int) < (bs0.length : Int) := by rw [hbl]; decide
  have c3 : (3 : Int) < (bs0.length : Int) := by rw [hbl]; decide
  have c4 : (4 : Int) < (bs0.length : Int) := by rw [hbl]; decide
  have c5 : (5 : Int) < (bs0.length : Int) := by rw [hbl]; decide
  have c6 : (6 : Int) < (bs0.length : Int) := by rw [hbl]; decide
  have nlt : ¬ (q.length : Int) < (q.length : Int) := Int.lt_irrefl _
  cases hc : cGo 0 q with
  | none =>
    have e : dRes (-1) none = -1 := rfl
    rw [e, spec_MountsRead.l2, if_neg nlt, if_pos (by decide)]
  | some c =>
    obtain ⟨_, hcl, hcut⟩ := (cGo_cut q 0).2 c hc
    rw [Nat.sub_zero] at hcl hcut
    have e : dRes (-1) (some c) = (c : Int) := rfl
    have n0 : ¬ (c : Int) < 0 := by omega
    have n1 : (0 : Int) ≤ (c : Int) := by omega
    have n2 : (c : Int) ≤ ((toB q).size : Int) := by rw [sq]; omega
    have wc := Aside0.mk (show wrap64 ((c : Int) + 1) = ((c + 1 : Nat) : Int) from wij c 1 (by omega) (by decide))
    have n3 : (0 : Int) ≤ ((c + 1 : Nat) : Int) := Int.natCast_nonneg _
    have n4 : ((c + 1 : Nat) : Int) ≤ ((toB q).size : Int) := by rw [sq]; omega
    have hql := List.length_take_le c q
    have hdl : (q.drop (c + 1)).length ≤ q.length := by rw [List.length_drop]; omega
    have u2 := num_is (q.take c) (by omega) (K + 1) (by omega)
    have u3 := num_is (q.drop (c + 1)) (by omega) (K + 1) (by omega)
    have u4 := un_is (ps.getD 3 []) (by omega) (K + 1) (by omega)
    have u5 := un_is (ps.getD 4 []) (by omega) (K + 1) (by omega)
    have u6 := un_is (ps.getD (a + 2) []) (by omega) (K + 1) (by omega)
    have t1 : (c : Int).toNat = c := Int.toNat_natCast c
    have t2 : (((c + 1 : Nat) : Int)).toNat = c + 1 := Int.toNat_natCast (c + 1)
    rw [e, spec_MountsRead.l2, if_neg nlt, if_neg n0, if_pos q2, if_pos n1, r2, if_pos n2, t1, ext_take, u2, Option.bind_some, if_pos c2, wc.out, if_pos n3, if_pos n4, t2, ext_drop, u3, Option.bind_some, if_pos c3, if_pos q3, r3, u4, Option.bind_some, uRes_is, if_pos c4, if_pos q4, r4, u5, Option.bind_some, uRes_is, if_pos c5, w2.out, if_pos z2, if_pos y2, ra2, u6, Option.bind_some, uRes_is, if_pos c6, if_pos q5, w1.out, if_pos z1, if_pos y1, w3.out, if_pos z3, if_pos y3, if_pos za, if_pos ya, Option.bind_some, ymid, List.length_map]
    simp only []
    rw [hbs c, r5, ra1, ra3]
    clear u2 u3 u4 u5 u6 wc w1 w2 w3
    generalize hmids : (ps.take a).drop 6 = mids at *
    obtain ⟨K, rfl⟩ : ∃ j, K = j + 1 + 7 + mids.length := ⟨K - mids.length - 8, by omega⟩
    have hj0 : (⟨#[]⟩ : ByteArray) = toB (Lib.join (mids.take 0) [32]) := rfl
    have L3 := l3_run acc (bsS ps a c) ls L i mids hmid (numL (ps.getD 0 [])).1 (numL (ps.getD 1 [])).1 (numL (q.take c)).1 (numL (q.drop (c + 1))).1 (toB ((unoL (ps.getD 3 [])).getD [])) (toB ((unoL (ps.getD 4 [])).getD [])) (toB (ps.getD 5 [])) (toB (ps.getD (a + 1) [])) (toB ((unoL (ps.getD (a + 2) [])).getD [])) (toB (ps.getD (a + 3) [])) mids.length 0 (K + 1 + 7 + 1) (by omega)
    have ek : K + 1 + 7 + mids.length + 1 = K + 1 + 7 + 1 + mids.length := by omega
    rw [hj0, ek]
    have nlm : ¬ (mids.length : Int) < (mids.length : Int) := Int.lt_irrefl _
    have L4 := l4_run acc ls L i (bsS ps a c) (by show 7 ≤ 1000; decide) (numL (ps.getD 0 [])).1 (numL (ps.getD 1 [])).1 (numL (q.take c)).1 (numL (q.drop (c + 1))).1 (toB ((unoL (ps.getD 3 [])).getD [])) (toB ((unoL (ps.getD 4 [])).getD [])) (toB (ps.getD 5 [])) (toB (Lib.join mids [32])) (toB (ps.getD (a + 1) [])) (toB ((unoL (ps.getD (a + 2) [])).getD [])) (toB (ps.getD (a + 3) [])) 7 0 K rfl
    have step : spec_MountsRead.l3 (K + 1 + 7 + 1 + mids.length) acc (bsS ps a c) ls L i (mids.map toB) (mids.length : Int) 0 (numL (ps.getD 0 [])).1 (numL (ps.getD 1 [])).1 (numL (q.take c)).1 (numL (q.drop (c + 1))).1 (toB ((unoL (ps.getD 3 [])).getD [])) (toB ((unoL (ps.getD 4 [])).getD [])) (toB (ps.getD 5 [])) (toB (Lib.join (mids.take 0) [32])) (toB (ps.getD (a + 1) [])) (toB ((unoL (ps.getD (a + 2) [])).getD [])) (toB (ps.getD (a + 3) [])) = if (bsS ps a c).all id = true then spec_MountsRead.l4 (K + 1) acc ls L i (bsS ps a c) ((bsS ps a c).length : Int) ((bsS ps a c).length : Int) (numL (ps.getD 0 [])).1 (numL (ps.getD 1 [])).1 (numL (q.take c)).1 (numL (q.drop (c + 1))).1 (toB ((unoL (ps.getD 3 [])).getD [])) (toB ((unoL (ps.getD 4 [])).getD [])) (toB (ps.getD 5 [])) (toB (Lib.join mids [32])) (toB (ps.getD (a + 1) [])) (toB ((unoL (ps.getD (a + 2) [])).getD [])) (toB (ps.getD (a + 3) [])) else some (([] : List (S62)), false, 2) := by
      refine Eq.trans L3 ?_
      rw [spec_MountsRead.l3, if_neg nlm]
      refine Eq.trans L4 ?_
      rw [List.drop_zero]
    clear L3 L4
    cases hall : (bsS ps a c).all id with
    | false =>
      rw [hall, if_neg (by decide)] at step
      rw [if_neg (by decide)]
      exact step
    | true =>
      rw [hall, if_pos rfl] at step
      rw [if_pos rfl]
      have nlb : ¬ ((bsS ps a c).length : Int) < ((bsS ps a c).length : Int) := Int.lt_irrefl _
      have mv := mv_is (numL (ps.getD 0 [])).1 (numL (ps.getD 1 [])).1 (numL (q.take c)).1 (numL (q.drop (c + 1))).1 ((unoL (ps.getD 3 [])).getD []) ((unoL (ps.getD 4 [])).getD []) (ps.getD 5 []) (Lib.join mids [32]) (ps.getD (a + 1) []) ((unoL (ps.getD (a + 2) [])).getD []) (ps.getD (a + 3) []) (by have := uno_le (ps.getD 3 []); omega) (by have := uno_le (ps.getD 4 []); omega) (by omega) (by omega) (by omega) (by have := uno_le (ps.getD (a + 2) []); omega) (by omega) K (by omega)
      have hm : mvM (mS ps a c) = mvB (numL (ps.getD 0 [])).1 (numL (ps.getD 1 [])).1 (numL (q.take c)).1 (numL (q.drop (c + 1))).1 ((unoL (ps.getD 3 [])).getD []) ((unoL (ps.getD 4 [])).getD []) (ps.getD 5 []) (Lib.join mids [32]) (ps.getD (a + 1) []) ((unoL (ps.getD (a + 2) [])).getD []) (ps.getD (a + 3) []) := by
        unfold mvM mS
        rw [hq, hmids]
        rfl
      rw [spec_MountsRead.l4, if_neg nlb, mv, Option.bind_some] at step
      rw [hm]
      cases hv : mvB (numL (ps.getD 0 [])).1 (numL (ps.getD 1 [])).1 (numL (q.take c)).1 (numL (q.drop (c + 1))).1 ((unoL (ps.getD 3 [])).getD []) ((unoL (ps.getD 4 [])).getD []) (ps.getD 5 []) (Lib.join mids [32]) (ps.getD (a + 1) []) ((unoL (ps.getD (a + 2) [])).getD []) (ps.getD (a + 3) []) with
      | false =>
        rw [hv, if_neg (by decide)] at step
        rw [if_neg (by decide)]
        exact step
      | true =>
        rw [hv, if_pos rfl, if_pos hacc] at step
        rw [if_pos rfl]
        refine ⟨K, by omega, step.trans ?_⟩
        have e2 : toSpec (mS ps a c) = (⟨(numL (ps.getD 0 [])).1, (numL (ps.getD 1 [])).1, (numL (q.take c)).1, (numL (q.drop (c + 1))).1, toB ((unoL (ps.getD 3 [])).getD []), toB ((unoL (ps.getD 4 [])).getD []), toB (ps.getD 5 []), toB (Lib.join mids [32]), toB (ps.getD (a + 1) []), toB ((unoL (ps.getD (a + 2) [])).getD []), toB (ps.getD (a + 3) [])⟩ : S62) := by
          unfold toSpec mS
          rw [hq, hmids]
        rw [e2]
theorem line_eval (x : List UInt8) (hx : x.length ≤ 90000) (acc : List S62) (ls : List ByteArray) (L i : Int) (K : Nat) (hK : 16000000000 ≤ K) (hacc : acc.length < 977343669134) (hr : rdOf ByteArray.empty ls i = toB x) (h0 : 0 ≤ i) (hi : i < (ls.length : Int)) (hL : i < L) :
    match rowS x with
    | none => spec_MountsRead.l0 K acc ls L i = some (([] : List (S62)), false, 2)
    | some m => ∃ k', K ≤ k' + 6000000 ∧ spec_MountsRead.l0 K acc ls L i = spec_MountsRead.l0 k' (acc ++ [toSpec m]) ls L (wrap64 (i + 1)) := by
  have hpl := (splitL_len 32 x).2
  have htot := splitL_tot 32 x
  unfold rowS
  obtain ⟨K, rfl⟩ : ∃ j, K = j + 1 + (splitL 32 x).length + 1 := ⟨K - (splitL 32 x).length - 2, by omega⟩
  have hf := fields_is x (by omega) (K + 1 + (splitL 32 x).length) (by omega)
  have E : spec_MountsRead.l0 (K + 1 + (splitL 32 x).length + 1) acc ls L i = spec_MountsRead.l1 (K + 1 + (splitL 32 x).length) acc ((splitL 32 x).map toB) (-1) 6 ls L i := by
    rw [spec_MountsRead.l0, if_pos hL, if_pos h0, if_pos hi, hr, hf, Option.bind_some]
  rw [E]
  clear E hf
  generalize splitL 32 x = ps at hpl htot hK ⊢
  have hml : ((ps.map toB).length : Int) = (ps.length : Int) := by rw [List.length_map]
  have T : ∃ k1, K ≤ k1 ∧ k1 ≤ K + 1000000 ∧ spec_MountsRead.l1 (K + 1 + ps.length) acc (ps.map toB) (-1) 6 ls L i = if dRes (-1) (dGo 6 (ps.drop 6)) < 0 then spec_MountsRead.j2 k1 acc (ps.map toB) (dRes (-1) (dGo 6 (ps.drop 6))) ls L i true else spec_MountsRead.j2 k1 acc (ps.map toB) (dRes (-1) (dGo 6 (ps.drop 6))) ls L i (((ps.map toB).length : Int) != (wrap64 (dRes (-1) (dGo 6 (ps.drop 6)) + 4))) := by
    by_cases h6 : 6 ≤ ps.length
    · refine ⟨K + 6, by omega, by omega, ?_⟩
      have := l1_run acc ls L i ps (by omega) (ps.length - 6) 6 (K + 6 + 1) (-1) (by omega) (.inl (by decide))
      rw [show K + 6 + 1 + (ps.length - 6) = K + 1 + ps.length by omega] at this
      refine Eq.trans this ?_
      rw [spec_MountsRead.l1, if_neg (by rw [hml]; exact Int.lt_irrefl _)]
    · refine ⟨K + ps.length, by omega, by omega, ?_⟩
      have ed : ps.drop 6 = [] := List.drop_eq_nil_of_le (by omega)
      have en : ¬ (6 : Int) < ((ps.map toB).length : Int) := by rw [hml]; omega
      rw [show K + 1 + ps.length = K + ps.length + 1 by omega, spec_MountsRead.l1, if_neg en, ed]
      rfl
  obtain ⟨k1, hk1, hk2, T⟩ := T
  rw [T]
  clear T
  cases hd : dGo 6 (ps.drop 6) with
  | none =>
    have e : dRes (-1) none = -1 := rfl
    have en : rowP ps = none := by unfold rowP; rw [hd]
    rw [e, if_pos (by decide), en]
    simp only []
    obtain ⟨k1, rfl⟩ : ∃ j, k1 = j + 1 := ⟨k1 - 1, by omega⟩
    rw [spec_MountsRead.j2, if_pos rfl]
  | some a =>
    obtain ⟨ha6, hal, _⟩ := dGo_some _ _ _ hd
    rw [List.length_drop] at hal
    have e : dRes (-1) (some a) = (a : Int) := rfl
    have nn : ¬ (a : Int) < 0 := by omega
    rw [e, if_neg nn, show wrap64 ((a : Int) + 4) = ((a + 4 : Nat) : Int) from wij a 4 (by omega) (by decide), hml]
    by_cases hl : ps.length = a + 4
    · have ef : (((ps.length : Nat) : Int) != ((a + 4 : Nat) : Int)) = false := by rw [hl]; simp
      rw [ef]
      have := tail_eval ps x.length (by omega) hpl (by omega) acc ls L i k1 (by omega) hacc a ha6 hd hl
      cases hrow : rowP ps with
      | none => rw [hrow] at this; exact this
      | some m =>
        rw [hrow] at this
        obtain ⟨k', hk', h⟩ := this
        exact ⟨k', by omega, h⟩
    · have ef : (((ps.length : Nat) : Int) != ((a + 4 : Nat) : Int)) = true := by
        rw [bne_iff_ne]
        intro e
        exact hl (Int.ofNat.inj e)
      have en : rowP ps = none := by unfold rowP; rw [hd]; simp only []; rw [if_neg hl]
      rw [ef, en]
      simp only []
      obtain ⟨k1, rfl⟩ : ∃ j, k1 = j + 1 := ⟨k1 - 1, by omega⟩
      rw [spec_MountsRead.j2, if_pos rfl]
end Go.Proofs.YtokojamaigebaaaDoor.MtRd
