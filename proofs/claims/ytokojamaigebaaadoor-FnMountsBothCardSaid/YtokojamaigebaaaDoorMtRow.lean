/- A line of mounts as a function of lists: the code's helpers (zzSplit, zzCut, unescape, Join, toInt) say the same. -/
import Derived.Test.YtokojamaigebaaaDoorDoorMt
set_option linter.unusedVariables false
set_option linter.unusedSimpArgs false
namespace Go.Proofs.YtokojamaigebaaaDoor.MtRow
open Go.RowKit Go.Proofs.YtokojamaigebaaaDoorW.PrintWords Go.Proofs.YtokojamaigebaaaDoorW.PrintLast Go.Proofs.YtokojamaigebaaaDoorW.PrintMore Go.Proofs.YtokojamaigebaaaDoor.Scan Go.Proofs.YtokojamaigebaaaDoor.ScanL Go.Proofs.YtokojamaigebaaaDoor.GivM Go.Proofs.YtokojamaigebaaaDoor.GivIdx Go.Proofs.YtokojamaigebaaaDoor.M Go.Proofs.YtokojamaigebaaaDoor.U Go.Proofs.YtokojamaigebaaaDoor.MtLoop Go.Proofs.YtokojamaigebaaaDoor.MtFilt Go.Proofs.YtokojamaigebaaaDoor.DoorMt Go.Proofs.YtokojamaigebaaaDoorPt
/-- The pieces of a text between a byte. -/
def splitL (c : UInt8) : List UInt8 → List (List UInt8)
  | [] => [[]]
  | x :: l => if x = c then [] :: splitL c l else match splitL c l with
    | [] => [[x]]
    | p :: ps => (x :: p) :: ps
/-- What stands ahead of a byte, and behind it. -/
def cutL (c : UInt8) : List UInt8 → Option (List UInt8 × List UInt8)
  | [] => none
  | x :: l => if x = c then some ([], l) else (cutL c l).map fun p => (x :: p.1, p.2)
def oct (b : UInt8) : Bool := decide (48 ≤ b.toNat) && decide (b.toNat ≤ 55)
/-- Is this a backslash and three octal digits, of which the first is 0 or 1? -/
def escB (a b c d : UInt8) : Bool := a == 92 && (b == 48 || b == 49) && oct c && oct d
def escV (b c d : UInt8) : UInt8 := UInt8.ofNat ((b.toNat - 48) * 64 + (c.toNat - 48) * 8 + (d.toNat - 48))
/-- What a text with octal escapes stands for (n: as many steps). -/
def unescN : Nat → List UInt8 → List UInt8
  | n + 1, a :: b :: c :: d :: l => if escB a b c d = true then escV b c d :: unescN n l else a :: unescN n (b :: c :: d :: l)
  | n + 1, a :: l => a :: unescN n l
  | _, _ => []
def unescL (l : List UInt8) : List UInt8 := unescN l.length l
/-- Where the dash stands, sought from the end: n is the place, five less. -/
def sepGo (ps : List (List UInt8)) : Nat → Option Nat
  | 0 => none
  | n + 1 => if ps.getD (n + 6) [] = [45] then some (n + 6) else sepGo ps n
/-- A line as a mount. -/
def rowL (l : List UInt8) : Option S23 :=
  if 10 ≤ (splitL 32 l).length ∧ l.length ≤ 900000 then (sepGo (splitL 32 l) ((splitL 32 l).length - 9)).bind fun a => (cutL 58 ((splitL 32 l).getD 2 [])).bind fun q =>
    some ⟨toIntV ((splitL 32 l).getD 0 []), toIntV ((splitL 32 l).getD 1 []), toIntV q.1, toIntV q.2, toB (unescL ((splitL 32 l).getD 3 [])), toB (unescL ((splitL 32 l).getD 4 [])), toB ((splitL 32 l).getD 5 []), toB (Lib.join (((splitL 32 l).take a).drop 6) [32]), toB (unescL ((splitL 32 l).getD (a + 1) [])), toB (unescL ((splitL 32 l).getD (a + 2) [])), toB ((splitL 32 l).getD (a + 3) [])⟩
  else none
/-! ### bytes -/
theorem toB_data (l : List UInt8) : (toB l).data.toList = l := rfl
theorem toB_size (l : List UInt8) : (toB l).size = l.length := by rw [Lib.size_eq, toB_data]
theorem toB_list (l : List UInt8) : (toB l).toList = l := by rw [Lib.toList_data, toB_data]
theorem toB_ext (l : List UInt8) (a b : Nat) : (toB l).extract a b = toB ((l.drop a).take (b - a)) := by
  have h := Lib.extract_data (toB l) a b
  rw [toB_data] at h
  apply ByteArray.ext
  apply Array.toList_inj.1
  rw [h]
  rfl
theorem wr {x : Int} (h1 : -9223372036854775808 ≤ x) (h2 : x ≤ 9223372036854775807) : wrap64 x = x := by rw [← i64_w, IntKind.wrap_i64]; omega
theorem bt_toB (l : List UInt8) (i : Nat) (h : i < l.length) : bt (toB l) (i : Int) = ((l[i]'h).toNat : Int) := by
  unfold bt
  rw [dif_pos (by rw [Int.toNat_natCast, toB_size]; exact h)]
  rfl
/-! ### zzIndex, zzSplit, zzCut -/
theorem idx_step (k : Nat) (l : List UInt8) (c : UInt8) (i : Nat) (hi : i < l.length) (hl : l.length ≤ 1000000) : mountinfo_zzIndex.l0 (k + 1) (toB l) (toB [c]) (i : Int) = if l[i]'hi = c then some (i : Int) else mountinfo_zzIndex.l0 k (toB l) (toB [c]) ((i + 1 : Nat) : Int) := by
  have e1 : (toB [c]).size = 1 := toB_size _
  have e2 : wrap64 ((i : Int) + (((toB [c]).size : Nat) : Int)) = ((i + 1 : Nat) : Int) := by rw [e1]; rw [wr (by omega) (by omega)]; omega
  have e3 : wrap64 ((i : Int) + 1) = ((i + 1 : Nat) : Int) := by rw [wr (by omega) (by omega)]; omega
  have e4 : ((toB l).extract ((i : Int)).toNat (((i + 1 : Nat) : Int)).toNat).toList = [l[i]'hi] := by
    rw [Int.toNat_natCast, Int.toNat_natCast, toB_ext, toB_list, show i + 1 - i = 1 by omega, List.drop_eq_getElem_cons hi]
    rfl
  rw [mountinfo_zzIndex.l0, e2, e3, if_pos (by rw [toB_size]; omega), if_pos (by omega), if_pos (by omega), e4, toB_list]
  by_cases h : l[i]'hi = c
  · rw [if_pos h, if_pos (by rw [h])]
  · rw [if_neg h, if_neg (by intro e; exact h (List.cons.inj e).1)]
theorem idx_end (k : Nat) (l : List UInt8) (c : UInt8) (hl : l.length ≤ 1000000) : mountinfo_zzIndex.l0 (k + 1) (toB l) (toB [c]) (l.length : Int) = some (-1) := by
  have e1 : (toB [c]).size = 1 := toB_size _
  have e2 : wrap64 ((l.length : Int) + (((toB [c]).size : Nat) : Int)) = ((l.length + 1 : Nat) : Int) := by rw [e1]; rw [wr (by omega) (by omega)]; omega
  rw [mountinfo_zzIndex.l0, e2, if_neg (by rw [toB_size]; omega)]
theorem idx_at (p r : List UInt8) (c : UInt8) (hp : ∀ b ∈ p, b ≠ c) (hl : (p ++ c :: r).length ≤ 1000000) : ∀ (n i k : Nat), n = p.length - i → i ≤ p.length → n + 1 ≤ k → mountinfo_zzIndex.l0 k (toB (p ++ c :: r)) (toB [c]) (i : Int) = some (p.length : Int)
  | n, i, 0, _, _, hk => by omega
  | n, i, k + 1, hn, hi, hk => by
    have hlt : i < (p ++ c :: r).length := by rw [List.length_append, List.length_cons]; omega
    rw [idx_step k _ c i hlt hl]
    by_cases h : i = p.length
    · subst h
      rw [if_pos (by rw [List.getElem_append_right (Nat.le_refl _)]; simp)]
    · have h2 : i < p.length := by omega
      rw [if_neg (by rw [List.getElem_append_left h2]; exact hp _ (List.getElem_mem h2))]
      exact idx_at p r c hp hl (p.length - (i + 1)) (i + 1) k rfl (by omega) (by omega)
theorem idx_no (p : List UInt8) (c : UInt8) (hp : ∀ b ∈ p, b ≠ c) (hl : p.length ≤ 1000000) : ∀ (n i k : Nat), n = p.length - i → i ≤ p.length → n + 1 ≤ k → mountinfo_zzIndex.l0 k (toB p) (toB [c]) (i : Int) = some (-1)
  | n, i, 0, _, _, hk => by omega
  | n, i, k + 1, hn, hi, hk => by
    by_cases h : i = p.length
    · subst h
      exact idx_end k p c hl
    · have h2 : i < p.length := by omega
      rw [idx_step k _ c i h2 hl, if_neg (hp _ (List.getElem_mem h2))]
      exact idx_no p c hp hl (p.length - (i + 1)) (i + 1) k rfl (by omega) (by omega)
/-- A text has no such byte, or is what stands ahead of the first, and behind it. -/
theorem parts (c : UInt8) : ∀ l : List UInt8, (∀ b ∈ l, b ≠ c) ∨ ∃ p r, l = p ++ c :: r ∧ ∀ b ∈ p, b ≠ c
  | [] => .inl (fun b h => by simp at h)
  | x :: l => by
    by_cases h : x = c
    · exact .inr ⟨[], l, by rw [h]; rfl, fun b h => by simp at h⟩
    · rcases parts c l with h2 | ⟨p, r, e, h2⟩
      · exact .inl (fun b hb => by rcases List.mem_cons.1 hb with rfl | hb; exact h; exact h2 b hb)
      · exact .inr ⟨x :: p, r, by rw [e]; rfl, fun b hb => by rcases List.mem_cons.1 hb with rfl | hb; exact h; exact h2 b hb⟩
theorem splitL_no (c : UInt8) : ∀ l : List UInt8, (∀ b ∈ l, b ≠ c) → splitL c l = [l]
  | [], _ => rfl
  | x :: l, h => by
    rw [splitL, if_neg (h x List.mem_cons_self), splitL_no c l (fun b hb => h b (List.mem_cons_of_mem _ hb))]
theorem splitL_at (c : UInt8) (r : List UInt8) : ∀ p : List UInt8, (∀ b ∈ p, b ≠ c) → splitL c (p ++ c :: r) = p :: splitL c r
  | [], _ => by rw [List.nil_append, splitL, if_pos rfl]
  | x :: p, h => by
    rw [List.cons_append, splitL, if_neg (h x List.mem_cons_self), splitL_at c r p (fun b hb => h b (List.mem_cons_of_mem _ hb))]
theorem cutL_no (c : UInt8) : ∀ l : List UInt8, (∀ b ∈ l, b ≠ c) → cutL c l = none
  | [], _ => rfl
  | x :: l, h => by
    rw [cutL, if_neg (h x List.mem_cons_self), cutL_no c l (fun b hb => h b (List.mem_cons_of_mem _ hb))]
    rfl
theorem cutL_at (c : UInt8) (r : List UInt8) : ∀ p : List UInt8, (∀ b ∈ p, b ≠ c) → cutL c (p ++ c :: r) = some (p, r)
  | [], _ => by rw [List.nil_append, cutL, if_pos rfl]
  | x :: p, h => by
    rw [List.cons_append, cutL, if_neg (h x List.mem_cons_self), cutL_at c r p (fun b hb => h b (List.mem_cons_of_mem _ hb))]
    rfl
theorem splitL_len (c : UInt8) : ∀ l : List UInt8, 1 ≤ (splitL c l).length ∧ (splitL c l).length ≤ l.length + 1
  | [] => ⟨Nat.le_refl _, Nat.le_refl _⟩
  | x :: l => by
    have ih := splitL_len c l
    rw [splitL]
    split
    · simp only [List.length_cons]; omega
    · cases h : splitL c l with
      | nil => rw [h] at ih; simp at ih
      | cons p ps => rw [h] at ih; simp only [List.length_cons] at ih ⊢; omega
/-- The pieces' lengths, and one more for each. -/
def tot (ps : List (List UInt8)) : Nat := (ps.map fun p => p.length + 1).sum
theorem splitL_tot (c : UInt8) : ∀ l : List UInt8, tot (splitL c l) = l.length + 1
  | [] => rfl
  | x :: l => by
    have ih := splitL_tot c l
    rw [splitL]
    split
    · unfold tot at ih ⊢; rw [List.map_cons, List.sum_cons, ih]; simp; omega
    · cases h : splitL c l with
      | nil => have := (splitL_len c l).1; rw [h] at this; simp at this
      | cons p ps => rw [h] at ih; unfold tot at ih ⊢; rw [List.map_cons, List.sum_cons] at ih ⊢; simp only [List.length_cons] at ih ⊢; omega
theorem tot_mem {p : List UInt8} : ∀ {ps : List (List UInt8)}, p ∈ ps → p.length + 1 ≤ tot ps
  | q :: ps, h => by
    unfold tot
    rw [List.map_cons, List.sum_cons]
    rcases List.mem_cons.1 h with rfl | h
    · omega
    · have := tot_mem h; unfold tot at this; omega
theorem tot_drop : ∀ (n : Nat) (ps : List (List UInt8)), tot (ps.drop n) ≤ tot ps
  | 0, ps => Nat.le_refl _
  | n + 1, [] => Nat.le_refl _
  | n + 1, p :: ps => by rw [List.drop_succ_cons]; refine Nat.le_trans (tot_drop n ps) ?_; unfold tot; rw [List.map_cons, List.sum_cons]; omega
theorem tot_take : ∀ (n : Nat) (ps : List (List UInt8)), tot (ps.take n) ≤ tot ps
  | 0, ps => by rw [List.take_zero]; exact Nat.zero_le _
  | n + 1, [] => Nat.le_refl _
  | n + 1, p :: ps => by rw [List.take_succ_cons]; have := tot_take n ps; unfold tot at this ⊢; rw [List.map_cons, List.map_cons, List.sum_cons, List.sum_cons]; omega
theorem join_cons (p : List UInt8) (ps : List (List UInt8)) (c : UInt8) (h : ps ≠ []) : Lib.join (p :: ps) [c] = p ++ c :: Lib.join ps [c] := by
  cases ps with
  | nil => exact absurd rfl h
  | cons q ps => simp [Lib.join, List.intercalate]
theorem join_len (c : UInt8) : ∀ ps : List (List UInt8), (Lib.join ps [c]).length ≤ tot ps
  | [] => Nat.zero_le _
  | [p] => by rw [Lib.join_one]; unfold tot; simp
  | p :: q :: ps => by
    have ih := join_len c (q :: ps)
    rw [join_cons p (q :: ps) c (by simp), List.length_append, List.length_cons]
    unfold tot at ih ⊢
    rw [List.map_cons, List.sum_cons]
    omega
theorem split_l1 (c : UInt8) : ∀ (k : Nat) (l : List UInt8) (acc : List ByteArray), l.length + 2 ≤ k → l.length ≤ 1000000 → acc.length + l.length ≤ 2000000 → mountinfo_zzSplit.l1 k (toB l) (toB [c]) acc = some (acc ++ (splitL c l).map toB)
  | 0, l, _, hk, _, _ => by omega
  | k + 1, l, acc, hk, hl, ha => by
    have e1 : (toB [c]).size = 1 := toB_size _
    rw [mountinfo_zzSplit.l1]
    unfold mountinfo_zzIndex.f
    rcases parts c l with h | ⟨p, r, rfl, h⟩
    · have hi := idx_no l c h hl (l.length - 0) 0 k rfl (Nat.zero_le _) (by omega)
      rw [show ((0 : Nat) : Int) = 0 from rfl] at hi
      rw [hi, Option.bind_some, if_pos (by decide), if_pos (by omega), splitL_no c l h]
      rfl
    · have hlen : (p ++ c :: r).length = p.length + r.length + 1 := by rw [List.length_append, List.length_cons]; omega
      have hi := idx_at p r c h hl (p.length - 0) 0 k rfl (Nat.zero_le _) (by omega)
      rw [show ((0 : Nat) : Int) = 0 from rfl] at hi
      have e2 : wrap64 ((p.length : Int) + (((toB [c]).size : Nat) : Int)) = ((p.length + 1 : Nat) : Int) := by rw [e1]; rw [wr (by omega) (by omega)]; omega
      rw [hi, Option.bind_some, e2, if_neg (by omega), if_pos (by omega), if_pos (by rw [toB_size]; omega), if_pos (by omega), if_pos (by omega), if_pos (by rw [toB_size]; omega), Int.toNat_natCast, Int.toNat_natCast]
      have e3 : (toB (p ++ c :: r)).extract (p.length + 1) (toB (p ++ c :: r)).size = toB r := by
        rw [toB_ext, toB_size, List.drop_append, show p.length + 1 - p.length = 1 by omega, List.drop_eq_nil_of_le (Nat.le_succ _), List.nil_append, List.drop_succ_cons, List.drop_zero, List.take_of_length_le (by rw [hlen]; omega)]
      have e4 : (toB (p ++ c :: r)).extract 0 p.length = toB p := ext_app p (c :: r)
      rw [e3, e4, split_l1 c k r (acc ++ [toB p]) (by omega) (by omega) (by rw [List.length_append, List.length_singleton]; omega), splitL_at c r p h, List.map_cons, List.append_assoc]
      rfl
theorem split_is (c : UInt8) (l : List UInt8) (k : Nat) (hk : l.length + 2 ≤ k) (hl : l.length ≤ 1000000) : mountinfo_zzSplit.f k (toB l) (toB [c]) = some ((splitL c l).map toB) := by
  unfold mountinfo_zzSplit.f
  rw [if_neg (by rw [toB_size]; simp), split_l1 c k l [] hk hl (by simp; omega)]
  rfl
theorem cut_some (c : UInt8) (l p r : List UInt8) (k : Nat) (hk : l.length + 2 ≤ k) (hl : l.length ≤ 1000000) (h : cutL c l = some (p, r)) : mountinfo_zzCut.f k (toB l) (toB [c]) = some (toB p, toB r, true) := by
  have e1 : (toB [c]).size = 1 := toB_size _
  rcases parts c l with h1 | ⟨p2, r2, rfl, h1⟩
  · rw [cutL_no c l h1] at h; cases h
  · rw [cutL_at c r2 p2 h1] at h
    obtain ⟨rfl, rfl⟩ := Prod.mk.inj (Option.some.inj h)
    have hlen : (p2 ++ c :: r2).length = p2.length + r2.length + 1 := by rw [List.length_append, List.length_cons]; omega
    have hi := idx_at p2 r2 c h1 hl (p2.length - 0) 0 k rfl (Nat.zero_le _) (by omega)
    rw [show ((0 : Nat) : Int) = 0 from rfl] at hi
    have e2 : wrap64 ((p2.length : Int) + (((toB [c]).size : Nat) : Int)) = ((p2.length + 1 : Nat) : Int) := by rw [e1]; rw [wr (by omega) (by omega)]; omega
    have e3 : (toB (p2 ++ c :: r2)).extract (p2.length + 1) (toB (p2 ++ c :: r2)).size = toB r2 := by
      rw [toB_ext, toB_size, List.drop_append, show p2.length + 1 - p2.length = 1 by omega, List.drop_eq_nil_of_le (Nat.le_succ _), List.nil_append, List.drop_succ_cons, List.drop_zero, List.take_of_length_le (by rw [hlen]; omega)]
    have e4 : (toB (p2 ++ c :: r2)).extract 0 p2.length = toB p2 := ext_app p2 (c :: r2)
    unfold mountinfo_zzCut.f mountinfo_zzIndex.f
    rw [hi, Option.bind_some, e2, if_pos (by omega), if_pos (by omega), if_pos (by rw [toB_size]; omega), if_pos (by omega), if_pos (by rw [toB_size]; omega), Int.toNat_natCast, Int.toNat_natCast, e3, e4]
end Go.Proofs.YtokojamaigebaaaDoor.MtRow
