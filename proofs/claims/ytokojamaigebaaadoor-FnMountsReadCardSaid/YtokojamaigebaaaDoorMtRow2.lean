import Derived.Test.YtokojamaigebaaaDoorDoorMt
/- A line of mounts as a function of lists: the code's helpers (zzSplit, zzCut, unescape, Join, toInt) say the same. -/
set_option linter.unusedVariables false
set_option linter.unusedSimpArgs false
namespace Go.Proofs.YtokojamaigebaaaDoor.MtRow
open Go.RowKit Go.Proofs.YtokojamaigebaaaDoorW.PrintWords Go.Proofs.YtokojamaigebaaaDoorW.PrintLast Go.Proofs.YtokojamaigebaaaDoorW.PrintMore Go.Proofs.YtokojamaigebaaaDoor.Scan Go.Proofs.YtokojamaigebaaaDoor.ScanL Go.Proofs.YtokojamaigebaaaDoor.GivM Go.Proofs.YtokojamaigebaaaDoor.GivIdx Go.Proofs.YtokojamaigebaaaDoor.M Go.Proofs.YtokojamaigebaaaDoor.U Go.Proofs.YtokojamaigebaaaDoor.MtLoop Go.Proofs.YtokojamaigebaaaDoor.MtFilt Go.Proofs.YtokojamaigebaaaDoor.DoorMt Go.Proofs.YtokojamaigebaaaDoorPt
/-- The pieces of a text between a byte. -/
def splitL (c : UInt8) : List UInt8 → List (List UInt8)
  | [] => [[]]
  | x :: l => if x = c then [] :: splitL c l else match splitL c l with
    | [] => [[x]]
    | p :: ps => (x :: p) :: ps
/-- What stands ahead of a byte, and behind it. -/
def cutL (c : UInt8) : List UInt8 → Option (List UInt8 × List UInt8)
  | [] => none
  | x :: l => if x = c then some ([], l) else (cutL c l).map fun p => (x :: p.1, p.2)
def oct (b : UInt8) : Bool := decide (48 ≤ b.toNat) && decide (b.toNat ≤ 55)
/-- Is this a backslash and three octal digits, of which the first is 0 or 1? -/
def escB (a b c d : UInt8) : Bool := a == 92 && (b == 48 || b == 49) && oct c && oct d
def escV (b c d : UInt8) : UInt8 := UInt8.ofNat ((b.toNat - 48) * 64 + (c.toNat - 48) * 8 + (d.toNat - 48))
/-- What a text with octal escapes stands for (n: as many steps). -/
def unescN : Nat → List UInt8 → List UInt8
  | n + 1, a :: b :: c :: d :: l => if escB a b c d = true then escV b c d :: unescN n l else a :: unescN n (b :: c :: d :: l)
  | n + 1, a :: l => a :: unescN n l
  | _, _ => []
def unescL (l : List UInt8) : List UInt8 := unescN l.length l
/-- Where the dash stands, sought from the end: n is the place, five less. -/
def sepGo (ps : List (List UInt8)) : Nat → Option Nat
  | 0 => none
  | n + 1 => if ps.getD (n + 6) [] = [45] then some (n + 6) else sepGo ps n
/-- A line as a mount. -/
def rowL (l : List UInt8) : Option S23 :=
  if 10 ≤ (splitL 32 l).length ∧ l.length ≤ 900000 then (sepGo (splitL 32 l) ((splitL 32 l).length - 9)).bind fun a => (cutL 58 ((splitL 32 l).getD 2 [])).bind fun q =>
    some ⟨toIntV ((splitL 32 l).getD 0 []), toIntV ((splitL 32 l).getD 1 []), toIntV q.1, toIntV q.2, toB (unescL ((splitL 32 l).getD 3 [])), toB (unescL ((splitL 32 l).getD 4 [])), toB ((splitL 32 l).getD 5 []), toB (Lib.join (((splitL 32 l).take a).drop 6) [32]), toB (unescL ((splitL 32 l).getD (a + 1) [])), toB (unescL ((splitL 32 l).getD (a + 2) [])), toB ((splitL 32 l).getD (a + 3) [])⟩
  else none
/-! ### bytes -/
theorem toB_data (l : List UInt8) : (toB l).data.toList = l := rfl
theorem toB_size (l : List UInt8) : (toB l).size = l.length := by rw [Lib.size_eq, toB_data]
theorem toB_list (l : List UInt8) : (toB l).toList = l := by rw [Lib.toList_data, toB_data]
theorem toB_ext (l : List UInt8) (a b : Nat) : (toB l).extract a b = toB ((l.drop a).take (b - a)) := by
  have h := Lib.extract_data (toB l) a b
  rw [toB_data] at h
  apply ByteArray.ext
  apply Array.toList_inj.1
  rw [h]
  rfl
theorem wr {x : Int} (h1 : -9223372036854775808 ≤ x) (h2 : x ≤ 9223372036854775807) : wrap64 x = x := by rw [← i64_w, IntKind.wrap_i64]; omega
theorem bt_toB (l : List UInt8) (i : Nat) (h : i < l.length) : bt (toB l) (i : Int) = ((l[i]'h).toNat : Int) := by
  unfold bt
  rw [dif_pos (by rw [Int.toNat_natCast, toB_size]; exact h)]
  rfl
/-! ### zzIndex, zzSplit, zzCut -/
theorem idx_step (k : Nat) (l : List UInt8) (c : UInt8) (i : Nat) (hi : i < l.length) (hl : l.length ≤ 1000000) : mountinfo_zzIndex.l0 (k + 1) (toB l) (toB [c]) (i : Int) = if l[i]'hi = c then some (i : Int) else mountinfo_zzIndex.l0 k (toB l) (toB [c]) ((i + 1 : Nat) : Int) := by
  have e1 : (toB [c]).size = 1 := toB_size _
  have e2 : wrap64 ((i : Int) + (((toB [c]).size : Nat) : Int)) = ((i + 1 : Nat) : Int) := by rw [e1]; rw [wr (by omega) (by omega)]; omega
  have e3 : wrap64 ((i : Int) + 1) = ((i + 1 : Nat) : Int) := by rw [wr (by omega) (by omega)]; omega
  have e4 : ((toB l).extract ((i : Int)).toNat (((i + 1 : Nat) : Int)).toNat).toList = [l[i]'hi] := by
    rw [Int.toNat_natCast, Int.toNat_natCast, toB_ext, toB_list, show i + 1 - i = 1 by omega, List.drop_eq_getElem_cons hi]
    rfl
  rw [mountinfo_zzIndex.l0, e2, e3, if_pos (by rw [toB_size]; omega), if_pos (by omega), if_pos (by omega), e4, toB_list]
  by_cases h : l[i]'hi = c
  · rw [if_pos h, if_pos (by rw [h])]
  · rw [if_neg h, if_neg (by intro e; exact h (List.cons.inj e).1)]
theorem idx_end (k : Nat) (l : List UInt8) (c : UInt8) (hl : l.length ≤ 1000000) : mountinfo_zzIndex.l0 (k + 1) (toB l) (toB [c]) (l.length : Int) = some (-1) := by
  have e1 : (toB [c]).size = 1 := toB_size _
  have e2 : wrap64 ((l.length : Int) + (((toB [c]).size : Nat) : Int)) = ((l.length + 1 : Nat) : Int) := by rw [e1]; rw [wr (by omega) (by omega)]; omega
  rw [mountinfo_zzIndex.l0, e2, if_neg (by rw [toB_size]; omega)]
theorem idx_at (p r : List UInt8) (c : UInt8) (hp : ∀ b ∈ p, b ≠ c) (hl : (p ++ c :: r).length ≤ 1000000) : ∀ (n i k : Nat), n = p.length - i → i ≤ p.length → n + 1 ≤ k → mountinfo_zzIndex.l0 k (toB (p ++ c :: r)) (toB [c]) (i : Int) = some (p.length : Int)
  | n, i, 0, _, _, hk => by omega
  | n, i, k + 1, hn, hi, hk => by
    have hlt : i < (p ++ c :: r).length := by rw [List.length_append, List.length_cons]; omega
    rw [idx_step k _ c i hlt hl]
    by_cases h : i = p.length
    · subst h
      rw [if_pos (by rw [List.getElem_append_right (Nat.le_refl _)]; simp)]
    · have h2 : i < p.length := by omega
      rw [if_neg (by rw [List.getElem_append_left h2]; exact hp _ (List.getElem_mem h2))]
      exact idx_at p r c hp hl (p.length - (i + 1)) (i + 1) k rfl (by omega) (by omega)
theorem idx_no (p : List UInt8) (c : UInt8) (hp : ∀ b ∈ p, b ≠ c) (hl : p.length ≤ 1000000) : ∀ (n i k : Nat), n = p.length - i → i ≤ p.length → n + 1 ≤ k → mountinfo_zzIndex.l0 k (toB p) (toB [c]) (i : Int) = some (-1)
  | n, i, 0, _, _, hk => by omega
  | n, i, k + 1, hn, hi, hk => by
    by_cases h : i = p.length
    · subst h
      exact idx_end k p c hl
    · have h2 : i < p.length := by omega
      rw [idx_step k _ c i h2 hl, if_neg (hp _ (List.getElem_mem h2))]
      exact idx_no p c hp hl (p.length - (i + 1)) (i + 1) k rfl (by omega) (by omega)
/-- A text has no such byte, or is what stands ahead of the first, and behind it. -/
theorem parts (c : UInt8) : ∀ l : List UInt8, (∀ b ∈ l, b ≠ c) ∨ ∃ p r, l = p ++ c :: r ∧ ∀ b ∈ p, b ≠ c
  | [] => .inl (fun b h => by simp at h)
  | x :: l => by
    by_cases h : x = c
    · exact .inr ⟨[], l, by rw [h]; rfl, fun b h => by simp at h⟩
    · rcases parts c l with h2 | ⟨p, r, e, h2⟩
      · exact .inl (fun b hb => by rcases List.mem_cons.1 hb with rfl | hb; exact h; exact h2 b hb)
      · exact .inr ⟨x :: p, r, by rw [e]; rfl, fun b hb => by rcases List.mem_cons.1 hb with rfl | hb; exact h; exact h2 b hb⟩
theorem splitL_no (c : UInt8) : ∀ l : List UInt8, (∀ b ∈ l, b ≠ c) → splitL c l = [l]
  | [], _ => rfl
  | x :: l, h => by
    rw [splitL, if_neg (h x List.mem_cons_self), splitL_no c l (fun b hb => h b (List.mem_cons_of_mem _ hb))]
theorem splitL_at (c : UInt8) (r : List UInt8) : ∀ p : List UInt8, (∀ b ∈ p, b ≠ c) → splitL c (p ++ c :: r) = p :: splitL c r
  | [], _ => by rw [List.nil_append, splitL, if_pos rfl]
  | x :: p, h => by
    rw [List.cons_append, splitL, if_neg (h x List.mem_cons_self), splitL_at c r p (fun b hb => h b (List.mem_cons_of_mem _ hb))]
theorem cutL_no (c : UInt8) : ∀ l : List UInt8, (∀ b ∈ l, b ≠ c) → cutL c l = none
  | [], _ => rfl
  | x :: l, h => by
    rw [cutL, if_neg (h x List.mem_cons_self), cutL_no c l (fun b hb => h b (List.mem_cons_of_mem _ hb))]
    rfl
theorem cutL_at (c : UInt8) (r : List UInt8) : ∀ p : List UInt8, (∀ b ∈ p, b ≠ c) → cutL c (p ++ c :: r) = some (p, r)
  | [], _ => by rw [List.nil_append, cutL, if_pos rfl]
  | x :: p, h => by
    rw [List.cons_append, cutL, if_neg (h x List.mem_cons_self), cutL_at c r p (fun b hb => h b (List.mem_cons_of_mem _ hb))]
    rfl
theorem splitL_len (c : UInt8) : ∀ l : List UInt8, 1 ≤ (splitL c l).length ∧ (splitL c l).length ≤ l.length + 1
  | [] => ⟨Nat.le_refl _, Nat.le_refl _⟩
  | x :: l => by
    have ih := splitL_len c l
    rw [splitL]
    split
    · simp only [List.length_cons]; omega
    · cases h : splitL c l with
      | nil => rw [h] at ih; simp at ih
      | cons p ps => rw [h] at ih; simp only [List.length_cons] at ih ⊢; omega
/-- The pieces' lengths, and one more for each. -/
def tot (ps : List (List UInt8)) : Nat := (ps.map fun p => p.length + 1).sum
theorem splitL_tot (c : UInt8) : ∀ l : List UInt8, tot (splitL c l) = l.length + 1
  | [] => rfl
  | x :: l => by
    have ih := splitL_tot c l
    rw [splitL]
    split
    · unfold tot at ih ⊢; rw [List.map_cons, List.sum_cons, ih]; simp; omega
    · cases h : splitL c l with
      | nil => have := (splitL_len c l).1; rw [h] at this; simp at this
      | cons p ps => rw [h] at ih; unfold tot at ih ⊢; rw [List.map_cons, List.sum_cons] at ih ⊢; simp only [List.length_cons] at ih ⊢; omega
theorem tot_mem {p : List UInt8} : ∀ {ps : List (List UInt8)}, p ∈ ps → p.length + 1 ≤ tot ps
  | q :: ps, h => by
    unfold tot
    rw [List.map_cons, List.sum_cons]
    rcases List.mem_cons.1 h with rfl | h
    · omega
    · have := tot_mem h; unfold tot at this; omega
theorem tot_drop : ∀ (n : Nat) (ps : List (List UInt8)), tot (ps.drop n) ≤ tot ps
  | 0, ps => Nat.le_refl _
  | n + 1, [] => Nat.le_refl _
  | n + 1, p :: ps => by rw [List.drop_succ_cons]; refine Nat.le_trans (tot_drop n ps) ?_; unfold tot; rw [List.map_cons, List.sum_cons]; omega
theorem tot_take : ∀ (n : Nat) (ps : List (List UInt8)), tot (ps.take n) ≤ tot ps
  | 0, ps => by rw [List.take_zero]; exact Nat.zero_le _
  | n + 1, [] => Nat.le_refl _
  | n + 1, p :: ps => by rw [List.take_succ_cons]; have := tot_take n ps; unfold tot at this ⊢; rw [List.map_cons, List.map_cons, List.sum_cons, List.sum_cons]; omega
theorem join_cons (p : List UInt8) (ps : List (List UInt8)) (c : UInt8) (h : ps ≠ []) : Lib.join (p :: ps) [c] = p ++ c :: Lib.join ps [c] := by
  cases ps with
  | nil => exact absurd rfl h
  | cons q ps => simp [Lib.join, List.intercalate]
theorem join_len (c : UInt8) : ∀ ps : List (List UInt8), (Lib.join ps [c]).length ≤ tot ps
  | [] => Nat.zero_le _
  | [p] => by rw [Lib.join_one]; unfold tot; simp
  | p :: q :: ps => by
    have ih := join_len c (q :: ps)
    rw [join_cons p (q :: ps) c (by simp), List.length_append, List.length_cons]
    unfold tot at ih ⊢
    rw [List.map_cons, List.sum_cons]
    omega
theorem split_l1 (c : UInt8) : ∀ (k : Nat) (l : List UInt8) (acc : List ByteArray), l.length + 2 ≤ k → l.length ≤ 1000000 → acc.length + l.length ≤ 2000000 → mountinfo_zzSplit.l1 k (toB l) (toB [c]) acc = some (acc ++ (splitL c l).map toB)
  | 0, l, _, hk, _, _ => by omega
  | k + 1, l, acc, hk, hl, ha => by
    have e1 : (toB [c]).size = 1 := toB_size _
    rw [mountinfo_zzSplit.l1]
    unfold mountinfo_zzIndex.f
    rcases parts c l with h | ⟨p, r, rfl, h⟩
    · have hi := idx_no l c h hl (l.length - 0) 0 k rfl (Nat.zero_le _) (by omega)
      rw [show ((0 : Nat) : Int) = 0 from rfl] at hi
      rw [hi, Option.bind_some, if_pos (by decide), if_pos (by omega), splitL_no c l h]
      rfl
    · have hlen : (p ++ c :: r).length = p.length + r.length + 1 := by rw [List.length_append, List.length_cons]; omega
      have hi := idx_at p r c h hl (p.length - 0) 0 k rfl (Nat.zero_le _) (by omega)
      rw [show ((0 : Nat) : Int) = 0 from rfl] at hi
      have e2 : wrap64 ((p.length : Int) + (((toB [c]).size : Nat) : Int)) = ((p.length + 1 : Nat) : Int) := by rw [e1]; rw [wr (by omega) (by omega)]; omega
      rw [hi, Option.bind_some, e2, if_neg (by omega), if_pos (by omega), if_pos (by rw [toB_size]; omega), if_pos (by omega), if_pos (by omega), if_pos (by rw [toB_size]; omega), Int.toNat_natCast, Int.toNat_natCast]
      have e3 : (toB (p ++ c :: r)).extract (p.length + 1) (toB (p ++ c :: r)).size = toB r := by
        rw [toB_ext, toB_size, List.drop_append, show p.length + 1 - p.length = 1 by omega, List.drop_eq_nil_of_le (Nat.le_succ _), List.nil_append, List.drop_succ_cons, List.drop_zero, List.take_of_length_le (by rw [hlen]; omega)]
      have e4 : (toB (p ++ c :: r)).extract 0 p.length = toB p := ext_app p (c :: r)
      rw [e3, e4, split_l1 c k r (acc ++ [toB p]) (by omega) (by omega) (by rw [List.length_append, List.length_singleton]; omega), splitL_at c r p h, List.map_cons, List.append_assoc]
      rfl
theorem split_is (c : UInt8) (l : List UInt8) (k : Nat) (hk : l.length + 2 ≤ k) (hl : l.length ≤ 1000000) : mountinfo_zzSplit.f k (toB l) (toB [c]) = some ((splitL c l).map toB) := by
  unfold mountinfo_zzSplit.f
  rw [if_neg (by rw [toB_size]; simp), split_l1 c k l [] hk hl (by simp; omega)]
  rfl
theorem cut_some (c : UInt8) (l p r : List UInt8) (k : Nat) (hk : l.length + 2 ≤ k) (hl : l.length ≤ 1000000) (h : cutL c l = some (p, r)) : mountinfo_zzCut.f k (toB l) (toB [c]) = some (toB p, toB r, true) := by
  have e1 : (toB [c]).size = 1 := toB_size _
  rcases parts c l with h1 | ⟨p2, r2, rfl, h1⟩
  · rw [cutL_no c l h1] at h; cases h
  · rw [cutL_at c r2 p2 h1] at h
    obtain ⟨rfl, rfl⟩ := Prod.mk.inj (Option.some.inj h)
    have hlen : (p2 ++ c :: r2).length = p2.length + r2.length + 1 := by rw [List.length_append, List.length_cons]; omega
    have hi := idx_at p2 r2 c h1 hl (p2.length - 0) 0 k rfl (Nat.zero_le _) (by omega)
    rw [show ((0 : Nat) : Int) = 0 from rfl] at hi
    have e2 : wrap64 ((p2.length : Int) + (((toB [c]).size : Nat) : Int)) = ((p2.length + 1 : Nat) : Int) := by rw [e1]; rw [wr (by omega) (by omega)]; omega
    have e3 : (toB (p2 ++ c :: r2)).extract (p2.length + 1) (toB (p2 ++ c :: r2)).size = toB r2 := by
      rw [toB_ext, toB_size, List.drop_append, show p2.length + 1 - p2.length = 1 by omega, List.drop_eq_nil_of_le (Nat.le_succ _), List.nil_append, List.drop_succ_cons, List.drop_zero, List.take_of_length_le (by rw [hlen]; omega)]
    have e4 : (toB (p2 ++ c :: r2)).extract 0 p2.length = toB p2 := ext_app p2 (c :: r2)
    unfold mountinfo_zzCut.f mountinfo_zzIndex.f
    rw [hi, Option.bind_some, e2, if_pos (by omega), if_pos (by omega), if_pos (by rw [toB_size]; omega), if_pos (by omega), if_pos (by rw [toB_size]; omega), Int.toNat_natCast, Int.toNat_natCast, e3, e4]
end Go.Proofs.YtokojamaigebaaaDoor.MtRow

/- A line of mounts as a function of lists: unescape; what rowL says is what the code's helpers say (MtL). -/
set_option linter.unusedVariables false
set_option linter.unusedSimpArgs false
namespace Go.Proofs.YtokojamaigebaaaDoor.MtRow
open Go.RowKit Go.Proofs.YtokojamaigebaaaDoorW.PrintWords Go.Proofs.YtokojamaigebaaaDoorW.PrintLast Go.Proofs.YtokojamaigebaaaDoorW.PrintMore Go.Proofs.YtokojamaigebaaaDoor.Scan Go.Proofs.YtokojamaigebaaaDoor.ScanL Go.Proofs.YtokojamaigebaaaDoor.GivM Go.Proofs.YtokojamaigebaaaDoor.GivIdx Go.Proofs.YtokojamaigebaaaDoor.M Go.Proofs.YtokojamaigebaaaDoor.U Go.Proofs.YtokojamaigebaaaDoor.MtLoop Go.Proofs.YtokojamaigebaaaDoor.MtFilt Go.Proofs.YtokojamaigebaaaDoor.DoorMt Go.Proofs.YtokojamaigebaaaDoorPt
theorem un_end (k : Nat) (x : ByteArray) (b : List Int) (j i : Int) (h : ¬ i < (x.size : Int)) (h0 : 0 ≤ j) (h1 : j ≤ (b.length : Int)) : mountinfo_unescape.l0 (k + 1) x b j i = some (strOfNums (b.take j.toNat)) := by
  rw [mountinfo_unescape.l0, if_neg h, if_pos h0, if_pos h1]
set_option maxHeartbeats 2000000 in
theorem un_plain (k : Nat) (x : ByteArray) (b : List Int) (j i : Int) (h : i < (x.size : Int)) (hi : 0 ≤ i) (hb : i ≤ 2000000) (hx : (x.size : Int) ≤ 2000000) (h0 : 0 ≤ j) (h1 : j < (b.length : Int)) (hj : j ≤ 2000000)
    (hno : ¬ (bt x i = 92 ∧ i + 3 < (x.size : Int) ∧ (bt x (i + 1) = 48 ∨ bt x (i + 1) = 49) ∧ 48 ≤ bt x (i + 2) ∧ bt x (i + 2) ≤ 55 ∧ 48 ≤ bt x (i + 3) ∧ bt x (i + 3) ≤ 55)) :
    mountinfo_unescape.l0 (k + 1) x b j i = mountinfo_unescape.l0 k x (b.set j.toNat (bt x i)) (j + 1) (i + 1) := by
  have e1 : wrap64 (i + 1) = i + 1 := wr (by omega) (by omega)
  have e2 : wrap64 (i + 2) = i + 2 := wr (by omega) (by omega)
  have e3 : wrap64 (i + 3) = i + 3 := wr (by omega) (by omega)
  have e4 : wrap64 (j + 1) = j + 1 := wr (by omega) (by omega)
  rw [mountinfo_unescape.l0, if_pos h, if_pos hi]
  simp only [e1, e2, e3, e4]
  generalize bt x (i + 1) = B at hno ⊢
  generalize bt x (i + 2) = C at hno ⊢
  generalize bt x (i + 3) = D at hno ⊢
  generalize bt x i = A at hno ⊢
  generalize mountinfo_unescape.l0 k x (b.set j.toNat A) (j + 1) (i + 1) = R
  by_cases hA : A = 92
  · rw [if_pos hA]
    by_cases h3 : i + 3 < (x.size : Int)
    · rw [if_pos h3, if_pos (show 0 ≤ i + 1 by omega), if_pos (show i + 1 < (x.size : Int) by omega)]
      by_cases b1 : B = 48
      · rw [if_pos b1]
        rw [if_pos (show 0 ≤ i + 2 by omega), if_pos (show i + 2 < (x.size : Int) by omega)]
        by_cases c1 : C ≥ 48
        · rw [if_pos c1]
          by_cases c2 : C ≤ 55
          · rw [if_pos c2, if_pos (show 0 ≤ i + 3 by omega)]
            by_cases d1 : D ≥ 48
            · rw [if_pos d1]
              by_cases d2 : D ≤ 55
              · exact absurd ⟨hA, h3, by omega, c1, c2, d1, d2⟩ hno
              · rw [if_neg d2, if_pos h0, if_pos h1]
            · rw [if_neg d1, if_pos h0, if_pos h1]
          · rw [if_neg c2, if_pos h0, if_pos h1]
        · rw [if_neg c1, if_pos h0, if_pos h1]
      · rw [if_neg b1]
        by_cases b2 : B = 49
        · rw [if_pos b2]
          rw [if_pos (show 0 ≤ i + 2 by omega), if_pos (show i + 2 < (x.size : Int) by omega)]
          by_cases c1 : C ≥ 48
          · rw [if_pos c1]
            by_cases c2 : C ≤ 55
            · rw [if_pos c2, if_pos (show 0 ≤ i + 3 by omega)]
              by_cases d1 : D ≥ 48
              · rw [if_pos d1]
                by_cases d2 : D ≤ 55
                · exact absurd ⟨hA, h3, by omega, c1, c2, d1, d2⟩ hno
                · rw [if_neg d2, if_pos h0, if_pos h1]
              · rw [if_neg d1, if_pos h0, if_pos h1]
            · rw [if_neg c2, if_pos h0, if_pos h1]
          · rw [if_neg c1, if_pos h0, if_pos h1]
        · rw [if_neg b2, if_pos h0, if_pos h1]
    · rw [if_neg h3, if_pos h0, if_pos h1]
  · rw [if_neg hA, if_pos h0, if_pos h1]
set_option maxHeartbeats 2000000 in
theorem un_esc (k : Nat) (x : ByteArray) (b : List Int) (j i : Int) (hi : 0 ≤ i) (hb : i ≤ 2000000) (hx : (x.size : Int) ≤ 2000000) (h0 : 0 ≤ j) (h1 : j < (b.length : Int)) (hj : j ≤ 2000000)
    (g0 : bt x i = 92) (g1 : i + 3 < (x.size : Int)) (g2 : bt x (i + 1) = 48 ∨ bt x (i + 1) = 49) (g3 : 48 ≤ bt x (i + 2)) (g4 : bt x (i + 2) ≤ 55) (g5 : 48 ≤ bt x (i + 3)) (g6 : bt x (i + 3) ≤ 55) :
    mountinfo_unescape.l0 (k + 1) x b j i = mountinfo_unescape.l0 k x (b.set j.toNat (Go.bits .or .u8 (Go.bits .or .u8 (((((bt x (i + 1)) - 48) % 256) * 64) % 256) (((((bt x (i + 2)) - 48) % 256) * 8) % 256)) (((bt x (i + 3)) - 48) % 256))) (j + 1) (i + 4) := by
  have e1 : wrap64 (i + 1) = i + 1 := wr (by omega) (by omega)
  have e2 : wrap64 (i + 2) = i + 2 := wr (by omega) (by omega)
  have e3 : wrap64 (i + 3) = i + 3 := wr (by omega) (by omega)
  have e4 : wrap64 (j + 1) = j + 1 := wr (by omega) (by omega)
  have e5 : wrap64 (i + 3 + 1) = i + 4 := by rw [wr (by omega) (by omega)]; omega
  have h : i < (x.size : Int) := by omega
  rw [mountinfo_unescape.l0, if_pos h, if_pos hi]
  simp only [e1, e2, e3, e4, e5]
  generalize bt x (i + 1) = B at g2 ⊢
  generalize bt x (i + 2) = C at g3 g4 ⊢
  generalize bt x (i + 3) = D at g5 g6 ⊢
  rw [if_pos g0, if_pos g1, if_pos (show 0 ≤ i + 1 by omega), if_pos (show i + 1 < (x.size : Int) by omega)]
  rcases g2 with g2 | g2
  · rw [if_pos g2]
    rw [if_pos (show 0 ≤ i + 2 by omega), if_pos (show i + 2 < (x.size : Int) by omega), if_pos (show C ≥ 48 from g3), if_pos g4, if_pos (show 0 ≤ i + 3 by omega), if_pos (show D ≥ 48 from g5), if_pos g6, if_pos h0, if_pos h1]
  · rw [if_neg (show ¬ B = 48 by omega), if_pos g2]
    rw [if_pos (show 0 ≤ i + 2 by omega), if_pos (show i + 2 < (x.size : Int) by omega), if_pos (show C ≥ 48 from g3), if_pos g4, if_pos (show 0 ≤ i + 3 by omega), if_pos (show D ≥ 48 from g5), if_pos g6, if_pos h0, if_pos h1]
theorem esc_val : ∀ (b : Fin 2) (c d : Fin 8), Go.bits .or .u8 (Go.bits .or .u8 (((((b.val + 48 : Nat) : Int) - 48) % 256 * 64) % 256) (((((c.val + 48 : Nat) : Int) - 48) % 256 * 8) % 256)) ((((d.val + 48 : Nat) : Int) - 48) % 256) = ((UInt8.ofNat ((b.val + 48 - 48) * 64 + (c.val + 48 - 48) * 8 + (d.val + 48 - 48))).toNat : Int) := by decide +kernel
theorem esc_val' (b c d : UInt8) (hb : b = 48 ∨ b = 49) (hc : oct c = true) (hd : oct d = true) : Go.bits .or .u8 (Go.bits .or .u8 ((((b.toNat : Int) - 48) % 256 * 64) % 256) ((((c.toNat : Int) - 48) % 256 * 8) % 256)) (((d.toNat : Int) - 48) % 256) = ((escV b c d).toNat : Int) := by
  unfold oct at hc hd
  simp only [Bool.and_eq_true, decide_eq_true_eq] at hc hd
  have hb2 : b.toNat = 48 ∨ b.toNat = 49 := by rcases hb with rfl | rfl; exact .inl rfl; exact .inr rfl
  obtain ⟨b', hb'⟩ : ∃ b' : Fin 2, b.toNat = b'.val + 48 := ⟨⟨b.toNat - 48, by omega⟩, by simp only; omega⟩
  obtain ⟨c', hc'⟩ : ∃ c' : Fin 8, c.toNat = c'.val + 48 := ⟨⟨c.toNat - 48, by omega⟩, by simp only; omega⟩
  obtain ⟨d', hd'⟩ : ∃ d' : Fin 8, d.toNat = d'.val + 48 := ⟨⟨d.toNat - 48, by omega⟩, by simp only; omega⟩
  unfold escV
  rw [hb', hc', hd']
  exact esc_val b' c' d'
theorem set_take {α : Type} (l : List α) (j : Nat) (v : α) (h : j < l.length) : (l.set j v).take (j + 1) = l.take j ++ [v] := by
  rw [List.take_add_one, List.take_set_of_le (Nat.le_refl _), List.getElem?_set_self h]
  rfl
theorem bt_app (p l : List UInt8) (i : Nat) (h : i < l.length) : bt (toB (p ++ l)) ((p.length : Int) + (i : Int)) = ((l[i]'h).toNat : Int) := by
  have e : ((p.length : Int) + (i : Int)) = ((p.length + i : Nat) : Int) := by omega
  rw [e, bt_toB _ _ (by rw [List.length_append]; omega)]
  congr 2
  rw [List.getElem_append_right (by omega)]
  congr 1
  omega
theorem tn {a : UInt8} {n : Nat} (h : n < 256) : ((a.toNat : Int) = (n : Int)) ↔ a = UInt8.ofNat n := by
  constructor
  · intro e
    apply UInt8.toNat_inj.1
    rw [UInt8.toNat_ofNat_of_lt' h]
    exact Int.ofNat.inj e
  · rintro rfl
    rw [UInt8.toNat_ofNat_of_lt' h]
abbrev nums (l : List UInt8) : List Int := l.map fun b => (b.toNat : Int)
theorem un_all : ∀ (n k : Nat) (p l : List UInt8) (b : List Int) (j : Nat), l.length ≤ n → l.length + 1 ≤ k → (p ++ l).length ≤ 1000000 → b.length = (p ++ l).length → j ≤ p.length →
    mountinfo_unescape.l0 k (toB (p ++ l)) b (j : Int) (p.length : Int) = some (strOfNums (b.take j ++ nums (unescN n l)))
  | n, 0, p, l, b, j, hn, hk, hs, hb, hj => by omega
  | n, k + 1, p, [], b, j, hn, hk, hs, hb, hj => by
    rw [un_end k _ _ _ _ (by rw [toB_size, List.append_nil]; omega) (by omega) (by rw [hb, List.append_nil]; omega), Int.toNat_natCast]
    have e : unescN n [] = [] := by cases n <;> rfl
    rw [e]
    simp
  | 0, k + 1, p, a :: l, b, j, hn, hk, hs, hb, hj => by simp at hn
  | n + 1, k + 1, p, a :: l, b, j, hn, hk, hs, hb, hj => by
    have hlen : (p ++ a :: l).length = p.length + l.length + 1 := by rw [List.length_append, List.length_cons]; omega
    rw [List.length_cons] at hn hk
    have ea : bt (toB (p ++ a :: l)) (p.length : Int) = (a.toNat : Int) := by
      have := bt_app p (a :: l) 0 (by simp)
      rw [show ((p.length : Int) + ((0 : Nat) : Int)) = (p.length : Int) by omega] at this
      exact this
    have plain : ¬ (bt (toB (p ++ a :: l)) (p.length : Int) = 92 ∧ (p.length : Int) + 3 < ((toB (p ++ a :: l)).size : Int) ∧ (bt (toB (p ++ a :: l)) ((p.length : Int) + 1) = 48 ∨ bt (toB (p ++ a :: l)) ((p.length : Int) + 1) = 49) ∧ 48 ≤ bt (toB (p ++ a :: l)) ((p.length : Int) + 2) ∧ bt (toB (p ++ a :: l)) ((p.length : Int) + 2) ≤ 55 ∧ 48 ≤ bt (toB (p ++ a :: l)) ((p.length : Int) + 3) ∧ bt (toB (p ++ a :: l)) ((p.length : Int) + 3) ≤ 55) →
        mountinfo_unescape.l0 (k + 1) (toB (p ++ a :: l)) b (j : Int) (p.length : Int) = some (strOfNums (b.take j ++ nums (a :: unescN n l))) := by
      intro hno
      rw [un_plain k _ b j _ (by rw [toB_size, hlen]; omega) (by omega) (by omega) (by rw [toB_size]; omega) (by omega) (by rw [hb]; omega) (by omega) hno, ea, Int.toNat_natCast]
      have ih := un_all n k (p ++ [a]) l (b.set j (a.toNat : Int)) (j + 1) (by omega) (by omega) (by rw [List.append_assoc]; exact hs) (by rw [List.length_set, List.append_assoc]; exact hb) (by rw [List.length_append, List.length_singleton]; omega)
      rw [List.append_assoc, List.singleton_append, List.length_append, List.length_singleton, set_take b j _ (by rw [hb]; omega)] at ih
      rw [show ((j : Int) + 1) = ((j + 1 : Nat) : Int) by omega, show ((p.length : Int) + 1) = ((p.length + 1 : Nat) : Int) by omega, ih, List.append_assoc]
      rfl
    match l, hn, hk, hlen, ea, plain, hs, hb with
    | [], hn, hk, hlen, ea, plain, hs, hb =>
      rw [plain (by rw [toB_size, hlen]; intro h; have := h.2.1; simp only [List.length_cons, List.length_nil] at this; omega)]
      rfl
    | [x], hn, hk, hlen, ea, plain, hs, hb =>
      rw [plain (by rw [toB_size, hlen]; intro h; have := h.2.1; simp only [List.length_cons, List.length_nil] at this; omega)]
      rfl
    | [x, y], hn, hk, hlen, ea, plain, hs, hb =>
      rw [plain (by rw [toB_size, hlen]; intro h; have := h.2.1; simp only [List.length_cons, List.length_nil] at this; omega)]
      rfl
    | x :: y :: z :: l, hn, hk, hlen, ea, plain, hs, hb =>
      have ex : bt (toB (p ++ a :: x :: y :: z :: l)) ((p.length : Int) + 1) = (x.toNat : Int) := bt_app p (a :: x :: y :: z :: l) 1 (by simp)
      have ey : bt (toB (p ++ a :: x :: y :: z :: l)) ((p.length : Int) + 2) = (y.toNat : Int) := bt_app p (a :: x :: y :: z :: l) 2 (by simp)
      have ez : bt (toB (p ++ a :: x :: y :: z :: l)) ((p.length : Int) + 3) = (z.toNat : Int) := bt_app p (a :: x :: y :: z :: l) 3 (by simp)
      rw [unescN]
      by_cases c : escB a x y z = true
      · rw [if_pos c]
        unfold escB at c
        simp only [Bool.and_eq_true, Bool.or_eq_true, beq_iff_eq] at c
        obtain ⟨⟨⟨ca, cx⟩, cy⟩, cz⟩ := c
        have cy2 := cy
        have cz2 := cz
        unfold oct at cy2 cz2
        simp only [Bool.and_eq_true, decide_eq_true_eq] at cy2 cz2
        simp only [List.length_cons] at hn hk hlen
        rw [un_esc k _ b j _ (by omega) (by omega) (by rw [toB_size]; omega) (by omega) (by rw [hb]; omega) (by omega) (by rw [ea, ca]; rfl) (by rw [toB_size, hlen]; omega) (by rw [ex]; rcases cx with rfl | rfl; exact .inl rfl; exact .inr rfl) (by rw [ey]; omega) (by rw [ey]; omega) (by rw [ez]; omega) (by rw [ez]; omega), ex, ey, ez, esc_val' x y z cx cy cz, Int.toNat_natCast]
        have ih := un_all n k (p ++ [a, x, y, z]) l (b.set j ((escV x y z).toNat : Int)) (j + 1) (by omega) (by omega) (by rw [List.append_assoc]; exact hs) (by rw [List.length_set, List.append_assoc]; exact hb) (by rw [List.length_append]; simp; omega)
        rw [List.append_assoc, List.length_append, set_take b j _ (by rw [hb]; omega)] at ih
        rw [show ((j : Int) + 1) = ((j + 1 : Nat) : Int) by omega, show ((p.length : Int) + 4) = ((p.length + [a, x, y, z].length : Nat) : Int) by simp]
        refine Eq.trans ih ?_
        rw [List.append_assoc]
        rfl
      · rw [if_neg c]
        refine plain ?_
        rintro ⟨h1, h2, h3, h4, h5, h6, h7⟩
        apply c
        rw [ea] at h1
        rw [ex] at h3
        rw [ey] at h4 h5
        rw [ez] at h6 h7
        unfold escB oct
        simp only [Bool.and_eq_true, Bool.or_eq_true, beq_iff_eq, decide_eq_true_eq]
        exact ⟨⟨⟨(tn (n := 92) (by decide)).1 h1, h3.imp (tn (n := 48) (by decide)).1 (tn (n := 49) (by decide)).1⟩, by omega, by omega⟩, by omega, by omega⟩
theorem indexB_no : ∀ (l : List UInt8) (c : UInt8), Lib.indexByte l c = -1 → ∀ b ∈ l, b ≠ c
  | [], c, h, b, hb => by simp at hb
  | a :: l, c, h, b, hb => by
    rw [Lib.indexByte] at h
    by_cases h1 : (a == c) = true
    · rw [if_pos h1] at h; cases h
    · rw [if_neg h1] at h
      by_cases h2 : (Lib.indexByte l c == -1) = true
      · rcases List.mem_cons.1 hb with rfl | hb
        · simpa using h1
        · exact indexB_no l c (by simpa using h2) b hb
      · rw [if_neg h2] at h
        have := Lib.indexByte_ge l c
        omega
theorem unesc_plain : ∀ (n : Nat) (l : List UInt8), l.length ≤ n → (∀ b ∈ l, b ≠ 92) → unescN n l = l
  | 0, [], _, _ => rfl
  | 0, a :: l, h, _ => by simp at h
  | n + 1, [], _, _ => rfl
  | n + 1, [a], _, _ => by rw [unescN, unesc_plain n [] (Nat.zero_le _) (fun b hb => by simp at hb)]; intro _ _ _ _ h; cases h
  | n + 1, [a, b], h, h2 => by rw [unescN, unesc_plain n [b] (by simp only [List.length_cons, List.length_nil] at h ⊢; omega) (fun x hx => h2 x (List.mem_cons_of_mem _ hx))]; intro _ _ _ _ h; cases h
  | n + 1, [a, b, c], h, h2 => by rw [unescN, unesc_plain n [b, c] (by simp only [List.length_cons, List.length_nil] at h ⊢; omega) (fun x hx => h2 x (List.mem_cons_of_mem _ hx))]; intro _ _ _ _ h; cases h
  | n + 1, a :: b :: c :: d :: l, h, h2 => by
    have ha := h2 a List.mem_cons_self
    rw [unescN, if_neg (by unfold escB; simp [ha]), unesc_plain n (b :: c :: d :: l) (by simp at h ⊢; omega) (fun x hx => h2 x (List.mem_cons_of_mem _ hx))]
theorem unesc_len : ∀ (n : Nat) (l : List UInt8), (unescN n l).length ≤ l.length
  | 0, l => by simp [unescN]
  | n + 1, [] => by simp [unescN]
  | n + 1, [a] => by rw [unescN]; have := unesc_len n []; simp at this ⊢; omega; intro _ _ _ _ h; cases h
  | n + 1, [a, b] => by rw [unescN]; have := unesc_len n [b]; simp at this ⊢; omega; intro _ _ _ _ h; cases h
  | n + 1, [a, b, c] => by rw [unescN]; have := unesc_len n [b, c]; simp at this ⊢; omega; intro _ _ _ _ h; cases h
  | n + 1, a :: b :: c :: d :: l => by
    rw [unescN]
    split
    · have := unesc_len n l; simp only [List.length_cons]; omega
    · have := unesc_len n (b :: c :: d :: l); simp only [List.length_cons] at this ⊢; omega
theorem unesc_is (l : List UInt8) (k : Nat) (hk : l.length + 1 ≤ k) (hl : l.length ≤ 1000000) : mountinfo_unescape.f k (toB l) = some (toB (unescL l)) := by
  unfold mountinfo_unescape.f strings_IndexByte.f
  rw [Option.bind_some, toB_data, toB_size]
  by_cases h : Lib.indexByte l ((92 : Int).toNat.toUInt8) = -1
  · rw [if_pos h]
    unfold unescL
    rw [unesc_plain l.length l (Nat.le_refl _) (indexB_no l _ h)]
  · rw [if_neg h, if_pos (by omega), Int.toNat_natCast, if_pos (by omega)]
    have := un_all l.length k [] l (List.replicate l.length 0) 0 (Nat.le_refl _) hk hl (by simp) (Nat.le_refl _)
    rw [List.nil_append] at this
    refine Eq.trans this ?_
    rw [List.take_zero, List.nil_append]
    unfold unescL
    congr 1
    apply ByteArray.ext
    apply Array.toList_inj.1
    rw [strOfNums_data, List.map_map]
    have e : ((fun n : Int => UInt8.ofNat n.toNat) ∘ fun b : UInt8 => (b.toNat : Int)) = id := by
      funext b
      simp
    rw [e, List.map_id]
    rfl
end Go.Proofs.YtokojamaigebaaaDoor.MtRow
