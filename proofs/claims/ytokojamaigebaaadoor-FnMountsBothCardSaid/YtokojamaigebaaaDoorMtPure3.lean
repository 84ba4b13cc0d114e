/- The reference's print of mounts, read back. -/
import Derived.Test.YtokojamaigebaaaDoorMtPure2
set_option linter.unusedVariables false
set_option linter.unusedSimpArgs false
namespace Go.Proofs.YtokojamaigebaaaDoor.MtPure
open Go.RowKit Go.Proofs.YtokojamaigebaaaDoorW.PrintWords Go.Proofs.YtokojamaigebaaaDoorW.PrintLast Go.Proofs.YtokojamaigebaaaDoorW.PrintMore Go.Proofs.YtokojamaigebaaaDoor.Scan Go.Proofs.YtokojamaigebaaaDoor.ScanL Go.Proofs.YtokojamaigebaaaDoor.GivM Go.Proofs.YtokojamaigebaaaDoor.M Go.Proofs.YtokojamaigebaaaDoor.L Go.Proofs.YtokojamaigebaaaDoor.MtDoor Go.Proofs.YtokojamaigebaaaDoor.MtRow Go.Proofs.YtokojamaigebaaaDoor.MtLoop Go.Proofs.YtokojamaigebaaaDoor.DoorMt
open Go.Proofs.YtokojamaigebaaaDoorPt hiding toB_size toB_data
/-! ### join and split -/
theorem split_join (c : UInt8) : ∀ ps : List (List UInt8), ps ≠ [] → (∀ p ∈ ps, ∀ b ∈ p, b ≠ c) → splitL c (Lib.join ps [c]) = ps
  | [], h, _ => absurd rfl h
  | [p], _, h => by rw [Lib.join_one]; exact splitL_no c p (h p List.mem_cons_self)
  | p :: q :: ps, _, h => by
    rw [join_cons p (q :: ps) c (by simp), splitL_at c _ p (h p List.mem_cons_self), split_join c (q :: ps) (by simp) (fun x hx => h x (List.mem_cons_of_mem _ hx))]
theorem join_split (c : UInt8) : ∀ l : List UInt8, Lib.join (splitL c l) [c] = l
  | [] => by rw [splitL, Lib.join_one]
  | x :: l => by
    have ih := join_split c l
    have hne : splitL c l ≠ [] := by intro h; have := (splitL_len c l).1; rw [h] at this; simp at this
    rw [splitL]
    by_cases h : x = c
    · rw [if_pos h, join_cons [] _ c hne, ih, h]; rfl
    · rw [if_neg h]
      cases hs : splitL c l with
      | nil => exact absurd hs hne
      | cons p ps =>
        rw [hs] at ih
        simp only []
        cases ps with
        | nil => rw [Lib.join_one] at ih ⊢; rw [ih]
        | cons q ps => rw [join_cons _ _ c (by simp)] at ih ⊢; rw [← ih]; rfl
theorem join_app (c : UInt8) : ∀ (a b : List (List UInt8)), a ≠ [] → b ≠ [] → Lib.join (a ++ b) [c] = Lib.join a [c] ++ ([c] ++ Lib.join b [c])
  | [], b, h, _ => absurd rfl h
  | [p], b, _, hb => by rw [Lib.join_one, List.singleton_append, join_cons p b c hb]; rfl
  | p :: q :: a, b, _, hb => by
    rw [List.cons_append, join_cons p ((q :: a) ++ b) c (by simp), join_app c (q :: a) b (by simp) hb, join_cons p (q :: a) c (by simp), List.append_assoc]
    rfl
/-! ### octal, back -/
theorem oct_no : ∀ (l : List UInt8), ∀ b ∈ octL l, b ≠ 32 ∧ b ≠ 10 ∧ b ≠ 9
  | [], b, hb => by unfold octL at hb; simp at hb
  | x :: l, b, hb => by
    unfold octL at hb
    rw [List.flatMap_cons] at hb
    rcases List.mem_append.1 hb with hb | hb
    · unfold octB at hb
      by_cases h1 : x = 32
      · rw [if_pos h1] at hb; simp at hb; rcases hb with rfl | rfl | rfl | rfl <;> decide
      · rw [if_neg h1] at hb
        by_cases h2 : x = 9
        · rw [if_pos h2] at hb; simp at hb; rcases hb with rfl | rfl | rfl <;> decide
        · rw [if_neg h2] at hb
          by_cases h3 : x = 10
          · rw [if_pos h3] at hb; simp at hb; rcases hb with rfl | rfl | rfl | rfl <;> decide
          · rw [if_neg h3] at hb
            by_cases h4 : x = 92
            · rw [if_pos h4] at hb; simp at hb; rcases hb with rfl | rfl | rfl | rfl <;> decide
            · rw [if_neg h4] at hb; rw [List.mem_singleton] at hb; subst hb; exact ⟨h1, h3, h2⟩
    · exact oct_no l b hb
theorem unesc_one (n : Nat) (x : UInt8) (l : List UInt8) (h : x ≠ 92) : unescN (n + 1) (x :: l) = x :: unescN n l := by
  match l with
  | [] => rw [unescN]; intro _ _ _ _ h; cases h
  | [a] => rw [unescN]; intro _ _ _ _ h; cases h
  | [a, b] => rw [unescN]; intro _ _ _ _ h; cases h
  | a :: b :: c :: l => rw [unescN, if_neg (by unfold escB; simp [h])]
theorem unesc_four (n : Nat) (b c d v : UInt8) (l : List UInt8) (h : escB 92 b c d = true) (hv : escV b c d = v) : unescN (n + 1) (92 :: b :: c :: d :: l) = v :: unescN n l := by
  rw [unescN, if_pos h, hv]
theorem unesc_oct : ∀ (l : List UInt8) (n : Nat), (octL l).length ≤ n → unescN n (octL l) = l
  | [], n, _ => by unfold octL; rw [List.flatMap_nil]; cases n <;> rfl
  | x :: l, n, hn => by
    have e : octL (x :: l) = octB x ++ octL l := by unfold octL; rw [List.flatMap_cons]
    rw [e] at hn ⊢
    rw [List.length_append] at hn
    unfold octB at hn ⊢
    by_cases h1 : x = 32
    · rw [if_pos h1] at hn ⊢
      obtain ⟨m, rfl⟩ : ∃ m, n = m + 1 := ⟨n - 1, by simp at hn; omega⟩
      refine (unesc_four m 48 52 48 32 (octL l) (by decide) (by decide)).trans ?_
      rw [unesc_oct l m (by simp at hn; omega), h1]
    · rw [if_neg h1] at hn ⊢
      by_cases h2 : x = 9
      · rw [if_pos h2] at hn ⊢
        obtain ⟨m, rfl⟩ : ∃ m, n = m + 1 := ⟨n - 1, by simp at hn; omega⟩
        refine (unesc_four m 48 49 49 9 (octL l) (by decide) (by decide)).trans ?_
        rw [unesc_oct l m (by simp at hn; omega), h2]
      · rw [if_neg h2] at hn ⊢
        by_cases h3 : x = 10
        · rw [if_pos h3] at hn ⊢
          obtain ⟨m, rfl⟩ : ∃ m, n = m + 1 := ⟨n - 1, by simp at hn; omega⟩
          refine (unesc_four m 48 49 50 10 (octL l) (by decide) (by decide)).trans ?_
          rw [unesc_oct l m (by simp at hn; omega), h3]
        · rw [if_neg h3] at hn ⊢
          by_cases h4 : x = 92
          · rw [if_pos h4] at hn ⊢
            obtain ⟨m, rfl⟩ : ∃ m, n = m + 1 := ⟨n - 1, by simp at hn; omega⟩
            refine (unesc_four m 49 51 52 92 (octL l) (by decide) (by decide)).trans ?_
            rw [unesc_oct l m (by simp at hn; omega), h4]
          · rw [if_neg h4] at hn ⊢
            obtain ⟨m, rfl⟩ : ∃ m, n = m + 1 := ⟨n - 1, by simp at hn; omega⟩
            rw [List.singleton_append, unesc_one m x _ h4, unesc_oct l m (by simp at hn; omega)]
theorem unescL_oct (l : List UInt8) : unescL (octL l) = l := unesc_oct l _ (Nat.le_refl _)
theorem unescL_plain (l : List UInt8) (h : ∀ b ∈ l, b ≠ 92) : unescL l = l := unesc_plain _ l (Nat.le_refl _) h
/-! ### words -/
theorem word_t {l : List UInt8} (h : wordB l = true) : (∀ b ∈ l, b ≠ 92 ∧ 32 < b.toNat ∧ b.toNat < 127) ∧ l ≠ [] := by
  unfold wordB at h
  simp only [Bool.and_eq_true, List.all_eq_true] at h
  obtain ⟨⟨h1, h2⟩, h3⟩ := h
  refine ⟨fun b hb => ⟨by simpa using h1 b hb, ?_⟩, by simpa using h2⟩
  have := h3 b hb
  unfold prB prN at this
  simpa using this
theorem big_ne {b : UInt8} (h : 32 < b.toNat) : b ≠ 32 ∧ b ≠ 10 ∧ b ≠ 13 := by
  refine ⟨?_, ?_, ?_⟩ <;> (rintro rfl; revert h; decide)
theorem dig_ne {b : UInt8} (h : 48 ≤ b.toNat ∧ b.toNat ≤ 57) : b ≠ 32 ∧ b ≠ 10 ∧ b ≠ 58 := by
  refine ⟨?_, ?_, ?_⟩ <;> (rintro rfl; revert h; decide)
/-! ### a line -/
def midL (op : List UInt8) : List (List UInt8) := if op = [] then [] else splitL 32 op
def flds (n0 n1 n2 n3 : Nat) (r mp o op t s v : List UInt8) : List (List UInt8) := [natL n0, natL n1, natL n2 ++ 58 :: natL n3, octL r, octL mp, o] ++ (midL op ++ [[45], t, octL s, v])
theorem line_join (n0 n1 n2 n3 : Nat) (r mp o op t s v : List UInt8) : lineL n0 n1 n2 n3 r mp o op t s v = Lib.join (flds n0 n1 n2 n3 r mp o op t s v) [32] := by
  have j6 : Lib.join [natL n0, natL n1, natL n2 ++ 58 :: natL n3, octL r, octL mp, o] [32] = natL n0 ++ ([32] ++ (natL n1 ++ ([32] ++ (natL n2 ++ ([58] ++ (natL n3 ++ ([32] ++ (octL r ++ ([32] ++ (octL mp ++ ([32] ++ o))))))))))) := by
    simp [Lib.join, List.intercalate]
  have j4 : Lib.join [[45], t, octL s, v] [32] = [45, 32] ++ (t ++ ([32] ++ (octL s ++ ([32] ++ v)))) := by
    simp [Lib.join, List.intercalate]
  unfold flds lineL midL
  by_cases c : op = []
  · rw [if_pos c, if_pos c, join_app 32 _ _ (by simp) (by simp), j6]
    simp only [List.nil_append]
    rw [j4]
    simp
  · have hne : splitL 32 op ≠ [] := by intro h; have := (splitL_len 32 op).1; rw [h] at this; simp at this
    rw [if_neg c, if_neg c, join_app 32 _ _ (by simp) (by simp), join_app 32 _ _ hne (by simp), join_split, j6, j4]
    simp
structure Good (n0 n1 n2 n3 : Nat) (r mp o op t s v : List UInt8) : Prop where
  h0 : n0 ≤ 2147483647
  h1 : n1 ≤ 2147483647
  h2 : n2 ≤ 2147483647
  h3 : n3 ≤ 2147483647
  ho : wordB o = true
  ht : wordB t = true
  hv : wordB v = true
  hop : ∀ p ∈ midL op, wordB p = true ∧ p ≠ [45]
theorem good_of {n0 n1 n2 n3 : Nat} {r mp o op t s v : List UInt8} (h : mvB n0 n1 n2 n3 r mp o op t s v = true) : Good n0 n1 n2 n3 r mp o op t s v := by
  unfold mvB at h
  simp only [Bool.and_eq_true] at h
  obtain ⟨g0, g1, g2, g3, _, _, _, _, _, _, go, gt, gv, gop⟩ := h
  refine ⟨Int.ofNat_le.1 (nb_t g0).2, Int.ofNat_le.1 (nb_t g1).2, Int.ofNat_le.1 (nb_t g2).2, Int.ofNat_le.1 (nb_t g3).2, go, gt, gv, fun p hp => ?_⟩
  unfold midL at hp
  by_cases c : op = []
  · rw [if_pos c] at hp; simp at hp
  · rw [if_neg c] at hp
    unfold optB at gop
    have e : (op == []) = false := by simp [c]
    rw [e, Bool.false_or, List.all_eq_true] at gop
    have := gop p hp
    simp only [Bool.and_eq_true] at this
    exact ⟨this.1, by simpa using this.2⟩
theorem flds_no {n0 n1 n2 n3 : Nat} {r mp o op t s v : List UInt8} (g : Good n0 n1 n2 n3 r mp o op t s v) : ∀ p ∈ flds n0 n1 n2 n3 r mp o op t s v, ∀ b ∈ p, b ≠ 32 ∧ b ≠ 10 := by
  have hw : ∀ l : List UInt8, wordB l = true → ∀ b ∈ l, b ≠ 32 ∧ b ≠ 10 := fun l h b hb => by have := big_ne ((word_t h).1 b hb).2.1; exact ⟨this.1, this.2.1⟩
  have hn : ∀ n : Nat, ∀ b ∈ natL n, b ≠ 32 ∧ b ≠ 10 := fun n b hb => by have := dig_ne (natL_dig n b hb); exact ⟨this.1, this.2.1⟩
  have ho : ∀ l : List UInt8, ∀ b ∈ octL l, b ≠ 32 ∧ b ≠ 10 := fun l b hb => ⟨(oct_no l b hb).1, (oct_no l b hb).2.1⟩
  intro p hp b hb
  unfold flds at hp
  rcases List.mem_append.1 hp with hp | hp
  · simp only [List.mem_cons, List.not_mem_nil, or_false] at hp
    rcases hp with rfl | rfl | rfl | rfl | rfl | rfl
    · exact hn _ b hb
    · exact hn _ b hb
    · rcases List.mem_append.1 hb with hb | hb
      · exact hn _ b hb
      · rcases List.mem_cons.1 hb with rfl | hb
        · decide
        · exact hn _ b hb
    · exact ho _ b hb
    · exact ho _ b hb
    · exact hw _ g.ho b hb
  · rcases List.mem_append.1 hp with hp | hp
    · exact hw _ (g.hop p hp).1 b hb
    · simp only [List.mem_cons, List.not_mem_nil, or_false] at hp
      rcases hp with rfl | rfl | rfl | rfl
      · rw [List.mem_singleton] at hb; subst hb; decide
      · exact hw _ g.ht b hb
      · exact ho _ b hb
      · exact hw _ g.hv b hb
theorem mid_join (op : List UInt8) : Lib.join (midL op) [32] = op := by
  unfold midL
  by_cases c : op = []
  · rw [if_pos c, c]; rfl
  · rw [if_neg c, join_split]
theorem get_tail (a0 a1 a2 a3 a4 a5 : List UInt8) (O : List (List UInt8)) (B : List (List UInt8)) (j : Nat) : ([a0, a1, a2, a3, a4, a5] ++ (O ++ B)).getD (6 + O.length + j) [] = B.getD j [] := by
  rw [List.getD_eq_getElem?_getD, List.getD_eq_getElem?_getD, List.getElem?_append_right (by simp; omega), List.getElem?_append_right (by simp; omega)]
  congr 2
  simp
  omega
theorem row_line (n0 n1 n2 n3 : Nat) (r mp o op t s v : List UInt8) (h : mvB n0 n1 n2 n3 r mp o op t s v = true) (hl : (lineL n0 n1 n2 n3 r mp o op t s v).length ≤ 900000) :
    rowL (lineL n0 n1 n2 n3 r mp o op t s v) = some ⟨n0, n1, n2, n3, toB r, toB mp, toB o, toB op, toB t, toB s, toB v⟩ := by
  have g := good_of h
  have hs : splitL 32 (lineL n0 n1 n2 n3 r mp o op t s v) = flds n0 n1 n2 n3 r mp o op t s v := by
    rw [line_join]
    refine split_join 32 _ ?_ (fun p hp b hb => (flds_no g p hp b hb).1)
    unfold flds; simp
  have hlen : (flds n0 n1 n2 n3 r mp o op t s v).length = 10 + (midL op).length := by unfold flds; simp; omega
  have tail := fun j => get_tail (natL n0) (natL n1) (natL n2 ++ 58 :: natL n3) (octL r) (octL mp) o (midL op) [[45], t, octL s, v] j
  have hsep : sepGo (flds n0 n1 n2 n3 r mp o op t s v) ((flds n0 n1 n2 n3 r mp o op t s v).length - 9) = some (6 + (midL op).length) := by
    rw [hlen, show 10 + (midL op).length - 9 = (midL op).length + 1 by omega, sepGo, show (midL op).length + 6 = 6 + (midL op).length + 0 by omega]
    have t0 : (flds n0 n1 n2 n3 r mp o op t s v).getD (6 + (midL op).length + 0) [] = [45] := tail 0
    rw [if_pos t0]
    rfl
  have hcut : cutL 58 ((flds n0 n1 n2 n3 r mp o op t s v).getD 2 []) = some (natL n2, natL n3) := by
    show cutL 58 (natL n2 ++ 58 :: natL n3) = _
    exact cutL_at 58 (natL n3) (natL n2) (fun b hb => (dig_ne (natL_dig n2 b hb)).2.2)
  have hmid : ((flds n0 n1 n2 n3 r mp o op t s v).take (6 + (midL op).length)).drop 6 = midL op := by
    unfold flds
    rw [List.take_append, List.drop_append]
    simp
  unfold rowL
  rw [hs, if_pos ⟨by rw [hlen]; omega, hl⟩, hsep, Option.bind_some, hcut, Option.bind_some, hmid, mid_join]
  have t1 : (flds n0 n1 n2 n3 r mp o op t s v).getD (6 + (midL op).length + 1) [] = t := tail 1
  have t2 : (flds n0 n1 n2 n3 r mp o op t s v).getD (6 + (midL op).length + 2) [] = octL s := tail 2
  have t3 : (flds n0 n1 n2 n3 r mp o op t s v).getD (6 + (midL op).length + 3) [] = v := tail 3
  have p0 : (flds n0 n1 n2 n3 r mp o op t s v).getD 0 [] = natL n0 := rfl
  have p1 : (flds n0 n1 n2 n3 r mp o op t s v).getD 1 [] = natL n1 := rfl
  have p3 : (flds n0 n1 n2 n3 r mp o op t s v).getD 3 [] = octL r := rfl
  have p4 : (flds n0 n1 n2 n3 r mp o op t s v).getD 4 [] = octL mp := rfl
  have p5 : (flds n0 n1 n2 n3 r mp o op t s v).getD 5 [] = o := rfl
  have i0 := toInt_nat n0 (Nat.lt_of_le_of_lt g.h0 (by decide))
  have i1 := toInt_nat n1 (Nat.lt_of_le_of_lt g.h1 (by decide))
  have i2 := toInt_nat n2 (Nat.lt_of_le_of_lt g.h2 (by decide))
  have i3 := toInt_nat n3 (Nat.lt_of_le_of_lt g.h3 (by decide))
  rw [t1, t2, t3, p0, p1, p3, p4, p5, i0, i1, i2, i3, unescL_oct, unescL_oct, unescL_oct, unescL_plain t (fun b hb => ((word_t g.ht).1 b hb).1)]
theorem row_lineM (m : S23) (h : mvM m = true) (hl : (lineM m).length ≤ 900000) : rowL (lineM m) = some m := by
  obtain ⟨a0, a1, a2, a3, b4, b5, b6, b7, b8, b9, b10⟩ := m
  unfold mvM at h
  simp only [] at h
  have hnum := h
  unfold mvB at hnum
  simp only [Bool.and_eq_true] at hnum
  obtain ⟨g0, g1, g2, g3, _⟩ := hnum
  obtain ⟨n0, rfl⟩ : ∃ n : Nat, a0 = (n : Int) := ⟨a0.toNat, (Int.toNat_of_nonneg (nb_t g0).1).symm⟩
  obtain ⟨n1, rfl⟩ : ∃ n : Nat, a1 = (n : Int) := ⟨a1.toNat, (Int.toNat_of_nonneg (nb_t g1).1).symm⟩
  obtain ⟨n2, rfl⟩ : ∃ n : Nat, a2 = (n : Int) := ⟨a2.toNat, (Int.toNat_of_nonneg (nb_t g2).1).symm⟩
  obtain ⟨n3, rfl⟩ : ∃ n : Nat, a3 = (n : Int) := ⟨a3.toNat, (Int.toNat_of_nonneg (nb_t g3).1).symm⟩
  unfold lineM at hl ⊢
  simp only [Int.toNat_natCast] at hl ⊢
  rw [row_line n0 n1 n2 n3 _ _ _ _ _ _ _ h hl]
  unfold dat
  simp only [toB_of]
theorem line_bytes (m : S23) (h : mvM m = true) : (∀ b ∈ lineM m, b ≠ 10) ∧ (lineM m).getLast? ≠ some 13 := by
  obtain ⟨a0, a1, a2, a3, b4, b5, b6, b7, b8, b9, b10⟩ := m
  unfold mvM at h
  simp only [] at h
  have hnum := h
  unfold mvB at hnum
  simp only [Bool.and_eq_true] at hnum
  obtain ⟨g0, g1, g2, g3, _⟩ := hnum
  obtain ⟨n0, rfl⟩ : ∃ n : Nat, a0 = (n : Int) := ⟨a0.toNat, (Int.toNat_of_nonneg (nb_t g0).1).symm⟩
  obtain ⟨n1, rfl⟩ : ∃ n : Nat, a1 = (n : Int) := ⟨a1.toNat, (Int.toNat_of_nonneg (nb_t g1).1).symm⟩
  obtain ⟨n2, rfl⟩ : ∃ n : Nat, a2 = (n : Int) := ⟨a2.toNat, (Int.toNat_of_nonneg (nb_t g2).1).symm⟩
  obtain ⟨n3, rfl⟩ : ∃ n : Nat, a3 = (n : Int) := ⟨a3.toNat, (Int.toNat_of_nonneg (nb_t g3).1).symm⟩
  have g := good_of h
  unfold lineM
  simp only [Int.toNat_natCast]
  constructor
  · rw [line_join]
    have hno := flds_no g
    generalize flds n0 n1 n2 n3 (dat b4) (dat b5) (dat b6) (dat b7) (dat b8) (dat b9) (dat b10) = ps at hno
    intro b hb
    induction ps with
    | nil => simp [Lib.join, List.intercalate] at hb
    | cons p ps ih =>
      by_cases hps : ps = []
      · subst hps
        rw [Lib.join_one] at hb
        exact (hno p List.mem_cons_self b hb).2
      · rw [join_cons p ps 32 hps] at hb
        rcases List.mem_append.1 hb with hb | hb
        · exact (hno p List.mem_cons_self b hb).2
        · rcases List.mem_cons.1 hb with rfl | hb
          · decide
          · exact ih (fun q hq => hno q (List.mem_cons_of_mem _ hq)) hb
  · obtain ⟨hv1, hv2⟩ := word_t g.hv
    intro hlast
    have e : ∀ (a : List UInt8), (a ++ dat b10).getLast? = (dat b10).getLast? := fun a => by
      cases hd : dat b10 with
      | nil => exact absurd hd hv2
      | cons x l => rw [List.getLast?_append, List.getLast?_cons]; rfl
    have e2 : ∃ a : List UInt8, lineL n0 n1 n2 n3 (dat b4) (dat b5) (dat b6) (dat b7) (dat b8) (dat b9) (dat b10) = a ++ dat b10 := by
      unfold lineL
      simp only [← List.append_assoc]
      exact ⟨_, rfl⟩
    obtain ⟨a, e2⟩ := e2
    rw [e2, e a] at hlast
    have hm := List.mem_of_getLast? hlast
    exact (big_ne (hv1 13 hm).2.1).2.2 rfl
theorem flat_mem {α : Type} (f : α → List UInt8) : ∀ (l : List α) (m : α), m ∈ l → (f m).length ≤ (l.flatMap f).length
  | [], m, h => by simp at h
  | x :: l, m, h => by
    rw [List.flatMap_cons, List.length_append]
    rcases List.mem_cons.1 h with rfl | h
    · omega
    · have := flat_mem f l m h; omega
/-- The text of mounts that may be printed is read as they are. -/
theorem run_text (l : List S23) (h : ∀ m ∈ l, mvM m = true) (hl : (l.flatMap fun m => lineM m ++ [10]).length ≤ 60000) : runO rowL (l.flatMap fun m => lineM m ++ [10]) = some l := by
  have hlen : ∀ m ∈ l, (lineM m).length ≤ 60000 := by
    intro m hm
    have h2 : (lineM m ++ [10]).length ≤ (l.flatMap fun m => lineM m ++ [10]).length := flat_mem (fun m => lineM m ++ [10]) l m hm
    have h3 : (lineM m ++ [10]).length = (lineM m).length + 1 := by rw [List.length_append, List.length_singleton]
    omega
  have hfl : (l.flatMap fun m => lineM m ++ [10]) = (l.map lineM).flatMap fun x => x ++ [10] := by rw [List.flatMap_map]
  have hlines : linesL (l.flatMap fun m => lineM m ++ [10]) = l.map lineM := by
    rw [hfl]
    refine lines_flat _ (fun x hx => ?_)
    obtain ⟨m, hm, rfl⟩ := List.mem_map.1 hx
    exact (line_bytes m (h m hm)).1
  unfold runO
  rw [if_pos (fits_of (by omega) (by
    rw [hlines]
    intro x hx
    obtain ⟨m, hm, rfl⟩ := List.mem_map.1 hx
    exact ⟨by have := hlen m hm; omega, (line_bytes m (h m hm)).2⟩)), hlines]
  refine mapO_of _ _ ?_
  have : ∀ l : List S23, (∀ m ∈ l, mvM m = true) → (∀ m ∈ l, (lineM m).length ≤ 60000) → all2 (fun x y => rowL x = some y) (l.map lineM) l := by
    intro l
    induction l with
    | nil => intro _ _; trivial
    | cons m l ih =>
      intro h1 h2
      exact ⟨row_lineM m (h1 m List.mem_cons_self) (by have := h2 m List.mem_cons_self; omega), ih (fun x hx => h1 x (List.mem_cons_of_mem _ hx)) (fun x hx => h2 x (List.mem_cons_of_mem _ hx))⟩
  exact this l h hlen
end Go.Proofs.YtokojamaigebaaaDoor.MtPure
