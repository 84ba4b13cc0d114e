/- The reference's print of mounts: which mounts it takes, and the lines that it makes. -/
import Derived.Test.YtokojamaigebaaaDoorMtPure
import Derived.Test.YtokojamaigebaaaDoorL6
set_option linter.unusedVariables false
set_option linter.unusedSimpArgs false
namespace Go.Proofs.YtokojamaigebaaaDoor.MtPure
open Go.RowKit Go.Proofs.YtokojamaigebaaaDoorW.PrintWords Go.Proofs.YtokojamaigebaaaDoorW.PrintLast Go.Proofs.YtokojamaigebaaaDoorW.PrintMore Go.Proofs.YtokojamaigebaaaDoor.Scan Go.Proofs.YtokojamaigebaaaDoor.ScanL Go.Proofs.YtokojamaigebaaaDoor.GivM Go.Proofs.YtokojamaigebaaaDoor.M Go.Proofs.YtokojamaigebaaaDoor.L Go.Proofs.YtokojamaigebaaaDoor.MtDoor Go.Proofs.YtokojamaigebaaaDoor.MtRow
open Go.Proofs.YtokojamaigebaaaDoorPt hiding toB_size toB_data
def numB (n : Int) : Bool := decide (0 ≤ n) && decide (n ≤ 2147483647)
def optB (op : List UInt8) : Bool := op == [] || (splitL 32 op).all fun f => wordB f && !(f == [45])
/-- May this mount be printed? -/
def mvB (a0 a1 a2 a3 : Int) (r mp o op t s v : List UInt8) : Bool :=
  numB a0 && (numB a1 && (numB a2 && (numB a3 && (!(r == []) && (!(mp == []) && (!(s == []) && (r.all (prB true) && (mp.all (prB true) && (s.all (prB true) && (wordB o && (wordB t && (wordB v && optB op))))))))))))
theorem mv_l1 (ps : List (List UInt8)) (hl : ps.length ≤ 3000000000) (hp : ∀ p ∈ ps, p.length ≤ 2147483647) : ∀ (n i k : Nat), n = ps.length - i → i ≤ ps.length → n + 5000000000 ≤ k → spec_mountValid.l1 k (ps.map toB) (ps.length : Int) (i : Int) = some ((ps.drop i).all fun f => wordB f && !(f == [45]))
  | n, i, 0, _, _, hk => by omega
  | n, i, k + 1, hn, hi, hk => by
    have e3 : wrap64 ((i : Int) + 1) = ((i + 1 : Nat) : Int) := by rw [wr (by omega) (by omega)]; omega
    rw [spec_mountValid.l1]
    by_cases h : i < ps.length
    · have hg : ps.getD i [] = ps[i]'h := by rw [List.getD_eq_getElem?_getD, List.getElem?_eq_getElem h]; rfl
      have hb := hp _ (List.getElem_mem h)
      rw [if_pos (by omega), if_pos (by omega), if_pos (by rw [List.length_map]; omega), rd_map, hg, word_is _ hb k (by omega), Option.bind_some, e3, List.drop_eq_getElem_cons h, List.all_cons]
      cases c : wordB (ps[i]'h) with
      | false => rfl
      | true =>
        rw [if_pos rfl, toB_list]
        by_cases c2 : ps[i]'h = [45]
        · rw [if_pos c2, c2]; rfl
        · rw [if_neg c2, mv_l1 ps hl hp (ps.length - (i + 1)) (i + 1) k rfl (by omega) (by omega)]
          have : (!(ps[i]'h == [45])) = true := by simp [c2]
          rw [this]; rfl
    · rw [if_neg (by omega), List.drop_eq_nil_of_le (by omega)]; rfl
theorem split_piece (c : UInt8) (l : List UInt8) : ∀ p ∈ splitL c l, p.length ≤ l.length := by
  intro p hp
  have h1 := tot_mem hp
  have h2 := splitL_tot c l
  omega
theorem mv_j1 (b : Bool) (a0 a1 a2 a3 : Int) (x4 x5 x6 : ByteArray) (op : List UInt8) (x8 x9 x10 : ByteArray) (hop : op.length ≤ 2147483647) (k : Nat) (hk : 9000000000 ≤ k) : spec_mountValid.j1 k b a0 a1 a2 a3 x4 x5 x6 (toB op) x8 x9 x10 = some (!b && optB op) := by
  obtain ⟨k, rfl⟩ : ∃ j, k = j + 1 := ⟨k - 1, by omega⟩
  rw [spec_mountValid.j1]
  cases b with
  | true => rfl
  | false =>
    rw [if_neg (by decide), toB_list]
    by_cases c : op = []
    · rw [if_pos c, c]; rfl
    · have hl := (splitL_len 32 op).2
      rw [if_neg c, fields_is op hop k (by omega), Option.bind_some, List.length_map]
      have := mv_l1 (splitL 32 op) (by omega) (fun p hp => Nat.le_trans (split_piece 32 op p hp) hop) ((splitL 32 op).length - 0) 0 k rfl (Nat.zero_le _) (by omega)
      rw [List.drop_zero] at this
      refine Eq.trans this ?_
      unfold optB
      have e : (op == []) = false := by simp [c]
      rw [e]; rfl
theorem nb_f {n : Int} (h : numB n = false) : n < 0 ∨ n > 2147483647 := by
  unfold numB at h
  simp at h
  omega
theorem nb_t {n : Int} (h : numB n = true) : 0 ≤ n ∧ n ≤ 2147483647 := by
  unfold numB at h
  simpa using h
theorem num_step {α : Type} (n : Int) (R F : α) : (if n < 0 then F else (if n > 2147483647 then F else R)) = if numB n = true then R else F := by
  cases c : numB n with
  | true => have := nb_t c; rw [if_neg (by omega), if_neg (by omega), if_pos rfl]
  | false =>
    rw [if_neg (show ¬ (false = true) by decide)]
    by_cases h : n < 0
    · rw [if_pos h]
    · rw [if_neg h, if_pos (by have := nb_f c; omega)]
theorem mv_is (a0 a1 a2 a3 : Int) (r mp o op t s v : List UInt8) (hr : r.length ≤ 2147483647) (hmp : mp.length ≤ 2147483647) (ho : o.length ≤ 2147483647) (hop : op.length ≤ 2147483647) (ht : t.length ≤ 2147483647) (hs : s.length ≤ 2147483647) (hv : v.length ≤ 2147483647) (k : Nat) (hk : 10000000000 ≤ k) :
    spec_mountValid.f k a0 a1 a2 a3 (toB r) (toB mp) (toB o) (toB op) (toB t) (toB s) (toB v) = some (mvB a0 a1 a2 a3 r mp o op t s v) := by
  obtain ⟨k, rfl⟩ : ∃ j, k = j + 5 := ⟨k - 5, by omega⟩
  unfold spec_mountValid.f
  rw [Option.bind_some]
  show spec_mountValid.l0 (k + 5) [a0, a1, a2, a3] 4 0 a0 a1 a2 a3 (toB r) (toB mp) (toB o) (toB op) (toB t) (toB s) (toB v) = _
  have w1 : wrap64 (0 + 1) = 1 := wr (x := 0 + 1) (by decide) (by decide)
  have w2 : wrap64 (1 + 1) = 2 := wr (x := 1 + 1) (by decide) (by decide)
  have w3 : wrap64 (2 + 1) = 3 := wr (x := 2 + 1) (by decide) (by decide)
  have w4 : wrap64 (3 + 1) = 4 := wr (x := 3 + 1) (by decide) (by decide)
  have r0 : rd [a0, a1, a2, a3] 0 = a0 := rfl
  have r1 : rd [a0, a1, a2, a3] 1 = a1 := rfl
  have r2 : rd [a0, a1, a2, a3] 2 = a2 := rfl
  have r3 : rd [a0, a1, a2, a3] 3 = a3 := rfl
  have rl : (([a0, a1, a2, a3] : List Int).length : Int) = 4 := rfl
  unfold mvB
  rw [spec_mountValid.l0, if_pos (by decide), if_pos (by decide), if_pos (by rw [rl]; decide), r0, w1, num_step]
  cases numB a0 with
  | false => rfl
  | true =>
  rw [if_pos rfl, Bool.true_and, spec_mountValid.l0, if_pos (by decide), if_pos (by decide), if_pos (by rw [rl]; decide), r1, w2, num_step]
  cases numB a1 with
  | false => rfl
  | true =>
  rw [if_pos rfl, Bool.true_and, spec_mountValid.l0, if_pos (by decide), if_pos (by decide), if_pos (by rw [rl]; decide), r2, w3, num_step]
  cases numB a2 with
  | false => rfl
  | true =>
  rw [if_pos rfl, Bool.true_and, spec_mountValid.l0, if_pos (by decide), if_pos (by decide), if_pos (by rw [rl]; decide), r3, w4, num_step]
  cases numB a3 with
  | false => rfl
  | true =>
  rw [if_pos rfl, Bool.true_and, spec_mountValid.l0, if_neg (by decide)]
  have jt := mv_j1 true a0 a1 a2 a3 (toB r) (toB mp) (toB o) op (toB t) (toB s) (toB v) hop k (by omega)
  rw [toB_list, toB_list, toB_list]
  by_cases c1 : r = []
  · rw [if_pos c1, jt, c1]; rfl
  rw [if_neg c1, show (r == []) = false by simp [c1]]
  by_cases c2 : mp = []
  · rw [if_pos c2, jt, c2]; rfl
  rw [if_neg c2, show (mp == []) = false by simp [c2]]
  by_cases c3 : s = []
  · rw [if_pos c3, jt, c3]; rfl
  rw [if_neg c3, show (s == []) = false by simp [c3]]
  rw [pr_is r true hr k (by omega), Option.bind_some]
  simp only [Bool.not_false, Bool.true_and]
  cases r.all (prB true) with
  | false => exact jt
  | true =>
  rw [if_pos rfl, pr_is mp true hmp k (by omega), Option.bind_some]
  cases mp.all (prB true) with
  | false => exact jt
  | true =>
  rw [if_pos rfl, pr_is s true hs k (by omega), Option.bind_some]
  cases s.all (prB true) with
  | false => exact jt
  | true =>
  rw [if_pos rfl, word_is o ho k (by omega), Option.bind_some]
  cases wordB o with
  | false => exact jt
  | true =>
  rw [if_pos rfl, word_is t ht k (by omega), Option.bind_some]
  cases wordB t with
  | false => exact jt
  | true =>
  rw [if_pos rfl, word_is v hv k (by omega), Option.bind_some, mv_j1 _ _ _ _ _ _ _ _ _ _ _ _ hop k (by omega)]
  cases wordB v <;> rfl
/-! ### lines -/
def lineL (n0 n1 n2 n3 : Nat) (r mp o op t s v : List UInt8) : List UInt8 :=
  natL n0 ++ ([32] ++ (natL n1 ++ ([32] ++ (natL n2 ++ ([58] ++ (natL n3 ++ ([32] ++ (octL r ++ ([32] ++ (octL mp ++ ([32] ++ (o ++ ((if op = [] then [] else [32] ++ op) ++ ([32, 45, 32] ++ (t ++ ([32] ++ (octL s ++ ([32] ++ v))))))))))))))))))
def dat (b : ByteArray) : List UInt8 := b.data.toList
def lineM (m : S23) : List UInt8 := lineL m.f0.toNat m.f1.toNat m.f2.toNat m.f3.toNat (dat m.f4) (dat m.f5) (dat m.f6) (dat m.f7) (dat m.f8) (dat m.f9) (dat m.f10)
def mvM (m : S23) : Bool := mvB m.f0 m.f1 m.f2 m.f3 (dat m.f4) (dat m.f5) (dat m.f6) (dat m.f7) (dat m.f8) (dat m.f9) (dat m.f10)
/-- No text of it is longer than the statements' bound. -/
def FitM (m : S23) : Prop := m.f4.size ≤ 2147483647 ∧ m.f5.size ≤ 2147483647 ∧ m.f6.size ≤ 2147483647 ∧ m.f7.size ≤ 2147483647 ∧ m.f8.size ≤ 2147483647 ∧ m.f9.size ≤ 2147483647 ∧ m.f10.size ≤ 2147483647
def toSpec (m : S23) : S62 := ⟨m.f0, m.f1, m.f2, m.f3, m.f4, m.f5, m.f6, m.f7, m.f8, m.f9, m.f10⟩
theorem rd_spec (l : List S23) (i : Nat) (h : i < l.length) : rd_T62 (l.map toSpec) (i : Int) = toSpec (l[i]'h) := by
  unfold rd_T62
  rw [Int.toNat_natCast, List.getD_eq_getElem?_getD, List.getElem?_map, List.getElem?_eq_getElem h]
  rfl
theorem sz_1 (c : UInt8) : (⟨#[c]⟩ : ByteArray).size = 1 := rfl
theorem sz_3 (a b c : UInt8) : (⟨#[a, b, c]⟩ : ByteArray).size = 3 := rfl
theorem b_1 (c : UInt8) : (⟨#[c]⟩ : ByteArray) = toB [c] := rfl
theorem b_3 (a b c : UInt8) : (⟨#[a, b, c]⟩ : ByteArray) = toB [a, b, c] := rfl
theorem print_raw (k : Nat) (X : ByteArray) (ms : List S62) (L i : Int) (m : S62) (N0 N1 N2 N3 R MP SO : ByteArray) (hm : rd_T62 ms i = m) (h0 : 0 ≤ i) (hi : i < (ms.length : Int)) (hL : i < L)
    (hv : spec_mountValid.f k m.f0 m.f1 m.f2 m.f3 m.f4 m.f5 m.f6 m.f7 m.f8 m.f9 m.f10 = some true) (e0 : spec_natural.f k m.f0 = some N0) (e1 : spec_natural.f k m.f1 = some N1) (e2 : spec_natural.f k m.f2 = some N2) (e3 : spec_natural.f k m.f3 = some N3)
    (eR : spec_octal.f k m.f4 = some R) (eM : spec_octal.f k m.f5 = some MP) (eS : spec_octal.f k m.f9 = some SO)
    (s0 : N0.size ≤ 11) (s1 : N1.size ≤ 11) (s2 : N2.size ≤ 11) (s3 : N3.size ≤ 11) (s4 : R.size ≤ 10000000000) (s5 : MP.size ≤ 10000000000) (s9 : SO.size ≤ 10000000000) (s6 : m.f6.size ≤ 2147483647) (s7 : m.f7.size ≤ 2147483647) (s8 : m.f8.size ≤ 2147483647) (s10 : m.f10.size ≤ 2147483647) (sX : X.size ≤ 100000000000000) :
    spec_MountsPrint.l0 (k + 1) X ms L i = if m.f7.toList = ([] : List UInt8) then (spec_MountsPrint.l0 k ((X ++ ((((((((((((N0 ++ (⟨#[32]⟩ : ByteArray)) ++ N1) ++ (⟨#[32]⟩ : ByteArray)) ++ N2) ++ (⟨#[58]⟩ : ByteArray)) ++ N3) ++ (⟨#[32]⟩ : ByteArray)) ++ R) ++ (⟨#[32]⟩ : ByteArray)) ++ MP) ++ (⟨#[32]⟩ : ByteArray)) ++ m.f6)) ++ (((((((⟨#[32, 45, 32]⟩ : ByteArray) ++ m.f8) ++ (⟨#[32]⟩ : ByteArray)) ++ SO) ++ (⟨#[32]⟩ : ByteArray)) ++ m.f10) ++ (⟨#[10]⟩ : ByteArray))) ms L (wrap64 (i + 1))) else (spec_MountsPrint.l0 k (((X ++ ((((((((((((N0 ++ (⟨#[32]⟩ : ByteArray)) ++ N1) ++ (⟨#[32]⟩ : ByteArray)) ++ N2) ++ (⟨#[58]⟩ : ByteArray)) ++ N3) ++ (⟨#[32]⟩ : ByteArray)) ++ R) ++ (⟨#[32]⟩ : ByteArray)) ++ MP) ++ (⟨#[32]⟩ : ByteArray)) ++ m.f6)) ++ ((⟨#[32]⟩ : ByteArray) ++ m.f7)) ++ (((((((⟨#[32, 45, 32]⟩ : ByteArray) ++ m.f8) ++ (⟨#[32]⟩ : ByteArray)) ++ SO) ++ (⟨#[32]⟩ : ByteArray)) ++ m.f10) ++ (⟨#[10]⟩ : ByteArray))) ms L (wrap64 (i + 1))) := by
  rw [spec_MountsPrint.l0, if_pos hL, if_pos h0, if_pos hi, hm, hv, Option.bind_some, if_pos rfl, e0, Option.bind_some, if_pos (by omega), e1, Option.bind_some, if_pos (by simp only [ByteArray.size_append, sz_1, sz_3]; omega), if_pos (by simp only [ByteArray.size_append, sz_1, sz_3]; omega), e2, Option.bind_some, if_pos (by simp only [ByteArray.size_append, sz_1, sz_3]; omega), if_pos (by simp only [ByteArray.size_append, sz_1, sz_3]; omega), e3, Option.bind_some, if_pos (by simp only [ByteArray.size_append, sz_1, sz_3]; omega), if_pos (by simp only [ByteArray.size_append, sz_1, sz_3]; omega), eR, Option.bind_some, if_pos (by simp only [ByteArray.size_append, sz_1, sz_3]; omega), if_pos (by simp only [ByteArray.size_append, sz_1, sz_3]; omega), eM, Option.bind_some, if_pos (by simp only [ByteArray.size_append, sz_1, sz_3]; omega), if_pos (by simp only [ByteArray.size_append, sz_1, sz_3]; omega), if_pos (by simp only [ByteArray.size_append, sz_1, sz_3]; omega), if_pos (by simp only [ByteArray.size_append, sz_1, sz_3]; omega)]
  by_cases c : m.f7.toList = []
  · rw [if_pos c, if_pos c, if_pos (by omega), if_pos (by simp only [ByteArray.size_append, sz_1, sz_3]; omega), eS, Option.bind_some, if_pos (by simp only [ByteArray.size_append, sz_1, sz_3]; omega), if_pos (by simp only [ByteArray.size_append, sz_1, sz_3]; omega), if_pos (by simp only [ByteArray.size_append, sz_1, sz_3]; omega), if_pos (by simp only [ByteArray.size_append, sz_1, sz_3]; omega), if_pos (by simp only [ByteArray.size_append, sz_1, sz_3]; omega)]
  · rw [if_neg c, if_neg c, if_pos (by omega), if_pos (by simp only [ByteArray.size_append, sz_1, sz_3]; omega), if_pos (by omega), if_pos (by simp only [ByteArray.size_append, sz_1, sz_3]; omega), eS, Option.bind_some, if_pos (by simp only [ByteArray.size_append, sz_1, sz_3]; omega), if_pos (by simp only [ByteArray.size_append, sz_1, sz_3]; omega), if_pos (by simp only [ByteArray.size_append, sz_1, sz_3]; omega), if_pos (by simp only [ByteArray.size_append, sz_1, sz_3]; omega), if_pos (by simp only [ByteArray.size_append, sz_1, sz_3]; omega)]
theorem natural_is (n k : Nat) (hn : n ≤ 2147483647) (hk : 20 ≤ k) : spec_natural.f k (n : Int) = some (toB (natL n)) := natural_go 10 n k (Nat.lt_of_le_of_lt hn (by decide)) (by decide) (Nat.le_trans (by decide) hk)
theorem natL_11 (n : Nat) (hn : n ≤ 2147483647) : (natL n).length ≤ 11 := natL_len 10 n (Nat.lt_of_le_of_lt hn (by decide))
theorem print_step (k : Nat) (acc : List UInt8) (ms : List S62) (i : Nat) (n0 n1 n2 n3 : Nat) (r mp o op t s v : List UInt8) (R : Option (ByteArray × Int))
    (hm : rd_T62 ms (i : Int) = ⟨n0, n1, n2, n3, toB r, toB mp, toB o, toB op, toB t, toB s, toB v⟩) (hi : i < ms.length) (hms : ms.length ≤ 200) (hk : 10000000000 ≤ k) (hv1 : mvB n0 n1 n2 n3 r mp o op t s v = true)
    (hr : r.length ≤ 2147483647) (hmp : mp.length ≤ 2147483647) (ho : o.length ≤ 2147483647) (hop : op.length ≤ 2147483647) (ht : t.length ≤ 2147483647) (hs : s.length ≤ 2147483647) (hv : v.length ≤ 2147483647) (ha : acc.length ≤ 100000000000000)
    (hR : spec_MountsPrint.l0 k (toB (acc ++ (lineL n0 n1 n2 n3 r mp o op t s v ++ [10]))) ms (ms.length : Int) ((i + 1 : Nat) : Int) = R) :
    spec_MountsPrint.l0 (k + 1) (toB acc) ms (ms.length : Int) (i : Int) = R := by
  have e3 : wrap64 ((i : Int) + 1) = ((i + 1 : Nat) : Int) := by rw [wr (by omega) (by omega)]; omega
  have hnum : n0 ≤ 2147483647 ∧ n1 ≤ 2147483647 ∧ n2 ≤ 2147483647 ∧ n3 ≤ 2147483647 := by
    have hv2 := hv1
    unfold mvB at hv2
    simp only [Bool.and_eq_true] at hv2
    obtain ⟨g0, g1, g2, g3, _⟩ := hv2
    have := nb_t g0; have := nb_t g1; have := nb_t g2; have := nb_t g3
    omega
  obtain ⟨m0, m1, m2, m3⟩ := hnum
  have l4 := octL_len r
  have l5 := octL_len mp
  have l6 := octL_len s
  have kk : 20 ≤ k := by omega
  have kr : r.length + 1 ≤ k := by omega
  have kmp : mp.length + 1 ≤ k := by omega
  have ks : s.length + 1 ≤ k := by omega
  have q4 : (toB (octL r)).size ≤ 10000000000 := by rw [toB_size]; omega
  have q5 : (toB (octL mp)).size ≤ 10000000000 := by rw [toB_size]; omega
  have q6 : (toB (octL s)).size ≤ 10000000000 := by rw [toB_size]; omega
  have qx : (toB acc).size ≤ 100000000000000 := by rw [toB_size]; omega
  rw [print_raw k (toB acc) ms (ms.length : Int) (i : Int) _ _ _ _ _ _ _ _ hm (Int.natCast_nonneg i) (Int.ofNat_lt.2 hi) (Int.ofNat_lt.2 hi) ((mv_is n0 n1 n2 n3 r mp o op t s v hr hmp ho hop ht hs hv k hk).trans (congrArg some hv1)) (natural_is n0 k m0 kk) (natural_is n1 k m1 kk) (natural_is n2 k m2 kk) (natural_is n3 k m3 kk) (oct_is r hr k kr) (oct_is mp hmp k kmp) (oct_is s hs k ks)
    (by rw [toB_size]; exact natL_11 n0 m0) (by rw [toB_size]; exact natL_11 n1 m1) (by rw [toB_size]; exact natL_11 n2 m2) (by rw [toB_size]; exact natL_11 n3 m3) q4 q5 q6 (by rw [toB_size]; exact ho) (by rw [toB_size]; exact hop) (by rw [toB_size]; exact ht) (by rw [toB_size]; exact hv) qx, toB_list, e3]
  by_cases c : op = []
  · rw [if_pos c, ← hR]
    congr 1
    unfold lineL
    rw [if_pos c]
    simp only [b_1, b_3, toB_app, List.append_assoc, List.nil_append]
  · rw [if_neg c, ← hR]
    congr 1
    unfold lineL
    rw [if_neg c]
    simp only [b_1, b_3, toB_app, List.append_assoc, List.nil_append]
theorem line_len (n0 n1 n2 n3 : Nat) (r mp o op t s v : List UInt8) (hn : n0 ≤ 2147483647 ∧ n1 ≤ 2147483647 ∧ n2 ≤ 2147483647 ∧ n3 ≤ 2147483647) (hr : r.length ≤ 2147483647) (hmp : mp.length ≤ 2147483647) (ho : o.length ≤ 2147483647) (hop : op.length ≤ 2147483647) (ht : t.length ≤ 2147483647) (hs : s.length ≤ 2147483647) (hv : v.length ≤ 2147483647) :
    (lineL n0 n1 n2 n3 r mp o op t s v ++ [10]).length ≤ 100000000000 := by
  have l0 := natL_11 n0 hn.1
  have l1 := natL_11 n1 hn.2.1
  have l2 := natL_11 n2 hn.2.2.1
  have l3 := natL_11 n3 hn.2.2.2
  have l4 := octL_len r
  have l5 := octL_len mp
  have l6 := octL_len s
  have lo : (if op = [] then [] else [32] ++ op : List UInt8).length ≤ op.length + 1 := by split <;> simp
  unfold lineL
  simp only [List.length_append, List.length_cons, List.length_nil]
  omega
theorem print_bad (k : Nat) (X : ByteArray) (ms : List S62) (L i : Int) (m : S62) (hm : rd_T62 ms i = m) (h0 : 0 ≤ i) (hi : i < (ms.length : Int)) (hL : i < L)
    (hv : spec_mountValid.f k m.f0 m.f1 m.f2 m.f3 m.f4 m.f5 m.f6 m.f7 m.f8 m.f9 m.f10 = some false) : spec_MountsPrint.l0 (k + 1) X ms L i = some (toB [], 2) := by
  rw [spec_MountsPrint.l0, if_pos hL, if_pos h0, if_pos hi, hm, hv, Option.bind_some, if_neg (by decide)]
  rfl
theorem mount_step (k : Nat) (acc : List UInt8) (ms : List S62) (i : Nat) (m : S23) (hm : rd_T62 ms (i : Int) = toSpec m) (hf : FitM m) (hi : i < ms.length) (hms : ms.length ≤ 200) (hk : 10000000000 ≤ k) (ha : acc.length ≤ 100000000000000) :
    (mvM m = true → (lineM m ++ [10]).length ≤ 100000000000 ∧ spec_MountsPrint.l0 (k + 1) (toB acc) ms (ms.length : Int) (i : Int) = spec_MountsPrint.l0 k (toB (acc ++ (lineM m ++ [10]))) ms (ms.length : Int) ((i + 1 : Nat) : Int)) ∧
    (mvM m = false → spec_MountsPrint.l0 (k + 1) (toB acc) ms (ms.length : Int) (i : Int) = some (toB [], 2)) := by
  obtain ⟨a0, a1, a2, a3, b4, b5, b6, b7, b8, b9, b10⟩ := m
  obtain ⟨r, rfl⟩ := ex b4
  obtain ⟨mp, rfl⟩ := ex b5
  obtain ⟨o, rfl⟩ := ex b6
  obtain ⟨op, rfl⟩ := ex b7
  obtain ⟨t, rfl⟩ := ex b8
  obtain ⟨s, rfl⟩ := ex b9
  obtain ⟨v, rfl⟩ := ex b10
  unfold FitM at hf
  simp only [toB_size] at hf
  obtain ⟨f4, f5, f6, f7, f8, f9, f10⟩ := hf
  have hmv : mvM ⟨a0, a1, a2, a3, toB r, toB mp, toB o, toB op, toB t, toB s, toB v⟩ = mvB a0 a1 a2 a3 r mp o op t s v := rfl
  have hln : lineM ⟨a0, a1, a2, a3, toB r, toB mp, toB o, toB op, toB t, toB s, toB v⟩ = lineL a0.toNat a1.toNat a2.toNat a3.toNat r mp o op t s v := rfl
  rw [hmv, hln]
  clear hmv hln
  constructor
  · intro c
    have hnum := c
    unfold mvB at hnum
    simp only [Bool.and_eq_true] at hnum
    obtain ⟨g0, g1, g2, g3, _⟩ := hnum
    obtain ⟨n0, rfl⟩ : ∃ n : Nat, a0 = (n : Int) := ⟨a0.toNat, (Int.toNat_of_nonneg (nb_t g0).1).symm⟩
    obtain ⟨n1, rfl⟩ : ∃ n : Nat, a1 = (n : Int) := ⟨a1.toNat, (Int.toNat_of_nonneg (nb_t g1).1).symm⟩
    obtain ⟨n2, rfl⟩ : ∃ n : Nat, a2 = (n : Int) := ⟨a2.toNat, (Int.toNat_of_nonneg (nb_t g2).1).symm⟩
    obtain ⟨n3, rfl⟩ : ∃ n : Nat, a3 = (n : Int) := ⟨a3.toNat, (Int.toNat_of_nonneg (nb_t g3).1).symm⟩
    have q0 := Int.ofNat_le.1 (nb_t g0).2
    have q1 := Int.ofNat_le.1 (nb_t g1).2
    have q2 := Int.ofNat_le.1 (nb_t g2).2
    have q3 := Int.ofNat_le.1 (nb_t g3).2
    simp only [Int.toNat_natCast]
    exact ⟨line_len n0 n1 n2 n3 r mp o op t s v ⟨q0, q1, q2, q3⟩ f4 f5 f6 f7 f8 f9 f10, print_step k acc ms i n0 n1 n2 n3 r mp o op t s v _ hm hi hms hk c f4 f5 f6 f7 f8 f9 f10 ha rfl⟩
  · intro c
    exact print_bad k (toB acc) ms (ms.length : Int) (i : Int) _ hm (Int.natCast_nonneg i) (Int.ofNat_lt.2 hi) (Int.ofNat_lt.2 hi) ((mv_is a0 a1 a2 a3 r mp o op t s v f4 f5 f6 f7 f8 f9 f10 k hk).trans (congrArg some c))
theorem print_go (l : List S23) (ms : List S62) (hms : ms = l.map toSpec) (hl : l.length ≤ 200) (hf : ∀ m ∈ l, FitM m) : ∀ (n i k : Nat) (acc : List UInt8), n = l.length - i → i ≤ l.length → n + 10000000001 ≤ k → acc.length ≤ i * 100000000000 →
    spec_MountsPrint.l0 k (toB acc) ms (ms.length : Int) (i : Int) = some (if ((l.drop i).all mvM) = true then (toB (acc ++ (l.drop i).flatMap fun m => lineM m ++ [10]), 1) else (toB [], 2)) := by
  intro n
  have hlm : ms.length = l.length := by rw [hms]; exact List.length_map _
  induction n with
  | zero =>
    intro i k acc hn hi hk ha
    obtain ⟨k, rfl⟩ : ∃ j, k = j + 1 := ⟨k - 1, by omega⟩
    rw [spec_MountsPrint.l0, if_neg (show ¬ ((i : Int) < (ms.length : Int)) by omega), List.drop_eq_nil_of_le (by omega), List.flatMap_nil, List.append_nil]
    rfl
  | succ n ih =>
    intro i k acc hn hi hk ha
    obtain ⟨k, rfl⟩ : ∃ j, k = j + 1 := ⟨k - 1, by omega⟩
    have h : i < l.length := by omega
    have hm : rd_T62 ms (i : Int) = toSpec (l[i]'h) := by rw [hms]; exact rd_spec l i h
    have hfm := hf _ (List.getElem_mem h)
    rw [List.drop_eq_getElem_cons h, List.all_cons, List.flatMap_cons]
    generalize l[i]'h = m at hm hfm ⊢
    have hst := mount_step k acc ms i m hm hfm (by omega) (by omega) (by omega) (by omega)
    cases c : mvM m with
    | false =>
      rw [hst.2 c]
      rfl
    | true =>
      obtain ⟨h1, h2⟩ := hst.1 c
      have h3 : (acc ++ (lineM m ++ [10])).length ≤ (i + 1) * 100000000000 := by rw [List.length_append]; omega
      rw [h2, ih (i + 1) k _ (by omega) (by omega) (by omega) h3, Bool.true_and, List.append_assoc]
theorem print_is (l : List S23) (hl : l.length ≤ 200) (hf : ∀ m ∈ l, FitM m) (k : Nat) (hk : 20000000000 ≤ k) : spec_MountsPrint.f k (l.map toSpec) = some (if (l.all mvM) = true then (toB (l.flatMap fun m => lineM m ++ [10]), 1) else (toB [], 2)) := by
  unfold spec_MountsPrint.f
  have := print_go l (l.map toSpec) rfl hl hf (l.length - 0) 0 k [] rfl (Nat.zero_le _) (by omega) (Nat.zero_le _)
  rw [List.drop_zero, List.nil_append] at this
  exact this
end Go.Proofs.YtokojamaigebaaaDoor.MtPure
