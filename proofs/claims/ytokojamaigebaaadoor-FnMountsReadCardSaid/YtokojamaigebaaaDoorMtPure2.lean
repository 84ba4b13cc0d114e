/- The reference's print of mounts: which mounts it takes, and the lines that it makes. -/
import Derived.Test.YtokojamaigebaaaDoorMtPure
import Derived.Test.YtokojamaigebaaaDoorL6
set_option linter.unusedVariables false
set_option linter.unusedSimpArgs false
namespace Go.Proofs.YtokojamaigebaaaDoor.MtPure
open Go.RowKit Go.Proofs.YtokojamaigebaaaDoorW.PrintWords Go.Proofs.YtokojamaigebaaaDoorW.PrintLast Go.Proofs.YtokojamaigebaaaDoorW.PrintMore Go.Proofs.YtokojamaigebaaaDoor.Scan Go.Proofs.YtokojamaigebaaaDoor.ScanL Go.Proofs.YtokojamaigebaaaDoor.GivM Go.Proofs.YtokojamaigebaaaDoor.M Go.Proofs.YtokojamaigebaaaDoor.L Go.Proofs.YtokojamaigebaaaDoor.MtDoor Go.Proofs.YtokojamaigebaaaDoor.MtRow
open Go.Proofs.YtokojamaigebaaaDoorPt hiding toB_size toB_data
def numB (n : Int) : Bool := decide (0 ≤ n) && decide (n ≤ 2147483647)
def optB (op : List UInt8) : Bool := op == [] || (splitL 32 op).all fun f => wordB f && !(f == [45])
/-- May this mount be printed? -/
def mvB (a0 a1 a2 a3 : Int) (r mp o op t s v : List UInt8) : Bool :=
  numB a0 && (numB a1 && (numB a2 && (numB a3 && (!(r == []) && (!(mp == []) && (!(s == []) && (r.all (prB true) && (mp.all (prB true) && (s.all (prB true) && (wordB o && (wordB t && (wordB v && optB op))))))))))))
theorem mv_l1 (ps : List (List UInt8)) (hl : ps.length ≤ 3000000000) (hp : ∀ p ∈ ps, p.length ≤ 2147483647) : ∀ (n i k : Nat), n = ps.length - i → i ≤ ps.length → n + 5000000000 ≤ k → spec_mountValid.l1 k (ps.map toB) (ps.length : Int) (i : Int) = some ((ps.drop i).all fun f => wordB f && !(f == [45]))
  | n, i, 0, _, _, hk => by omega
  | n, i, k + 1, hn, hi, hk => by
    have e3 : wrap64 ((i : Int) + 1) = ((i + 1 : Nat) : Int) := by rw [wr (by omega) (by omega)]; omega
    rw [spec_mountValid.l1]
    by_cases h : i < ps.length
    · have hg : ps.getD i [] = ps[i]'h := by rw [List.getD_eq_getElem?_getD, List.getElem?_eq_getElem h]; rfl
      have hb := hp _ (List.getElem_mem h)
      rw [if_pos (by omega), if_pos (by omega), if_pos (by rw [List.length_map]; omega), rd_map, hg, word_is _ hb k (by omega), Option.bind_some, e3, List.drop_eq_getElem_cons h, List.all_cons]
      cases c : wordB (ps[i]'h) with
      | false => rfl
      | true =>
        rw [if_pos rfl, toB_list]
        by_cases c2 : ps[i]'h = [45]
        · rw [if_pos c2, c2]; rfl
        · rw [if_neg c2, mv_l1 ps hl hp (ps.length - (i + 1)) (i + 1) k rfl (by omega) (by omega)]
          have : (!(ps[i]'h == [45])) = true := by simp [c2]
          rw [this]; rfl
    · rw [if_neg (by omega), List.drop_eq_nil_of_le (by omega)]; rfl
theorem split_piece (c : UInt8) (l : List UInt8) : ∀ p ∈ splitL c l, p.length ≤ l.length := by
  intro p hp
  have h1 := tot_mem hp
  have h2 := splitL_tot c l
  omega
theorem mv_j1 (b : Bool) (a0 a1 a2 a3 : Int) (x4 x5 x6 : ByteArray) (op : List UInt8) (x8 x9 x10 : ByteArray) (hop : op.length ≤ 2147483647) (k : Nat) (hk : 9000000000 ≤ k) : spec_mountValid.j1 k b a0 a1 a2 a3 x4 x5 x6 (toB op) x8 x9 x10 = some (!b && optB op) := by
  obtain ⟨k, rfl⟩ : ∃ j, k = j + 1 := ⟨k - 1, by omega⟩
  rw [spec_mountValid.j1]
  cases b with
  | true => rfl
  | false =>
    rw [if_neg (by decide), toB_list]
    by_cases c : op = []
    · rw [if_pos c, c]; rfl
    · have hl := (splitL_len 32 op).2
      rw [if_neg c, fields_is op hop k (by omega), Option.bind_some, List.length_map]
      have := mv_l1 (splitL 32 op) (by omega) (fun p hp => Nat.le_trans (split_piece 32 op p hp) hop) ((splitL 32 op).length - 0) 0 k rfl (Nat.zero_le _) (by omega)
      rw [List.drop_zero] at this
      refine Eq.trans this ?_
      unfold optB
      have e : (op == []) = false := by simp [c]
      rw [e]; rfl
theorem nb_f {n : Int} (h : numB n = false) : n < 0 ∨ n > 2147483647 := by
  unfold numB at h
  simp at h
  omega
theorem nb_t {n : Int} (h : numB n = true) : 0 ≤ n ∧ n ≤ 2147483647 := by
  unfold numB at h
  simpa using h
theorem num_step {α : Type} (n : Int) (R F : α) : (if n < 0 then F else (if n > 2147483647 then F else R)) = if numB n = true then R else F := by
  cases c : numB n with
  | true => have := nb_t c; rw [if_neg (by omega), if_neg (by omega), if_pos rfl]
  | false =>
    rw [if_neg (show ¬ (false = true) by decide)]
    by_cases h : n < 0
    · rw [if_pos h]
    · rw [if_neg h, if_pos (by have := nb_f c; omega)]
theorem mv_is (a0 a1 a2 a3 : Int) (r mp o op t s v : List UInt8) (hr : r.length ≤ 2147483647) (hmp : mp.length ≤ 2147483647) (ho : o.length ≤ 2147483647) (hop : op.length ≤ 2147483647) (ht : t.length ≤ 2147483647) (hs : s.length ≤ 2147483647) (hv : v.length ≤ 2147483647) (k : Nat) (hk : 10000000000 ≤ k) :
    spec_mountValid.f k a0 a1 a2 a3 (toB r) (toB mp) (toB o) (toB op) (toB t) (toB s) (toB v) = some (mvB a0 a1 a2 a3 r mp o op t s v) := by
  obtain ⟨k, rfl⟩ : ∃ j, k = j + 5 := ⟨k - 5, by omega⟩
  unfold spec_mountValid.f
  rw [Option.bind_some]
  show spec_mountValid.l0 (k + 5) [a0, a1, a2, a3] 4 0 a0 a1 a2 a3 (toB r) (toB mp) (toB o) (toB op) (toB t) (toB s) (toB v) = _
  have w1 : wrap64 (0 + 1) = 1 := wr (x := 0 + 1) (by decide) (by decide)
  have w2 : wrap64 (1 + 1) = 2 := wr (x := 1 + 1) (by decide) (by decide)
  have w3 : wrap64 (2 + 1) = 3 := wr (x := 2 + 1) (by decide) (by decide)
  have w4 : wrap64 (3 + 1) = 4 := wr (x := 3 + 1) (by decide) (by decide)
  have r0 : rd [a0, a1, a2, a3] 0 = a0 := rfl
  have r1 : rd [a0, a1, a2, a3] 1 = a1 := rfl
  have r2 : rd [a0, a1, a2, a3] 2 = a2 := rfl
  have r3 : rd [a0, a1, a2, a3] 3 = a3 := rfl
  have rl : (([a0, a1, a2, a3] : List Int).length : Int) = 4 := rfl
  unfold mvB
  rw [spec_mountValid.l0, if_pos (by decide), if_pos (by decide), if_pos (by rw [rl]; decide), r0, w1, num_step]
  cases numB a0 with
  | false => rfl
  | true =>
  rw [if_pos rfl, Bool.true_and, spec_mountValid.l0, if_pos (by decide), if_pos (by decide), if_pos (by rw [rl]; decide), r1, w2, num_step]
  cases numB a1 with
  | false => rfl
  | true =>
  rw [if_pos rfl, Bool.true_and, spec_mountValid.l0, if_pos (by decide), if_pos (by decide), if_pos (by rw [rl]; decide), r2, w3, num_step]
  cases numB a2 with
  | false => rfl
  | true =>
  rw [if_pos rfl, Bool.true_and, spec_mountValid.l0, if_pos (by decide), if_pos (by decide), if_pos (by rw [rl]; decide), r3, w4, num_step]
  cases numB a3 with
  | false => rfl
  | true =>
  rw [if_pos rfl, Bool.true_and, spec_mountValid.l0, if_neg (by decide)]
  have jt := mv_j1 true a0 a1 a2 a3 (toB r) (toB mp) (toB o) op (toB t) (toB s) (toB v) hop k (by omega)
  rw [toB_list, toB_list, toB_list]
  by_cases c1 : r = []
  · rw [if_pos c1, jt, c1]; rfl
  rw [if_neg c1, show (r == []) = false by simp [c1]]
  by_cases c2 : mp = []
  · rw [if_pos c2, jt, c2]; rfl
  rw [if_neg c2, show (mp == []) = false by simp [c2]]
  by_cases c3 : s = []
  · rw [if_pos c3, jt, c3]; rfl
  rw [if_neg c3, show (s == []) = false by simp [c3]]
  rw [pr_is r true hr k (by omega), Option.bind_some]
  simp only [Bool.not_false, Bool.true_and]
  cases r.all (prB true) with
  | false => exact jt
  | true =>
  rw [if_pos rfl, pr_is mp true hmp k (by omega), Option.bind_some]
  cases mp.all (prB true) with
  | false => exact jt
  | true =>
  rw [if_pos rfl, pr_is s true hs k (by omega), Option.bind_some]
  cases s.all (prB true) with
  | false => exact jt
  | true =>
  rw [if_pos rfl, word_is o ho k (by omega), Option.bind_some]
  cases wordB o with
  | false => exact jt
  | true =>
  rw [if_pos rfl, word_is t ht k (by omega), Option.bind_some]
  cases wordB t with
  | false => exact jt
  | true =>
  rw [if_pos rfl, word_is v hv k (by omega), Option.bind_some, mv_j1 _ _ _ _ _ _ _ _ _ _ _ _ hop k (by omega)]
  cases wordB v <;> rfl
/-! ### lines -/
def dat (b : ByteArray) : List UInt8 := b.data.toList
def mvM (m : S23) : Bool := mvB m.f0 m.f1 m.f2 m.f3 (dat m.f4) (dat m.f5) (dat m.f6) (dat m.f7) (dat m.f8) (dat m.f9) (dat m.f10)
def toSpec (m : S23) : S62 := ⟨m.f0, m.f1, m.f2, m.f3, m.f4, m.f5, m.f6, m.f7, m.f8, m.f9, m.f10⟩
theorem rd_spec (l : List S23) (i : Nat) (h : i < l.length) : rd_T62 (l.map toSpec) (i : Int) = toSpec (l[i]'h) := by
  unfold rd_T62
  rw [Int.toNat_natCast, List.getD_eq_getElem?_getD, List.getElem?_map, List.getElem?_eq_getElem h]
  rfl
end Go.Proofs.YtokojamaigebaaaDoor.MtPure
