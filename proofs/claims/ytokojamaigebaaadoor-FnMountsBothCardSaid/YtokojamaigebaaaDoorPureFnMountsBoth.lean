/- FnMountsBoth, the plain law. -/
import Derived.Test.YtokojamaigebaaaDoorMtPure4
import Derived.Test.YtokojamaigebaaaDoorL8
set_option linter.unusedVariables false
set_option linter.unusedSimpArgs false
namespace Go.Proofs.YtokojamaigebaaaDoor.MtPure
open Go.RowKit Go.Proofs.YtokojamaigebaaaDoorW.PrintWords Go.Proofs.YtokojamaigebaaaDoorW.PrintLast Go.Proofs.YtokojamaigebaaaDoorW.PrintMore Go.Proofs.YtokojamaigebaaaDoor.Scan Go.Proofs.YtokojamaigebaaaDoor.ScanL Go.Proofs.YtokojamaigebaaaDoor.GivM Go.Proofs.YtokojamaigebaaaDoor.M Go.Proofs.YtokojamaigebaaaDoor.L Go.Proofs.YtokojamaigebaaaDoor.MtDoor Go.Proofs.YtokojamaigebaaaDoor.MtRow Go.Proofs.YtokojamaigebaaaDoor.MtLoop Go.Proofs.YtokojamaigebaaaDoor.M Go.Proofs.YtokojamaigebaaaDoor.MtFilt Go.Proofs.YtokojamaigebaaaDoor.DoorMt
open Go.Proofs.YtokojamaigebaaaDoorPt hiding toB_size toB_data
def atM (m : S23) (p : ByteArray) : S23 := ⟨m.f0, m.f1, m.f2, m.f3, m.f4, p, m.f6, m.f7, m.f8, m.f9, m.f10⟩
theorem len_one (keep : S23 → Bool × Bool) (m : S23) : (filt keep [m]).length = if (keep m).1 = true then 0 else 1 := by
  unfold filt
  by_cases c : (keep m).1 = true
  · rw [if_pos c, if_pos c]; rfl
  · rw [if_neg c, if_neg c]
    by_cases d : (keep m).2 = true
    · rw [if_pos d]; rfl
    · rw [if_neg d]; rfl
theorem both_keep (m : S23) (a b : ByteArray) : (kPre b (atM m a)).1 = (kPar a (atM m b)).1 := by
  obtain ⟨a, rfl⟩ := ex a
  obtain ⟨b, rfl⟩ := ex b
  have e1 : (⟨#[47]⟩ : ByteArray) = toB [47] := rfl
  have hb : ∀ x y : List UInt8, beg (toB x) (toB y) = Lib.hasPrefix x y := fun x y => rfl
  unfold kPre kPar atM
  simp only []
  rw [e1, toB_app, toB_app, hb, hb, toB_list, toB_list, beg_iff]
  cases b == [47] <;> cases b == a <;> cases Lib.hasPrefix a (b ++ [47]) <;> rfl
theorem fit_at {m : S23} (h : FitM m) {p : ByteArray} (hp : p.size ≤ 2147483647) : FitM (atM m p) := by
  obtain ⟨h4, h5, h6, h7, h8, h9, h10⟩ := h
  exact ⟨h4, hp, h6, h7, h8, h9, h10⟩
theorem both_j2 (m : S23) (a b s t : ByteArray) (x : Bool) (ha : a.size ≤ 2147483647) (hb : b.size ≤ 2147483647)
    (h : x = false → impl_Mounts.f s 3 [b] = some (filt (keepOf 3 [b]) [atM m a], 0) ∧ impl_Mounts.f t 2 [a] = some (filt (keepOf 2 [a]) [atM m b], 0)) : Ev (fun k => laws_FnMountsBoth.j2 k a b s t x) true := by
  refine ⟨1, fun k hk => ?_⟩
  obtain ⟨k, rfl⟩ : ∃ j, k = j + 1 := ⟨k - 1, by omega⟩
  simp only []
  rw [laws_FnMountsBoth.j2]
  cases x with
  | true => rw [if_pos rfl]
  | false =>
    obtain ⟨h1, h2⟩ := h rfl
    have e : (filt (keepOf 3 [b]) [atM m a]).length = (filt (keepOf 2 [a]) [atM m b]).length := by
      rw [len_one, len_one]
      show (if (kPre b (atM m a)).1 = true then 0 else 1) = if (kPar a (atM m b)).1 = true then 0 else 1
      rw [both_keep]
    rw [if_neg (by decide), h1, Option.bind_some, h2, Option.bind_some, if_pos rfl, if_pos rfl, if_pos (by simp only []; rw [e]), mounts_is]
    rfl
theorem okF3 (b : ByteArray) (hb : b.size ≤ 2147483647) : okF 3 [b] = true := by
  unfold okF
  rw [Bool.and_eq_true, Bool.and_eq_true]
  exact ⟨⟨rfl, rfl⟩, List.all_eq_true.2 fun p hp => by rw [List.mem_singleton.1 hp]; exact decide_eq_true hb⟩
theorem okF2 (b : ByteArray) (hb : b.size ≤ 2147483647) : okF 2 [b] = true := by
  unfold okF
  rw [Bool.and_eq_true, Bool.and_eq_true]
  exact ⟨⟨rfl, rfl⟩, List.all_eq_true.2 fun p hp => by rw [List.mem_singleton.1 hp]; exact decide_eq_true hb⟩
theorem both_j1 (m : S23) (a b : ByteArray) (x : Bool) (h : x = false → FitM m ∧ a.size ≤ 2147483647 ∧ b.size ≤ 2147483647) : Ev (fun k => laws_FnMountsBoth.j1 k a b x m.f0 m.f1 m.f2 m.f3 m.f4 m.f5 m.f6 m.f7 m.f8 m.f9 m.f10) true := by
  cases x with
  | true => exact ⟨1, fun k hk => by obtain ⟨k, rfl⟩ : ∃ j, k = j + 1 := ⟨k - 1, by omega⟩; simp only []; rw [laws_FnMountsBoth.j1, if_pos rfl]⟩
  | false =>
    obtain ⟨hf, ha, hb⟩ := h rfl
    obtain ⟨s, p, hs, hp⟩ := printed_is [atM m a] (fun y hy => by rw [List.mem_singleton.1 hy]; exact fit_at hf ha)
    obtain ⟨t, q, ht, hq⟩ := printed_is [atM m b] (fun y hy => by rw [List.mem_singleton.1 hy]; exact fit_at hf hb)
    refine Ev.succ (f := fun k => (laws_printed.f k [atM m a]).bind fun bt185 => (laws_printed.f k [atM m b]).bind fun bt190 => if bt185.2 = true then laws_FnMountsBoth.j2 k a b bt185.1 bt190.1 (!bt190.2) else laws_FnMountsBoth.j2 k a b bt185.1 bt190.1 true) (fun k => by rw [laws_FnMountsBoth.j1, if_neg (by decide)]; rfl) ?_
    refine Ev.bind hs ?_
    refine Ev.bind ht ?_
    simp only []
    cases p with
    | false => exact both_j2 m a b s t true ha hb (fun h => by cases h)
    | true =>
      simp only [if_true]
      refine both_j2 m a b s t (!q) ha hb (fun h => ?_)
      have hq1 : q = true := by cases q; cases h; rfl
      obtain ⟨p1, p2, p3, p4⟩ := hp rfl
      obtain ⟨q1, q2, q3, q4⟩ := hq hq1
      rw [p3, q3]
      exact ⟨read_is [atM m a] 3 [b] (okF3 b hb) p1 p2 p4, read_is [atM m b] 2 [a] (okF2 a ha) q1 q2 q4⟩
theorem both_j0 (m : S23) (a b : ByteArray) (x : Bool) (h : x = false → FitM m ∧ a.size ≤ 2147483647 ∧ b.size ≤ 2147483647) : Ev (fun k => laws_FnMountsBoth.j0 k a b x m.f0 m.f1 m.f2 m.f3 m.f4 m.f5 m.f6 m.f7 m.f8 m.f9 m.f10) true := by
  cases x with
  | true => exact ⟨1, fun k hk => by obtain ⟨k, rfl⟩ : ∃ j, k = j + 1 := ⟨k - 1, by omega⟩; simp only []; rw [laws_FnMountsBoth.j0, if_pos rfl]⟩
  | false =>
    obtain ⟨hf, ha, hb⟩ := h rfl
    obtain ⟨p, hp⟩ := cp_is a ha
    obtain ⟨q, hq⟩ := cp_is b hb
    refine Ev.succ (f := fun k => (laws_cleanPath.f k a).bind fun t178 => if t178 = true then (laws_cleanPath.f k b).bind fun t179 => laws_FnMountsBoth.j1 k a b (!t179) m.f0 m.f1 m.f2 m.f3 m.f4 m.f5 m.f6 m.f7 m.f8 m.f9 m.f10 else laws_FnMountsBoth.j1 k a b true m.f0 m.f1 m.f2 m.f3 m.f4 m.f5 m.f6 m.f7 m.f8 m.f9 m.f10) (fun k => by rw [laws_FnMountsBoth.j0, if_neg (by decide)]) ?_
    refine Ev.bind hp ?_
    cases p with
    | false => exact both_j1 m a b true (fun h => by cases h)
    | true =>
      simp only [if_true]
      refine Ev.bind hq ?_
      exact both_j1 m a b (!q) (fun _ => ⟨hf, ha, hb⟩)
theorem both_is (m : S23) (a b : ByteArray) : Ev (fun k => laws_FnMountsBoth.f k m.f0 m.f1 m.f2 m.f3 m.f4 m.f5 m.f6 m.f7 m.f8 m.f9 m.f10 a b) true := by
  obtain ⟨z, hz, hfit⟩ := fits2_is m.f0 m.f1 m.f2 m.f3 m.f4 m.f5 m.f6 m.f7 m.f8 m.f9 m.f10
  refine Ev.congr (f := fun k => if z = true then (if (a.size : Int) > 2147483647 then laws_FnMountsBoth.j0 k a b true m.f0 m.f1 m.f2 m.f3 m.f4 m.f5 m.f6 m.f7 m.f8 m.f9 m.f10 else laws_FnMountsBoth.j0 k a b (decide ((b.size : Int) > 2147483647)) m.f0 m.f1 m.f2 m.f3 m.f4 m.f5 m.f6 m.f7 m.f8 m.f9 m.f10) else laws_FnMountsBoth.j0 k a b true m.f0 m.f1 m.f2 m.f3 m.f4 m.f5 m.f6 m.f7 m.f8 m.f9 m.f10) (fun k => by unfold laws_FnMountsBoth.f; rw [hz, Option.bind_some]) ?_
  cases z with
  | false => exact both_j0 m a b true (fun h => by cases h)
  | true =>
    simp only [if_true]
    by_cases ca : (a.size : Int) > 2147483647
    · simp only [if_pos ca]
      exact both_j0 m a b true (fun h => by cases h)
    · simp only [if_neg ca]
      exact both_j0 m a b _ (fun h => ⟨hfit rfl, by omega, by have := of_decide_eq_false h; omega⟩)
end Go.Proofs.YtokojamaigebaaaDoor.MtPure
