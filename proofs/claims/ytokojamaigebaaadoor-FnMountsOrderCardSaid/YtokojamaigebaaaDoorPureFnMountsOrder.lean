/- FnMountsOrder, the plain law. -/
import Derived.Test.YtokojamaigebaaaDoorMtPure4
import Derived.Test.YtokojamaigebaaaDoorL10
set_option linter.unusedVariables false
set_option linter.unusedSimpArgs false
namespace Go.Proofs.YtokojamaigebaaaDoor.MtPure
open Go.RowKit Go.Proofs.YtokojamaigebaaaDoorW.PrintWords Go.Proofs.YtokojamaigebaaaDoorW.PrintLast Go.Proofs.YtokojamaigebaaaDoorW.PrintMore Go.Proofs.YtokojamaigebaaaDoor.Scan Go.Proofs.YtokojamaigebaaaDoor.ScanL Go.Proofs.YtokojamaigebaaaDoor.GivM Go.Proofs.YtokojamaigebaaaDoor.M Go.Proofs.YtokojamaigebaaaDoor.L Go.Proofs.YtokojamaigebaaaDoor.MtDoor Go.Proofs.YtokojamaigebaaaDoor.MtRow Go.Proofs.YtokojamaigebaaaDoor.MtLoop Go.Proofs.YtokojamaigebaaaDoor.MtFilt Go.Proofs.YtokojamaigebaaaDoor.DoorMt
open Go.Proofs.YtokojamaigebaaaDoorPt hiding toB_size toB_data
theorem fits1_go (l : List S23) (hl : l.length ≤ 2147483647) : ∀ (n i k : Nat), n = l.length - i → i ≤ l.length → n + 1 ≤ k → ∃ b, laws_zzFits1.l0 k l (l.length : Int) (i : Int) = some b ∧ (b = true → ∀ m ∈ l.drop i, FitM m)
  | n, i, 0, _, _, hk => by omega
  | n, i, k + 1, hn, hi, hk => by
    have e3 : wrap64 ((i : Int) + 1) = ((i + 1 : Nat) : Int) := by rw [wr (by omega) (by omega)]; omega
    rw [laws_zzFits1.l0]
    by_cases h : i < l.length
    · have hr : rd_T23 l (i : Int) = l[i]'h := by
        unfold rd_T23
        rw [Int.toNat_natCast, List.getD_eq_getElem?_getD, List.getElem?_eq_getElem h]
        rfl
      rw [if_pos (by omega), if_pos (by omega), if_pos (by omega), hr, e3, List.drop_eq_getElem_cons h]
      obtain ⟨b, hb, hf⟩ := fits2_is (l[i]'h).f0 (l[i]'h).f1 (l[i]'h).f2 (l[i]'h).f3 (l[i]'h).f4 (l[i]'h).f5 (l[i]'h).f6 (l[i]'h).f7 (l[i]'h).f8 (l[i]'h).f9 (l[i]'h).f10
      rw [hb, Option.bind_some]
      cases b with
      | false => exact ⟨false, rfl, fun h => by cases h⟩
      | true =>
        obtain ⟨b2, hb2, hf2⟩ := fits1_go l hl (l.length - (i + 1)) (i + 1) k rfl (by omega) (by omega)
        refine ⟨b2, hb2, fun h3 m hm => ?_⟩
        rcases List.mem_cons.1 hm with rfl | hm
        · exact hf rfl
        · exact hf2 h3 m hm
    · rw [if_neg (by omega), List.drop_eq_nil_of_le (by omega)]
      exact ⟨true, rfl, fun _ m hm => by simp at hm⟩
theorem fits1_is (l : List S23) : ∃ b, Ev (fun k => laws_zzFits1.f k l) b ∧ (b = true → ∀ m ∈ l, FitM m) := by
  by_cases c : (l.length : Int) > 2147483647
  · refine ⟨false, ⟨0, fun k _ => ?_⟩, fun h => by cases h⟩
    simp only []
    unfold laws_zzFits1.f
    rw [if_pos c]
  · obtain ⟨b, hb, hf⟩ := fits1_go l (by omega) (l.length - 0) 0 (l.length + 1) rfl (Nat.zero_le _) (by omega)
    refine ⟨b, Ev.of_mono (f := fun k => laws_zzFits1.f k l) (fun k => laws_zzFits1.mono _ _) (k0 := l.length + 1) ?_, fun h => by have := hf h; rwa [List.drop_zero] at this⟩
    show laws_zzFits1.f (l.length + 1) l = some b
    unfold laws_zzFits1.f
    rw [if_neg c]
    exact hb
theorem fits4_go (l : List ByteArray) (hl : l.length ≤ 2147483647) : ∀ (n i k : Nat), n = l.length - i → i ≤ l.length → n + 1 ≤ k → ∃ b, laws_zzFits4.l0 k l (l.length : Int) (i : Int) = some b ∧ (b = true → ∀ m ∈ l.drop i, m.size ≤ 2147483647)
  | n, i, 0, _, _, hk => by omega
  | n, i, k + 1, hn, hi, hk => by
    have e3 : wrap64 ((i : Int) + 1) = ((i + 1 : Nat) : Int) := by rw [wr (by omega) (by omega)]; omega
    rw [laws_zzFits4.l0]
    by_cases h : i < l.length
    · have hr : rdOf ByteArray.empty l (i : Int) = l[i]'h := by
        unfold rdOf
        rw [Int.toNat_natCast, List.getD_eq_getElem?_getD, List.getElem?_eq_getElem h]
        rfl
      rw [if_pos (by omega), if_pos (by omega), if_pos (by omega), hr, e3, List.drop_eq_getElem_cons h]
      by_cases c : ((l[i]'h).size : Int) > 2147483647
      · exact ⟨false, if_pos c, fun h => by cases h⟩
      · rw [if_neg c]
        obtain ⟨b2, hb2, hf2⟩ := fits4_go l hl (l.length - (i + 1)) (i + 1) k rfl (by omega) (by omega)
        refine ⟨b2, hb2, fun h3 m hm => ?_⟩
        rcases List.mem_cons.1 hm with rfl | hm
        · omega
        · exact hf2 h3 m hm
    · rw [if_neg (by omega), List.drop_eq_nil_of_le (by omega)]
      exact ⟨true, rfl, fun _ m hm => by simp at hm⟩
theorem fits3_is (kind : Int) (l : List ByteArray) : ∃ b, Ev (fun k => laws_zzFits3.f k kind l) b ∧ (b = true → ∀ m ∈ l, m.size ≤ 2147483647) := by
  have h4 : ∃ b, Ev (fun k => laws_zzFits4.f k l) b ∧ (b = true → ∀ m ∈ l, m.size ≤ 2147483647) := by
    by_cases c : (l.length : Int) > 2147483647
    · refine ⟨false, ⟨0, fun k _ => ?_⟩, fun h => by cases h⟩
      simp only []
      unfold laws_zzFits4.f
      rw [if_pos c]
    · obtain ⟨b, hb, hf⟩ := fits4_go l (by omega) (l.length - 0) 0 (l.length + 1) rfl (Nat.zero_le _) (by omega)
      refine ⟨b, Ev.of_mono (f := fun k => laws_zzFits4.f k l) (fun k => laws_zzFits4.mono _ _) (k0 := l.length + 1) ?_, fun h => by have := hf h; rwa [List.drop_zero] at this⟩
      show laws_zzFits4.f (l.length + 1) l = some b
      unfold laws_zzFits4.f
      rw [if_neg c]
      exact hb
  obtain ⟨b, ⟨k0, hb⟩, hf⟩ := h4
  refine ⟨b, ⟨k0, fun k hk => ?_⟩, hf⟩
  have := hb k hk
  simp only [] at this ⊢
  unfold laws_zzFits3.f
  rw [this, Option.bind_some]
  cases b <;> rfl
/-! ### the order -/
def diffM (a b : S23) : Bool := (!((a.f0) == b.f0) || (!((a.f1) == b.f1) || (!((a.f2) == b.f2) || (!((a.f3) == b.f3) || (!(((a.f4).toList) == b.f4.toList) || (!(((a.f5).toList) == b.f5.toList) || (!(((a.f6).toList) == b.f6.toList) || (!(((a.f7).toList) == b.f7.toList) || (!(((a.f8).toList) == b.f8.toList) || (!(((a.f9).toList) == b.f9.toList) || (!(((a.f10).toList) == b.f10.toList))))))))))))
theorem ba_eq {a b : ByteArray} (h : (a.toList == b.toList) = true) : a = b := by
  have := eq_of_beq h
  rw [Lib.toList_data, Lib.toList_data] at this
  apply ByteArray.ext
  exact Array.toList_inj.1 this
theorem diff_eq {a b : S23} (h : diffM a b = false) : a = b := by
  unfold diffM at h
  simp only [Bool.or_eq_false_iff, Bool.not_eq_false'] at h
  obtain ⟨h0, h1, h2, h3, h4, h5, h6, h7, h8, h9, h10⟩ := h
  obtain ⟨a0, a1, a2, a3, a4, a5, a6, a7, a8, a9, a10⟩ := a
  obtain ⟨b0, b1, b2, b3, b4, b5, b6, b7, b8, b9, b10⟩ := b
  simp only [] at *
  rw [eq_of_beq h0, eq_of_beq h1, eq_of_beq h2, eq_of_beq h3, ba_eq h4, ba_eq h5, ba_eq h6, ba_eq h7, ba_eq h8, ba_eq h9, ba_eq h10]
theorem diff_self (a : S23) : diffM a a = false := by unfold diffM; simp
theorem filt_sub (keep : S23 → Bool × Bool) : ∀ l : List S23, List.Sublist (filt keep l) l
  | [] => List.Sublist.slnil
  | m :: l => by
    unfold filt
    split
    · exact (filt_sub keep l).cons m
    · split
      · exact List.Sublist.cons_cons m (List.nil_sublist l)
      · exact (filt_sub keep l).cons_cons m
theorem rdm (l : List S23) (i : Nat) (h : i < l.length) : rd_T23 l (i : Int) = l[i]'h := by
  unfold rd_T23
  rw [Int.toNat_natCast, List.getD_eq_getElem?_getD, List.getElem?_eq_getElem h]
  rfl
theorem order_go (l got : List S23) (hl : l.length ≤ 1000) (hg : got.length ≤ 1000) : ∀ k : Nat,
    (∀ at_ i : Nat, at_ ≤ l.length → i ≤ got.length → (got.drop i).Sublist (l.drop at_) → (l.length - at_) + 2 * (got.length - i) + 1 ≤ k → laws_FnMountsOrder.l0 k l 0 (at_ : Int) got (got.length : Int) (i : Int) = some true) ∧
    (∀ (at_ i : Nat) (m : S23), at_ ≤ l.length → i < got.length → (m :: got.drop (i + 1)).Sublist (l.drop at_) → (l.length - at_) + 2 * (got.length - i) ≤ k → laws_FnMountsOrder.l1 k l 0 (at_ : Int) got (got.length : Int) (i : Int) m.f0 m.f1 m.f2 m.f3 m.f4 m.f5 m.f6 m.f7 m.f8 m.f9 m.f10 = some true)
  | 0 => ⟨fun at_ i _ _ _ hk => by omega, fun at_ i m _ hi _ hk => by omega⟩
  | k + 1 => by
    obtain ⟨ih0, ih1⟩ := order_go l got hl hg k
    constructor
    · intro at_ i ha hi hs hk
      rw [laws_FnMountsOrder.l0]
      by_cases h : i < got.length
      · rw [if_pos (by omega), if_pos (by omega), if_pos (by omega), rdm got i h]
        rw [List.drop_eq_getElem_cons h] at hs
        exact ih1 at_ i (got[i]'h) ha h hs (by omega)
      · rw [if_neg (by omega), if_pos rfl, mounts_is]
        rfl
    · intro at_ i m ha hi hs hk
      have e3 : wrap64 ((at_ : Int) + 1) = ((at_ + 1 : Nat) : Int) := by rw [wr (by omega) (by omega)]; omega
      have e4 : wrap64 ((i : Int) + 1) = ((i + 1 : Nat) : Int) := by rw [wr (by omega) (by omega)]; omega
      rw [laws_FnMountsOrder.l1]
      by_cases h : at_ < l.length
      · rw [if_pos (by omega), if_pos (by omega), rdm l at_ h, e3, e4]
        rw [List.drop_eq_getElem_cons h] at hs
        have hd : (!(((l[at_]'h).f0) == m.f0) || (!(((l[at_]'h).f1) == m.f1) || (!(((l[at_]'h).f2) == m.f2) || (!(((l[at_]'h).f3) == m.f3) || (!((((l[at_]'h).f4).toList) == m.f4.toList) || (!((((l[at_]'h).f5).toList) == m.f5.toList) || (!((((l[at_]'h).f6).toList) == m.f6.toList) || (!((((l[at_]'h).f7).toList) == m.f7.toList) || (!((((l[at_]'h).f8).toList) == m.f8.toList) || (!((((l[at_]'h).f9).toList) == m.f9.toList) || (!((((l[at_]'h).f10).toList) == m.f10.toList)))))))))))) = diffM (l[at_]'h) m := rfl
        rw [hd]
        cases c : diffM (l[at_]'h) m with
        | true =>
          rw [if_pos rfl]
          refine ih1 (at_ + 1) i m (by omega) hi ?_ (by omega)
          cases hs with
          | cons _ h2 => exact h2
          | cons_cons _ h2 => rw [diff_self] at c; cases c
        | false =>
          have he := diff_eq c
          rw [if_neg (by decide), if_neg (by omega)]
          refine ih0 (at_ + 1) (i + 1) (by omega) (by omega) ?_ (by omega)
          rw [he] at hs
          exact List.cons_sublist_cons.1 hs
      · rw [List.drop_eq_nil_of_le (show l.length ≤ at_ by omega)] at hs
        cases hs
theorem order_j1 (l : List S23) (t : ByteArray) (b : Bool) (kind : Int) (paths : List ByteArray) (h : b = false → ∃ got, impl_Mounts.f t kind paths = some (got, 0) ∧ got.Sublist l ∧ l.length ≤ 200) : Ev (fun k => laws_FnMountsOrder.j1 k l t b kind paths) true := by
  cases b with
  | true => exact ⟨1, fun k hk => by obtain ⟨k, rfl⟩ : ∃ j, k = j + 1 := ⟨k - 1, by omega⟩; simp only []; rw [laws_FnMountsOrder.j1, if_pos rfl]⟩
  | false =>
    obtain ⟨got, hg, hs, hl⟩ := h rfl
    have hgl := hs.length_le
    refine ⟨2000, fun k hk => ?_⟩
    obtain ⟨k, rfl⟩ : ∃ j, k = j + 1 := ⟨k - 1, by omega⟩
    simp only []
    rw [laws_FnMountsOrder.j1, if_neg (by decide), hg, Option.bind_some]
    exact (order_go l got (by omega) (by omega) k).1 0 0 (Nat.zero_le _) (Nat.zero_le _) (by rw [List.drop_zero, List.drop_zero]; exact hs) (by omega)
theorem okF_of {kind : Int} {paths : List ByteArray} (h0 : ¬ kind < 0) (h4 : ¬ kind > 4) (h1 : kind > 1 → paths.length = 1) (hl : paths.length ≤ 20) (hp : ∀ p ∈ paths, p.size ≤ 2147483647) : okF kind paths = true := by
  unfold okF
  rw [Bool.and_eq_true, Bool.and_eq_true]
  refine ⟨⟨?_, decide_eq_true (by omega)⟩, List.all_eq_true.2 fun p hp2 => decide_eq_true (hp p hp2)⟩
  have : kind = 0 ∨ kind = 1 ∨ kind = 2 ∨ kind = 3 ∨ kind = 4 := by omega
  rcases this with rfl | rfl | rfl | rfl | rfl
  · rfl
  · rfl
  · have := h1 (by decide); simp [this]
  · have := h1 (by decide); simp [this]
  · have := h1 (by decide); simp [this]
theorem order_j0 (l : List S23) (b : Bool) (kind : Int) (paths : List ByteArray) (h : b = false → (∀ m ∈ l, FitM m) ∧ ∀ p ∈ paths, p.size ≤ 2147483647) : Ev (fun k => laws_FnMountsOrder.j0 k l b kind paths) true := by
  cases b with
  | true => exact ⟨1, fun k hk => by obtain ⟨k, rfl⟩ : ∃ j, k = j + 1 := ⟨k - 1, by omega⟩; simp only []; rw [laws_FnMountsOrder.j0, if_pos rfl]⟩
  | false =>
    obtain ⟨hf, hp⟩ := h rfl
    obtain ⟨t, b, hb, hprop⟩ := printed_is l hf
    refine Ev.succ (f := fun k => (laws_printed.f k l).bind fun bt216 => (if bt216.2 = true then (if kind < 0 then (laws_FnMountsOrder.j1 k l bt216.1 true kind paths) else (if kind > 4 then (laws_FnMountsOrder.j1 k l bt216.1 true kind paths) else (if kind > 1 then (if (paths.length : Int) = 1 then (laws_FnMountsOrder.j1 k l bt216.1 (decide ((paths.length : Int) > 20)) kind paths) else (laws_FnMountsOrder.j1 k l bt216.1 true kind paths)) else (laws_FnMountsOrder.j1 k l bt216.1 (decide ((paths.length : Int) > 20)) kind paths)))) else (laws_FnMountsOrder.j1 k l bt216.1 true kind paths))) (fun k => by rw [laws_FnMountsOrder.j0, if_neg (by decide)]) ?_
    refine Ev.bind hb ?_
    simp only []
    cases b with
    | false => exact order_j1 l t true kind paths (fun h => by cases h)
    | true =>
      obtain ⟨p1, p2, p3, p4⟩ := hprop rfl
      simp only [if_true]
      by_cases c0 : kind < 0
      · simp only [if_pos c0]
        exact order_j1 l t true kind paths (fun h => by cases h)
      simp only [if_neg c0]
      by_cases c4 : kind > 4
      · simp only [if_pos c4]
        exact order_j1 l t true kind paths (fun h => by cases h)
      simp only [if_neg c4]
      have main : (kind > 1 → paths.length = 1) → Ev (fun k => laws_FnMountsOrder.j1 k l t (decide ((paths.length : Int) > 20)) kind paths) true := by
        intro h1
        refine order_j1 l t _ kind paths (fun h20 => ?_)
        have h20 := of_decide_eq_false h20
        have hok := okF_of c0 c4 h1 (by omega) hp
        refine ⟨filt (keepOf kind paths) l, ?_, filt_sub _ l, p1⟩
        rw [p3]
        exact read_is l kind paths hok p1 p2 p4
      by_cases c1 : kind > 1
      · simp only [if_pos c1]
        by_cases c2 : (paths.length : Int) = 1
        · simp only [if_pos c2]
          exact main (fun _ => by omega)
        · simp only [if_neg c2]
          exact order_j1 l t true kind paths (fun h => by cases h)
      · simp only [if_neg c1]
        exact main (fun h => absurd h c1)
theorem order_is (l : List S23) (kind : Int) (paths : List ByteArray) : Ev (fun k => laws_FnMountsOrder.f k l kind paths) true := by
  obtain ⟨b1, h1, f1⟩ := fits1_is l
  obtain ⟨b2, h2, f2⟩ := fits3_is kind paths
  unfold laws_FnMountsOrder.f
  refine Ev.bind h1 ?_
  cases b1 with
  | false => exact order_j0 l true kind paths (fun h => by cases h)
  | true =>
    simp only [if_true]
    refine Ev.bind h2 ?_
    exact order_j0 l (!b2) kind paths (fun h => ⟨f1 rfl, f2 (by cases b2; cases h; rfl)⟩)
end Go.Proofs.YtokojamaigebaaaDoor.MtPure
