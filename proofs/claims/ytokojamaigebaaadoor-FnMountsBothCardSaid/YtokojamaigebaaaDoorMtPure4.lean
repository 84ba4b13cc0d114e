/- What the laws of mounts share: the text of mounts, the sanity line, that cleanPath ends. -/
import Derived.Test.YtokojamaigebaaaDoorMtPure3
import Derived.Test.YtokojamaigebaaaDoorL2
import Derived.Test.YtokojamaigebaaaDoorL7
set_option linter.unusedVariables false
set_option linter.unusedSimpArgs false
namespace Go.Proofs.YtokojamaigebaaaDoor.MtPure
open Go.RowKit Go.Proofs.YtokojamaigebaaaDoorW.PrintWords Go.Proofs.YtokojamaigebaaaDoorW.PrintLast Go.Proofs.YtokojamaigebaaaDoorW.PrintMore Go.Proofs.YtokojamaigebaaaDoor.Scan Go.Proofs.YtokojamaigebaaaDoor.ScanL Go.Proofs.YtokojamaigebaaaDoor.GivM Go.Proofs.YtokojamaigebaaaDoor.M Go.Proofs.YtokojamaigebaaaDoor.L Go.Proofs.YtokojamaigebaaaDoor.MtDoor Go.Proofs.YtokojamaigebaaaDoor.MtRow Go.Proofs.YtokojamaigebaaaDoor.MtLoop Go.Proofs.YtokojamaigebaaaDoor.MtFilt Go.Proofs.YtokojamaigebaaaDoor.DoorMt
open Go.Proofs.YtokojamaigebaaaDoorPt hiding toB_size toB_data
theorem Ev.of_mono {α : Type} {f : Nat → Option α} (h : ∀ k, LeO (f k) (f (k + 1))) {k0 : Nat} {r : α} (e : f k0 = some r) : Ev f r := by
  refine ⟨k0, fun k hk => ?_⟩
  obtain ⟨d, rfl⟩ : ∃ d, k = k0 + d := ⟨k - k0, by omega⟩
  clear hk
  induction d with
  | zero => exact e
  | succ d ih => exact h _ _ ih
/-! ### mountsTo, printed -/
theorem to_go (l : List S23) (hl : l.length ≤ 200) : ∀ (n i k : Nat), n = l.length - i → i ≤ l.length → n + 1 ≤ k → laws_mountsTo.l0 k ((l.take i).map toSpec) l (l.length : Int) (i : Int) = some (l.map toSpec)
  | n, i, 0, _, _, hk => by omega
  | n, i, k + 1, hn, hi, hk => by
    have e3 : wrap64 ((i : Int) + 1) = ((i + 1 : Nat) : Int) := by rw [wr (by omega) (by omega)]; omega
    rw [laws_mountsTo.l0]
    by_cases h : i < l.length
    · have hr : rd_T23 l (i : Int) = l[i]'h := by
        unfold rd_T23
        rw [Int.toNat_natCast, List.getD_eq_getElem?_getD, List.getElem?_eq_getElem h]
        rfl
      have e : (l.take (i + 1)).map toSpec = (l.take i).map toSpec ++ [toSpec (l[i]'h)] := by
        rw [List.take_add_one, List.getElem?_eq_getElem h, List.map_append]
        rfl
      have ih := to_go l hl (l.length - (i + 1)) (i + 1) k rfl (by omega) (by omega)
      rw [e] at ih
      rw [if_pos (by omega), if_pos (by omega), if_pos (by omega), if_pos (by rw [List.length_map, List.length_take]; omega), hr, e3]
      exact ih
    · rw [if_neg (by omega), List.take_of_length_le (by omega)]
theorem to_is (l : List S23) (hl : l.length ≤ 200) (k : Nat) (hk : 201 ≤ k) : laws_mountsTo.f k l = some (l.map toSpec) := by
  unfold laws_mountsTo.f
  exact to_go l hl (l.length - 0) 0 k rfl (Nat.zero_le _) (by omega)
theorem printed_is (l : List S23) (hf : ∀ m ∈ l, FitM m) : ∃ t b, Ev (fun k => laws_printed.f k l) (t, b) ∧ (b = true → l.length ≤ 200 ∧ (∀ m ∈ l, mvM m = true) ∧ t = toB (l.flatMap fun m => lineM m ++ [10]) ∧ (l.flatMap fun m => lineM m ++ [10]).length ≤ 60000) := by
  by_cases c : (l.length : Int) > 200
  · refine ⟨(⟨#[]⟩ : ByteArray), false, ⟨0, fun k _ => ?_⟩, fun h => by cases h⟩
    simp only []
    unfold laws_printed.f
    rw [if_pos c]
  · have hl : l.length ≤ 200 := by omega
    by_cases a : l.all mvM = true
    · refine ⟨toB (l.flatMap fun m => lineM m ++ [10]), decide ((l.flatMap fun m => lineM m ++ [10]).length ≤ 60000), ⟨20000000000, fun k hk => ?_⟩, fun h => ⟨hl, List.all_eq_true.1 a, rfl, of_decide_eq_true h⟩⟩
      simp only []
      unfold laws_printed.f
      rw [if_neg c, to_is l hl k (by omega), Option.bind_some, print_is l hl hf k hk, if_pos a, Option.bind_some]
      simp only [if_true]
      rw [toB_size]
      congr 2
      by_cases h : (l.flatMap fun m => lineM m ++ [10]).length ≤ 60000
      · rw [decide_eq_true h, decide_eq_true (by omega)]
      · rw [decide_eq_false h, decide_eq_false (by omega)]
    · refine ⟨toB [], false, ⟨20000000000, fun k hk => ?_⟩, fun h => by cases h⟩
      simp only []
      unfold laws_printed.f
      rw [if_neg c, to_is l hl k (by omega), Option.bind_some, print_is l hl hf k hk, if_neg a, Option.bind_some]
      rfl
/-- What is read of a printed text. -/
theorem read_is (l : List S23) (kind : Int) (paths : List ByteArray) (hok : okF kind paths = true) (hl : l.length ≤ 200) (h : ∀ m ∈ l, mvM m = true) (ht : (l.flatMap fun m => lineM m ++ [10]).length ≤ 60000) :
    impl_Mounts.f (toB (l.flatMap fun m => lineM m ++ [10])) kind paths = some (filt (keepOf kind paths) l, 0) := by
  unfold impl_Mounts.f
  rw [if_pos hok, toB_data, run_text l h ht, Option.bind_some, if_pos (by omega)]
/-! ### the sanity line -/
def sane : S23 := ⟨36, 35, 98, 0, ⟨#[47, 109, 110, 116, 49]⟩, ⟨#[47, 109, 110, 116, 50]⟩, ⟨#[114, 119, 44, 110, 111, 97, 116, 105, 109, 101]⟩, ⟨#[109, 97, 115, 116, 101, 114, 58, 49]⟩, ⟨#[101, 120, 116, 51]⟩, ⟨#[47, 100, 101, 118, 47, 114, 111, 111, 116]⟩, ⟨#[114, 119, 44, 101, 114, 114, 111, 114, 115, 61, 99, 111, 110, 116, 105, 110, 117, 101]⟩⟩
theorem sane_run : runO rowL [51, 54, 32, 51, 53, 32, 57, 56, 58, 48, 32, 47, 109, 110, 116, 49, 32, 47, 109, 110, 116, 50, 32, 114, 119, 44, 110, 111, 97, 116, 105, 109, 101, 32, 109, 97, 115, 116, 101, 114, 58, 49, 32, 45, 32, 101, 120, 116, 51, 32, 47, 100, 101, 118, 47, 114, 111, 111, 116, 32, 114, 119, 44, 101, 114, 114, 111, 114, 115, 61, 99, 111, 110, 116, 105, 110, 117, 101, 10] = some [sane] := by kernel_rfl
theorem sane_read : impl_Mounts.f (⟨#[51, 54, 32, 51, 53, 32, 57, 56, 58, 48, 32, 47, 109, 110, 116, 49, 32, 47, 109, 110, 116, 50, 32, 114, 119, 44, 110, 111, 97, 116, 105, 109, 101, 32, 109, 97, 115, 116, 101, 114, 58, 49, 32, 45, 32, 101, 120, 116, 51, 32, 47, 100, 101, 118, 47, 114, 111, 111, 116, 32, 114, 119, 44, 101, 114, 114, 111, 114, 115, 61, 99, 111, 110, 116, 105, 110, 117, 101, 10]⟩ : ByteArray) 0 [] = some ([sane], 0) := by
  unfold impl_Mounts.f
  rw [if_pos (by decide)]
  refine (congrArg (fun o => Option.bind o fun zs => if zs.length ≤ 1000000 then some (filt (keepOf 0 []) zs, (0 : Int)) else none) sane_run).trans ?_
  rfl
theorem mounts_is : laws_mounts.f = some true := by
  unfold laws_mounts.f laws_all.f
  rw [Option.bind_some, sane_read, Option.bind_some]
  decide +kernel
/-! ### cleanPath ends -/
theorem lp_go (l : List UInt8) (hl : l.length ≤ 2147483647) : ∀ (n i k : Nat), n = l.length - i → i ≤ l.length → n + 1 ≤ k → ∃ r, laws_printable.l0 k (toB l) (l.length : Int) (i : Int) = some r
  | n, i, 0, _, _, hk => by omega
  | n, i, k + 1, hn, hi, hk => by
    have e3 : wrap64 ((i : Int) + 1) = ((i + 1 : Nat) : Int) := by rw [wr (by omega) (by omega)]; omega
    rw [laws_printable.l0]
    by_cases h : i < l.length
    · rw [if_pos (by omega), if_pos (by omega), if_pos (by rw [toB_size]; omega), e3]
      by_cases c1 : bt (toB l) (i : Int) < 32
      · exact ⟨_, if_pos c1⟩
      · rw [if_neg c1]
        by_cases c2 : bt (toB l) (i : Int) > 126
        · exact ⟨_, if_pos c2⟩
        · rw [if_neg c2]
          exact lp_go l hl (l.length - (i + 1)) (i + 1) k rfl (by omega) (by omega)
    · exact ⟨true, if_neg (by omega)⟩
theorem cp_go (l : List UInt8) (hl : l.length ≤ 2147483647) : ∀ (n : Nat) (i k : Nat) (x : ByteArray), i + n = l.length + 1 → x.size ≤ i → 2 * n + 1 ≤ k → ∃ r, laws_cleanPath.l0 k (toB l) x (i : Int) = some r
  | n, i, 0, x, _, _, hk => by omega
  | 0, i, k + 1, x, hn, hx, hk => ⟨true, by rw [laws_cleanPath.l0, if_neg (by rw [toB_size]; omega)]⟩
  | n + 1, i, k + 1, x, hn, hx, hk => by
    have e3 : wrap64 ((i : Int) + 1) = ((i + 1 : Nat) : Int) := by rw [wr (by omega) (by omega)]; omega
    obtain ⟨k, rfl⟩ : ∃ j, k = j + 1 := ⟨k - 1, by omega⟩
    rw [laws_cleanPath.l0, if_pos (by rw [toB_size]; omega)]
    have nil : (⟨#[]⟩ : ByteArray).size = 0 := rfl
    have jt : ∃ r, laws_cleanPath.j2 (k + 1) (toB l) x (i : Int) true = some r := by
      rw [laws_cleanPath.j2, if_pos rfl, e3]
      by_cases c1 : (toB l).toList = [47]
      · rw [if_pos c1]
        exact cp_go l hl n (i + 1) k _ (by omega) (by rw [nil]; omega) (by omega)
      · rw [if_neg c1]
        by_cases c2 : x.toList = []
        · exact ⟨_, if_pos c2⟩
        · rw [if_neg c2]
          by_cases c3 : x.toList = [46]
          · exact ⟨_, if_pos c3⟩
          · rw [if_neg c3]
            by_cases c4 : x.toList = [46, 46]
            · exact ⟨_, if_pos c4⟩
            · rw [if_neg c4]
              exact cp_go l hl n (i + 1) k _ (by omega) (by rw [nil]; omega) (by omega)
    by_cases c : i = l.length
    · rw [if_pos (by rw [toB_size]; omega)]
      exact jt
    · rw [if_neg (by rw [toB_size]; omega), if_pos (by omega), if_pos (by rw [toB_size]; omega)]
      cases cb : (bt (toB l) (i : Int) == 47) with
      | true => exact jt
      | false =>
        have hlt : i < l.length := by omega
        have e5 : (toB l).extract i (i + 1) = toB [l[i]'hlt] := by rw [toB_ext, show i + 1 - i = 1 by omega, bt_drop l i hlt]; rfl
        rw [laws_cleanPath.j2, if_neg (by decide), e3, if_pos (by omega), if_pos (by omega), if_pos (by rw [toB_size]; omega), Int.toNat_natCast, Int.toNat_natCast, e5, if_pos (by rw [toB_size, List.length_singleton]; omega)]
        exact cp_go l hl n (i + 1) k _ (by omega) (by rw [ByteArray.size_append, toB_size, List.length_singleton]; omega) (by omega)
theorem cp_is (a : ByteArray) (ha : a.size ≤ 2147483647) : ∃ r, Ev (fun k => laws_cleanPath.f k a) r := by
  obtain ⟨l, rfl⟩ := ex a
  rw [toB_size] at ha
  obtain ⟨p, hp⟩ := lp_go l ha (l.length - 0) 0 (2 * l.length + 10) rfl (Nat.zero_le _) (by omega)
  have j0 : ∀ b, ∃ r, laws_cleanPath.j0 (2 * l.length + 10) (toB l) b = some r := by
    intro b
    rw [laws_cleanPath.j0]
    cases b with
    | true => exact ⟨_, rfl⟩
    | false =>
      rw [if_neg (by decide)]
      by_cases c : l = []
      · subst c
        exact ⟨true, by rw [laws_cleanPath.l0, if_neg (by rw [toB_size]; decide)]⟩
      · have hpos := List.length_pos_iff.2 c
        exact cp_go l ha l.length 1 (2 * l.length + 9) _ (by omega) (by exact Nat.zero_le _) (by omega)
  have : ∃ r, laws_cleanPath.f (2 * l.length + 10) (toB l) = some r := by
    unfold laws_cleanPath.f laws_printable.f
    rw [toB_size]
    have hp' : laws_printable.l0 (2 * l.length + 10) (toB l) (l.length : Int) 0 = some p := hp
    rw [hp', Option.bind_some, toB_list]
    cases p with
    | false => exact j0 true
    | true =>
      rw [if_pos rfl]
      by_cases c : l = []
      · rw [if_pos c]; exact j0 true
      · have hpos := List.length_pos_iff.2 c
        rw [if_neg c, if_pos (by omega)]
        by_cases c1 : bt (toB l) 0 = 47
        · rw [if_pos c1]
          by_cases c2 : l = [47]
          · rw [if_pos c2]; exact j0 _
          · have e : wrap64 ((l.length : Int) - 1) = ((l.length : Int) - 1) := wr (by omega) (by omega)
            rw [if_neg c2, e, if_pos (by omega), if_pos (by omega)]
            by_cases c3 : bt (toB l) ((l.length : Int) - 1) = 47
            · rw [if_pos c3]; exact j0 _
            · rw [if_neg c3]; exact j0 _
        · rw [if_neg c1]; exact j0 true
  obtain ⟨r, hr⟩ := this
  exact ⟨r, Ev.of_mono (f := fun k => laws_cleanPath.f k (toB l)) (fun k => laws_cleanPath.mono _ _) hr⟩
/-! ### sizes -/
theorem fits2_is (a0 a1 a2 a3 : Int) (b4 b5 b6 b7 b8 b9 b10 : ByteArray) : ∃ b, laws_zzFits2.f a0 a1 a2 a3 b4 b5 b6 b7 b8 b9 b10 = some b ∧ (b = true → FitM ⟨a0, a1, a2, a3, b4, b5, b6, b7, b8, b9, b10⟩) := by
  unfold laws_zzFits2.f
  by_cases c4 : (b4.size : Int) > 2147483647
  · exact ⟨false, if_pos c4, fun h => by cases h⟩
  rw [if_neg c4]
  by_cases c5 : (b5.size : Int) > 2147483647
  · exact ⟨false, if_pos c5, fun h => by cases h⟩
  rw [if_neg c5]
  by_cases c6 : (b6.size : Int) > 2147483647
  · exact ⟨false, if_pos c6, fun h => by cases h⟩
  rw [if_neg c6]
  by_cases c7 : (b7.size : Int) > 2147483647
  · exact ⟨false, if_pos c7, fun h => by cases h⟩
  rw [if_neg c7]
  by_cases c8 : (b8.size : Int) > 2147483647
  · exact ⟨false, if_pos c8, fun h => by cases h⟩
  rw [if_neg c8]
  by_cases c9 : (b9.size : Int) > 2147483647
  · exact ⟨false, if_pos c9, fun h => by cases h⟩
  rw [if_neg c9]
  by_cases c10 : (b10.size : Int) > 2147483647
  · exact ⟨false, if_pos c10, fun h => by cases h⟩
  rw [if_neg c10]
  refine ⟨true, rfl, fun _ => ?_⟩
  unfold FitM
  simp only []
  omega
/-! ### the filters of paths -/
theorem beg_iff (a b : List UInt8) : Lib.hasPrefix (a ++ [47]) (b ++ [47]) = ((b == a) || Lib.hasPrefix a (b ++ [47])) := by
  have h : (Lib.hasPrefix (a ++ [47]) (b ++ [47]) = true) ↔ (((b == a) || Lib.hasPrefix a (b ++ [47])) = true) := by
    rw [Bool.or_eq_true, beq_iff_eq]
    unfold Lib.hasPrefix
    rw [List.isPrefixOf_iff_prefix, List.isPrefixOf_iff_prefix]
    constructor
    · rintro ⟨t, ht⟩
      rcases List.eq_nil_or_concat t with rfl | ⟨t', x, rfl⟩
      · rw [List.append_nil] at ht
        exact .inl (List.append_cancel_right ht)
      · rw [List.concat_eq_append, ← List.append_assoc] at ht
        have := (List.append_inj' ht rfl).1
        exact .inr ⟨t', this⟩
    · rintro (rfl | ⟨t, ht⟩)
      · exact List.prefix_refl _
      · exact ⟨t ++ [47], by rw [← List.append_assoc, ht]⟩
  cases h1 : Lib.hasPrefix (a ++ [47]) (b ++ [47]) <;> cases h2 : ((b == a) || Lib.hasPrefix a (b ++ [47])) <;> simp_all
end Go.Proofs.YtokojamaigebaaaDoor.MtPure
