/- What the laws of mounts share: the text of mounts, the sanity line, that cleanPath ends. -/
import Derived.Test.YtokojamaigebaaaDoorMtPure3
import Derived.Test.YtokojamaigebaaaDoorL2
import Derived.Test.YtokojamaigebaaaDoorL7
set_option linter.unusedVariables false
set_option linter.unusedSimpArgs false
namespace Go.Proofs.YtokojamaigebaaaDoor.MtPure
open Go.RowKit Go.Proofs.YtokojamaigebaaaDoorW.PrintWords Go.Proofs.YtokojamaigebaaaDoorW.PrintLast Go.Proofs.YtokojamaigebaaaDoorW.PrintMore Go.Proofs.YtokojamaigebaaaDoor.Scan Go.Proofs.YtokojamaigebaaaDoor.ScanL Go.Proofs.YtokojamaigebaaaDoor.GivM Go.Proofs.YtokojamaigebaaaDoor.M Go.Proofs.YtokojamaigebaaaDoor.L Go.Proofs.YtokojamaigebaaaDoor.MtDoor Go.Proofs.YtokojamaigebaaaDoor.MtRow Go.Proofs.YtokojamaigebaaaDoor.MtLoop Go.Proofs.YtokojamaigebaaaDoor.MtFilt Go.Proofs.YtokojamaigebaaaDoor.DoorMt
open Go.Proofs.YtokojamaigebaaaDoorPt hiding toB_size toB_data
theorem Ev.of_mono {α : Type} {f : Nat → Option α} (h : ∀ k, LeO (f k) (f (k + 1))) {k0 : Nat} {r : α} (e : f k0 = some r) : Ev f r := by
  refine ⟨k0, fun k hk => ?_⟩
  obtain ⟨d, rfl⟩ : ∃ d, k = k0 + d := ⟨k - k0, by omega⟩
  clear hk
  induction d with
  | zero => exact e
  | succ d ih => exact h _ _ ih
/-! ### mountsTo, printed -/
theorem to_go (l : List S23) (hl : l.length ≤ 200) : ∀ (n i k : Nat), n = l.length - i → i ≤ l.length → n + 1 ≤ k → laws_mountsTo.l0 k ((l.take i).map toSpec) l (l.length : Int) (i : Int) = some (l.map toSpec)
  | n, i, 0, _, _, hk => by omega
  | n, i, k + 1, hn, hi, hk => by
    have e3 : wrap64 ((i : Int) + 1) = ((i + 1 : Nat) : Int) := by rw [wr (by omega) (by omega)]; omega
    rw [laws_mountsTo.l0]
    by_cases h : i < l.length
    · have hr : rd_T23 l (i : Int) = l[i]'h := by
        unfold rd_T23
        rw [Int.toNat_natCast, List.getD_eq_getElem?_getD, List.getElem?_eq_getElem h]
        rfl
      have e : (l.take (i + 1)).map toSpec = (l.take i).map toSpec ++ [toSpec (l[i]'h)] := by
        rw [List.take_add_one, List.getElem?_eq_getElem h, List.map_append]
        rfl
      have ih := to_go l hl (l.length - (i + 1)) (i + 1) k rfl (by omega) (by omega)
      rw [e] at ih
      rw [if_pos (by omega), if_pos (by omega), if_pos (by omega), if_pos (by rw [List.length_map, List.length_take]; omega), hr, e3]
      exact ih
    · rw [if_neg (by omega), List.take_of_length_le (by omega)]
theorem to_is (l : List S23) (hl : l.length ≤ 200) (k : Nat) (hk : 201 ≤ k) : laws_mountsTo.f k l = some (l.map toSpec) := by
  unfold laws_mountsTo.f
  exact to_go l hl (l.length - 0) 0 k rfl (Nat.zero_le _) (by omega)
theorem printed_is (l : List S23) (hf : ∀ m ∈ l, FitM m) : ∃ t b, Ev (fun k => laws_printed.f k l) (t, b) ∧ (b = true → l.length ≤ 200 ∧ (∀ m ∈ l, mvM m = true) ∧ t = toB (l.flatMap fun m => lineM m ++ [10]) ∧ (l.flatMap fun m => lineM m ++ [10]).length ≤ 60000) := by
  by_cases c : (l.length : Int) > 200
  · refine ⟨(⟨#[]⟩ : ByteArray), false, ⟨0, fun k _ => ?_⟩, fun h => by cases h⟩
    simp only []
    unfold laws_printed.f
    rw [if_pos c]
  · have hl : l.length ≤ 200 := by omega
    by_cases a : l.all mvM = true
    · refine ⟨toB (l.flatMap fun m => lineM m ++ [10]), decide ((l.flatMap fun m => lineM m ++ [10]).length ≤ 60000), ⟨20000000000, fun k hk => ?_⟩, fun h => ⟨hl, List.all_eq_true.1 a, rfl, of_decide_eq_true h⟩⟩
      simp only []
      unfold laws_printed.f
      rw [if_neg c, to_is l hl k (by omega), Option.bind_some, print_is l hl hf k hk, if_pos a, Option.bind_some]
      simp only [if_true]
      rw [toB_size]
      congr 2
      by_cases h : (l.flatMap fun m => lineM m ++ [10]).length ≤ 60000
      · rw [decide_eq_true h, decide_eq_true (by omega)]
      · rw [decide_eq_false h, decide_eq_false (by omega)]
    · refine ⟨toB [], false, ⟨20000000000, fun k hk => ?_⟩, fun h => by cases h⟩
      simp only []
      unfold laws_printed.f
      rw [if_neg c, to_is l hl k (by omega), Option.bind_some, print_is l hl hf k hk, if_neg a, Option.bind_some]
      rfl
/-- What is read of a printed text. -/
theorem read_is (l : List S23) (kind : Int) (paths : List ByteArray) (hok : okF kind paths = true) (hl : l.length ≤ 200) (h : ∀ m ∈ l, mvM m = true) (ht : (l.flatMap fun m => lineM m ++ [10]).length ≤ 60000) :
    impl_Mounts.f (toB (l.flatMap fun m => lineM m ++ [10])) kind paths = some (filt (keepOf kind paths) l, 0) := by
  unfold impl_Mounts.f
  rw [if_pos hok, toB_data, run_text l h ht, Option.bind_some, if_pos (by omega)]
/-! ### the sanity line -/
def sane : S23 := ⟨36, 35, 98, 0, ⟨#[47, 109, 110, 116, 49]⟩, ⟨#[47, 109, 110, 116, 50]⟩, ⟨#[114, 119, 44, 110, 111, 97, 116, 105, 109, 101]⟩, ⟨#[109, 97, 115, 116, 101, 114, 58, 49]⟩, ⟨#[101, 120, 116, 51]⟩, ⟨#[47, 100, 101, 118, 47, 114, 111, 111, 116]⟩, ⟨#[114, 119, 44, 101, 114, 114, 111, 114, 115, 61, 99, 111, 110, 116, 105, 110, 117, 101]⟩⟩
theorem sane_run : runO rowL [51, 54, 32, 51, 53, 32, 57, 56, 58, 48, 32, 47, 109, 110, 116, 49, 32, 47, 109, 110, 116, 50, 32, 114, 119, 44, 110, 111, 97, 116, 105, 109, 101, 32, 109, 97, 115, 116, 101, 114, 58, 49, 32, 45, 32, 101, 120, 116, 51, 32, 47, 100, 101, 118, 47, 114, 111, 111, 116, 32, 114, 119, 44, 101, 114, 114, 111, 114, 115, 61, 99, 111, 110, 116, 105, 110, 117, 101, 10] = some [sane] := by kernel_rfl
theorem sane_read : impl_Mounts.f (⟨#[51, 54, 32, 51, 53, 32, 57, 56, 58, 48, 32, 47, 109, 110, 116, 49, 32, 47, 109, 110, 116, 50, 32, 114, 119, 44, 110, 111, 97, 116, 105, 109, 101, 32, 109, 97, 115, 116, 101, 114, 58, 49, 32, 45, 32, 101, 120, 116, 51, 32, 47, 100, 101, 118, 47, 114, 111, 111, 116, 32, 114, 119, 44, 101, 114, 114, 111, 114, 115, 61, 99, 111, 110, 116, 105, 110, 117, 101, 10]⟩ : ByteArray) 0 [] = some ([sane], 0) := by
  unfold impl_Mounts.f
  rw [if_pos (by decide)]
  refine (congrArg (fun o => Option.bind o fun zs => if zs.length ≤ 1000000 then some (filt (keepOf 0 []) zs, (0 : Int)) else none) sane_run).trans ?_
  rfl
theorem mounts_is : laws_mounts.f = some true := by
  unfold laws_mounts.f laws_all.f
  rw [Option.bind_some, sane_read, Option.bind_some]
  decide +kernel
/-! ### cleanPath ends -/
/-! ### sizes -/
theorem fits2_is (a0 a1 a2 a3 : Int) (b4 b5 b6 b7 b8 b9 b10 : ByteArray) : ∃ b, laws_zzFits2.f a0 a1 a2 a3 b4 b5 b6 b7 b8 b9 b10 = some b ∧ (b = true → FitM ⟨a0, a1, a2, a3, b4, b5, b6, b7, b8, b9, b10⟩) := by
  unfold laws_zzFits2.f
  by_cases c4 : (b4.size : Int) > 2147483647
  · exact ⟨false, if_pos c4, fun h => by cases h⟩
  rw [if_neg c4]
  by_cases c5 : (b5.size : Int) > 2147483647
  · exact ⟨false, if_pos c5, fun h => by cases h⟩
  rw [if_neg c5]
  by_cases c6 : (b6.size : Int) > 2147483647
  · exact ⟨false, if_pos c6, fun h => by cases h⟩
  rw [if_neg c6]
  by_cases c7 : (b7.size : Int) > 2147483647
  · exact ⟨false, if_pos c7, fun h => by cases h⟩
  rw [if_neg c7]
  by_cases c8 : (b8.size : Int) > 2147483647
  · exact ⟨false, if_pos c8, fun h => by cases h⟩
  rw [if_neg c8]
  by_cases c9 : (b9.size : Int) > 2147483647
  · exact ⟨false, if_pos c9, fun h => by cases h⟩
  rw [if_neg c9]
  by_cases c10 : (b10.size : Int) > 2147483647
  · exact ⟨false, if_pos c10, fun h => by cases h⟩
  rw [if_neg c10]
  refine ⟨true, rfl, fun _ => ?_⟩
  unfold FitM
  simp only []
  omega
/-! ### the filters of paths -/
end Go.Proofs.YtokojamaigebaaaDoor.MtPure
