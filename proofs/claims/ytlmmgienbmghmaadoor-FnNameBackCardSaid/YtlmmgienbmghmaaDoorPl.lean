/- Plain lemmas on byte lists, wraps and rounds; no condition, no program. -/
import Derived.Test.YtlmmgienbmghmaaDoorWWords
import Derived.Lib.Strings
import Derived.Lib.SmallJoins
set_option linter.unusedVariables false
set_option linter.unusedSimpArgs false
namespace Go.Proofs.YtlmmgienbmghmaaDoorPl
open Go.RowKit Go.Proofs.YtlmmgienbmghmaaDoorW.PrintWords

theorem wrap_in {x : Int} (h0 : -9223372036854775808 ≤ x) (h : x ≤ 9223372036854775807) : wrap64 x = x := by
  unfold wrap64
  omega
theorem wrap_succ {i : Int} (h0 : 0 ≤ i) (h : i < 9223372036854775807) : wrap64 (i + 1) = i + 1 := wrap_in (by omega) (by omega)

theorem bt_get (s : ByteArray) (i : Int) : bt s i = (bytesOf s).getD i.toNat 0 := by
  rw [← rd_bytesOf]
  rfl
theorem bytes_append (a b : ByteArray) : bytesOf (a ++ b) = bytesOf a ++ bytesOf b := by
  unfold bytesOf
  rw [Joins.data_append, List.map_append]
theorem bytes_range (s : ByteArray) : ∀ c ∈ bytesOf s, 0 ≤ c ∧ c ≤ 255 := by
  intro c hc
  unfold bytesOf at hc
  obtain ⟨b, _, rfl⟩ := List.mem_map.1 hc
  have := b.toNat_lt
  omega
theorem bytes_inj {a b : ByteArray} (h : bytesOf a = bytesOf b) : a = b := by
  unfold bytesOf at h
  have hinj : Function.Injective (fun b : UInt8 => (b.toNat : Int)) := by
    intro x y e
    have e' : x.toNat = y.toNat := by
      have e2 : (x.toNat : Int) = (y.toNat : Int) := e
      omega
    exact UInt8.toNat_inj.1 e'
  have := (List.map_inj_right (f := fun b : UInt8 => (b.toNat : Int)) (fun x y e => hinj e)).1 h
  have h2 : a.data = b.data := Array.toList_inj.1 this
  cases a; cases b; simp at h2; rw [h2]
theorem toList_eq_iff (a b : ByteArray) : a.toList = b.toList ↔ a = b := by
  constructor
  · intro h
    rw [Lib.toList_data, Lib.toList_data] at h
    have h2 : a.data = b.data := Array.toList_inj.1 h
    cases a; cases b; simp at h2; rw [h2]
  · rintro rfl; rfl
theorem bytes_ofNums (xs : List Int) (h : ∀ c ∈ xs, 0 ≤ c ∧ c ≤ 255) : bytesOf (strOfNums xs) = xs := by
  unfold bytesOf
  rw [strOfNums_data, List.map_map]
  induction xs with
  | nil => rfl
  | cons c cs ih =>
    rw [List.map_cons, ih (fun d hd => h d (List.mem_cons_of_mem _ hd))]
    have := h c List.mem_cons_self
    congr 1
    simp
    omega
theorem ofNums_append (xs ys : List Int) : strOfNums (xs ++ ys) = strOfNums xs ++ strOfNums ys := by
  unfold strOfNums
  rw [List.map_append]
  apply (toList_eq_iff _ _).1
  rw [Lib.toList_data, Lib.toList_data, Joins.data_append]
theorem bytes_drop (s : ByteArray) (i : Nat) (h : i < s.size) : (bytesOf s).drop i = bt s i :: (bytesOf s).drop (i + 1) := by
  have hl : i < (bytesOf s).length := by rw [bytesOf_length]; exact h
  rw [List.drop_eq_getElem_cons hl, bt_get]
  congr 1
  simp [List.getD_eq_getElem?_getD, List.getElem?_eq_getElem hl]
theorem bytes_extract (s : ByteArray) (a b : Nat) : bytesOf (s.extract a b) = ((bytesOf s).drop a).take (b - a) := by
  unfold bytesOf
  rw [Lib.extract_data, List.map_take, List.map_drop]
theorem ofNums_bytes (s : ByteArray) : strOfNums (bytesOf s) = s := bytes_inj (bytes_ofNums _ (bytes_range s))
end Go.Proofs.YtlmmgienbmghmaaDoorPl
