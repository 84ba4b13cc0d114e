/- impl.Mounts in the print's form: what it answers of texts of mounts, and its contract. -/
import Derived.Test.YtokojamaigebaaaDoorMtRow2
set_option linter.unusedVariables false
set_option linter.unusedSimpArgs false
namespace Go.Proofs.YtokojamaigebaaaDoor.MtDoor
open Go.RowKit Go.Proofs.YtokojamaigebaaaDoorW.PrintWords Go.Proofs.YtokojamaigebaaaDoorW.PrintLast Go.Proofs.YtokojamaigebaaaDoorW.PrintMore Go.Proofs.YtokojamaigebaaaDoor.Scan Go.Proofs.YtokojamaigebaaaDoor.ScanL Go.Proofs.YtokojamaigebaaaDoor.GivM Go.Proofs.YtokojamaigebaaaDoor.GivIdx Go.Proofs.YtokojamaigebaaaDoor.M Go.Proofs.YtokojamaigebaaaDoor.U Go.Proofs.YtokojamaigebaaaDoor.MtLoop Go.Proofs.YtokojamaigebaaaDoor.MtFilt Go.Proofs.YtokojamaigebaaaDoor.DoorMt Go.Proofs.YtokojamaigebaaaDoor.MtRow
open Go.Proofs.YtokojamaigebaaaDoorPt hiding toB_size toB_data
theorem rd_map (ps : List (List UInt8)) (i : Nat) : rdOf ByteArray.empty (ps.map toB) (i : Int) = toB (ps.getD i []) := by
  unfold rdOf
  rw [Int.toNat_natCast, List.getD_eq_getElem?_getD, List.getD_eq_getElem?_getD, List.getElem?_map]
  cases h : ps[i]? with
  | none => exact toB_nil.symm
  | some p => rfl
theorem sepGo_is (ps : List (List UInt8)) : ∀ (n a : Nat), sepGo ps n = some a → 6 ≤ a ∧ a < n + 6 ∧ ps.getD a [] = [45] ∧ ∀ j, a < j → j < n + 6 → ps.getD j [] ≠ [45]
  | 0, a, h => by cases h
  | n + 1, a, h => by
    rw [sepGo] at h
    by_cases c : ps.getD (n + 6) [] = [45]
    · rw [if_pos c] at h
      obtain rfl := Option.some.inj h
      exact ⟨by omega, by omega, c, fun j h1 h2 => by omega⟩
    · rw [if_neg c] at h
      obtain ⟨h1, h2, h3, h4⟩ := sepGo_is ps n a h
      refine ⟨h1, by omega, h3, fun j g1 g2 => ?_⟩
      by_cases e : j = n + 6
      · rw [e]; exact c
      · exact h4 j g1 (by omega)
theorem toInt_is (l : List UInt8) (h : l.length ≤ 1000000) : mountinfo_toInt.f (toB l) = some (toIntV l) := by
  unfold mountinfo_toInt.f
  rw [if_pos (by rw [toB_size]; omega), toB_data]
theorem cutL_len (c : UInt8) : ∀ (l p r : List UInt8), cutL c l = some (p, r) → p.length + r.length + 1 = l.length := by
  intro l p r h
  rcases parts c l with h1 | ⟨p2, r2, rfl, h1⟩
  · rw [cutL_no c l h1] at h; cases h
  · rw [cutL_at c r2 p2 h1] at h
    obtain ⟨rfl, rfl⟩ := Prod.mk.inj (Option.some.inj h)
    rw [List.length_append, List.length_cons]; omega
theorem rowL_is (l : List UInt8) (m : S23) (h : rowL l = some m) : MtL (toB l) m := by
  unfold rowL at h
  by_cases c : 10 ≤ (splitL 32 l).length ∧ l.length ≤ 900000
  · rw [if_pos c] at h
    obtain ⟨a, ha, h⟩ := Option.bind_eq_some_iff.1 h
    obtain ⟨q, hq, h⟩ := Option.bind_eq_some_iff.1 h
    obtain rfl := Option.some.inj h
    obtain ⟨c1, c2⟩ := c
    have htot := splitL_tot 32 l
    have hl2 := (splitL_len 32 l).2
    have hsp := split_is 32 l (l.length + 8) (by omega) (by omega)
    generalize splitL 32 l = ps at c1 ha hq htot hl2 hsp ⊢
    obtain ⟨h1, h2, h3, h4⟩ := sepGo_is ps _ a ha
    have hlen : ∀ i : Nat, (ps.getD i []).length ≤ l.length := by
      intro i
      rw [List.getD_eq_getElem?_getD]
      cases hi : ps[i]? with
      | none => simp
      | some p =>
        have := tot_mem (List.mem_of_getElem? hi)
        simp only [Option.getD_some]
        omega
    have hqq := cutL_len 58 _ _ _ (show cutL 58 (ps.getD 2 []) = some (q.1, q.2) from hq)
    have hl3 := hlen 2
    have r := fun i => rd_map ps i
    have ub : ∀ i : Nat, (unescL (ps.getD i [])).length ≤ l.length := fun i => Nat.le_trans (unesc_len _ _) (hlen i)
    refine ⟨l.length + 8, ps.map toB, a, toB q.1, toB q.2, hsp, ⟨by omega, by rw [List.length_map]; omega, ?_, ?_, by rw [List.length_map]; omega⟩, ?_, ?_, ?_, ?_, ?_, ?_, ?_, ?_, ?_, ?_, ?_, ?_, ?_⟩
    · rw [r, h3]; exact toB_list _
    · intro j g1 g2
      obtain ⟨jn, rfl⟩ : ∃ jn : Nat, j = (jn : Int) := ⟨j.toNat, by omega⟩
      rw [List.length_map] at g2
      rw [r, toB_list]
      exact h4 jn (by omega) (by omega)
    · rw [show (2 : Int) = ((2 : Nat) : Int) from rfl, r]
      exact cut_some 58 _ _ _ _ (by omega) (by omega) hq
    · rw [show (0 : Int) = ((0 : Nat) : Int) from rfl, r]; exact toInt_is _ (by have := hlen 0; omega)
    · rw [show (1 : Int) = ((1 : Nat) : Int) from rfl, r]; exact toInt_is _ (by have := hlen 1; omega)
    · exact toInt_is _ (by omega)
    · exact toInt_is _ (by omega)
    · rw [show (3 : Int) = ((3 : Nat) : Int) from rfl, r]; exact unesc_is _ _ (by have := hlen 3; omega) (by have := hlen 3; omega)
    · rw [show (4 : Int) = ((4 : Nat) : Int) from rfl, r]; exact unesc_is _ _ (by have := hlen 4; omega) (by have := hlen 4; omega)
    · rw [show (5 : Int) = ((5 : Nat) : Int) from rfl, r]
    · have e : ((ps.map toB).take ((a : Int)).toNat).drop 6 = ((ps.take a).drop 6).map toB := by rw [Int.toNat_natCast, ← List.map_take, ← List.map_drop]
      have e2 : (((ps.take a).drop 6).map toB).map (·.data.toList) = (ps.take a).drop 6 := by
        rw [List.map_map]
        have : ((fun x : ByteArray => x.data.toList) ∘ toB) = id := by funext x; rfl
        rw [this, List.map_id]
      rw [e]
      unfold strings_Join.f
      have hj := Nat.le_trans (join_len 32 ((ps.take a).drop 6)) (Nat.le_trans (tot_drop 6 _) (tot_take a ps))
      rw [e2, if_pos ⟨by rw [List.length_map, List.length_drop, List.length_take]; omega, by show (Lib.join ((ps.take a).drop 6) [32]).length ≤ 1000000000; omega⟩]
      rfl
    · rw [show ((a : Int) + 1) = ((a + 1 : Nat) : Int) by omega, r]; exact unesc_is _ _ (by have := hlen (a + 1); omega) (by have := hlen (a + 1); omega)
    · rw [show ((a : Int) + 2) = ((a + 2 : Nat) : Int) by omega, r]; exact unesc_is _ _ (by have := hlen (a + 2); omega) (by have := hlen (a + 2); omega)
    · rw [show ((a : Int) + 3) = ((a + 3 : Nat) : Int) by omega, r]
    · show (toB (unescL (ps.getD 4 []))).size ≤ 1000000
      rw [toB_size]
      have := ub 4
      omega
  · rw [if_neg c] at h; cases h
/-- The library's tables, under the name that the print knows. -/
def Tabs (w : World) : Prop := MTabs w
theorem Tabs.below {w w' : World} (h : Tabs w) (hb : Below w.heap.size w w') : Tabs w' := MTabs.below h hb
end Go.Proofs.YtokojamaigebaaaDoor.MtDoor
