/- The plain law of FnUnitRoads: any text is read as sections exactly if it is read as options, and both say the same. -/
import Derived.Test.YtlmmgienbmghmaaDoorPureS5
import Derived.Test.YtlmmgienbmghmaaDoorX2
set_option linter.unusedVariables false
set_option linter.unusedSimpArgs false
namespace Go.Proofs.YtlmmgienbmghmaaDoor.PureX
open Go.RowKit Go.Proofs.YtlmmgienbmghmaaDoorW.PrintWords Go.Proofs.YtlmmgienbmghmaaDoorW.PrintLast Go.Proofs.YtlmmgienbmghmaaDoorW.PrintMore Go.Proofs.YtlmmgienbmghmaaDoor.Lex Go.Proofs.YtlmmgienbmghmaaDoor.UDoor Go.Proofs.YtlmmgienbmghmaaDoor.VDoor Go.Proofs.YtlmmgienbmghmaaDoor.DoorU Go.Proofs.YtlmmgienbmghmaaDoor.DoorV Go.Proofs.YtlmmgienbmghmaaDoor.PureT Go.Proofs.YtlmmgienbmghmaaDoor.PureS Go.Proofs.YtlmmgienbmghmaaDoor.X Go.Proofs.YtlmmgienbmghmaaDoor.M
theorem reads_is : laws_reads.f = some true := by
  have h := read_says (t := (⟨#[91, 85, 110, 105, 116, 93, 10, 65, 102, 116, 101, 114, 61, 97, 46, 116, 97, 114, 103, 101, 116, 10]⟩ : ByteArray)) (by decide) (lim := 2046) (Nat.le_refl _) (want := [([85, 110, 105, 116], [65, 102, 116, 101, 114], [97, 46, 116, 97, 114, 103, 101, 116])]) (ok := true) (by decide +kernel)
  unfold laws_reads.f
  rw [h, Option.bind_some]
  decide +kernel
theorem same_l0 (l : List S28) (hl : l.length ≤ 4611686018427387904) : ∀ (d i k : Nat), i + d = l.length → d < k → laws_sameOptions.l0 k l l (l.length : Int) (i : Int) = some true
  | 0, i, 0, _, h => by omega
  | 0, i, k + 1, h, _ => by
    unfold laws_sameOptions.l0
    rw [if_neg (by omega)]
  | d + 1, i, 0, _, h => by omega
  | d + 1, i, k + 1, h, hk => by
    unfold laws_sameOptions.l0
    rw [if_pos (by omega), if_pos (by omega), if_pos (by omega), if_pos (by omega)]
    rw [if_neg (by simp), show wrap64 ((i : Int) + 1) = ((i + 1 : Nat) : Int) from by unfold wrap64; omega]
    exact same_l0 l hl d (i + 1) k (by omega) (by omega)
theorem same_is (l : List S28) (hl : l.length ≤ 4611686018427387904) (k : Nat) (hk : l.length < k) : laws_sameOptions.f k l l = some true := by
  unfold laws_sameOptions.f
  rw [if_pos rfl]
  exact same_l0 l hl l.length 0 k (by omega) hk
/-- The sections are no more, and no longer, than what was found. -/
theorem desF_fits (B : Nat) : ∀ (l : List Lex.Item) (S S' : List SecP) (O O' : List (ByteArray × ByteArray × ByteArray)), desF l S O = some (S', O') → S.length + l.length ≤ B → (∀ x ∈ S, x.2.length + l.length ≤ B) → S'.length ≤ B ∧ ∀ x ∈ S', x.2.length ≤ B
  | [], S, S', O, O', h, h1, h2 => by
    injection h with h
    injection h with e1 e2
    subst e1
    exact ⟨h1, h2⟩
  | .sec s :: l, S, S', O, O', h, h1, h2 => by
    rw [List.length_cons] at h1
    refine desF_fits B l _ S' O O' h (by rw [List.length_cons]; omega) fun x hx => ?_
    rcases List.mem_cons.1 hx with e | e
    · rw [e]
      show 0 + l.length ≤ B
      omega
    · have := h2 x e
      rw [List.length_cons] at this
      omega
  | .opt _ _ _ :: _, [], S', O, O', h, _, _ => by cases h
  | .opt s n v :: l, (nm, es) :: S, S', O, O', h, h1, h2 => by
    rw [List.length_cons, List.length_cons] at h1
    refine desF_fits B l _ S' _ O' h (by rw [List.length_cons]; omega) fun x hx => ?_
    rcases List.mem_cons.1 hx with e | e
    · have h3 := h2 (nm, es) List.mem_cons_self
      rw [List.length_cons] at h3
      have h3 : es.length + (l.length + 1) ≤ B := h3
      rw [e]
      show (es ++ [(n, v)]).length + l.length ≤ B
      rw [List.length_append, List.length_singleton]
      omega
    · have := h2 x (List.mem_cons_of_mem _ e)
      rw [List.length_cons] at this
      omega
def fl (s : S62) : List S28 := s.f1.map fun e => ⟨s.f0, e.f0, e.f1⟩
/-- From some number of rounds on, this is what comes. -/
def Ev {α : Type} (f : Nat → Option α) (r : α) : Prop := ∃ k0, ∀ k, k0 ≤ k → f k = some r
theorem Ev.succ {α : Type} {f g : Nat → Option α} {r : α} (h : ∀ k, f (k + 1) = g k) (hg : Ev g r) : Ev f r := by
  obtain ⟨k0, hk⟩ := hg
  refine ⟨k0 + 1, fun k hk2 => ?_⟩
  obtain ⟨j, rfl⟩ : ∃ j, k = j + 1 := ⟨k - 1, by omega⟩
  rw [h]
  exact hk j (by omega)
theorem w1 (i : Nat) (h : i ≤ 4611686018427387904) : wrap64 ((i : Int) + 1) = ((i + 1 : Nat) : Int) := by unfold wrap64; omega
theorem flat_l1 (A : List S62) (i : Nat) (hi : i ≤ 1000000) (s : S62) (hs : s.f1.length ≤ 1000000) (r : List S28) (x3 : List S28) (hx : x3.length ≤ 1000000) (hr : Ev (fun k => laws_flat.l0 k (x3 ++ fl s) A (A.length : Int) ((i + 1 : Nat) : Int)) r) : ∀ (d j : Nat), j + d = s.f1.length →
    Ev (fun k => laws_flat.l1 k (x3 ++ (fl s).take j) A (A.length : Int) (i : Int) s.f1 (s.f1.length : Int) (j : Int) s.f0 s.f1) r
  | 0, j, h => by
    have e : (fl s).take j = fl s := List.take_of_length_le (by unfold fl; rw [List.length_map]; omega)
    rw [e]
    refine Ev.succ (fun k => ?_) hr
    conv => lhs; unfold laws_flat.l1
    rw [if_neg (by omega), w1 i (by omega)]
  | d + 1, j, h => by
    have hj : j < s.f1.length := by omega
    have hrd : rd_T66 s.f1 (j : Int) = s.f1[j] := by
      unfold rd_T66
      rw [Int.toNat_natCast, List.getD_eq_getElem?_getD, List.getElem?_eq_getElem hj]
      rfl
    have e : (fl s).take (j + 1) = (fl s).take j ++ [⟨s.f0, s.f1[j].f0, s.f1[j].f1⟩] := by
      unfold fl
      rw [List.take_add_one, List.getElem?_map, List.getElem?_eq_getElem hj]
      rfl
    have := flat_l1 A i hi s hs r x3 hx hr d (j + 1) (by omega)
    rw [e, ← List.append_assoc] at this
    refine Ev.succ (fun k => ?_) this
    conv => lhs; unfold laws_flat.l1
    rw [if_pos (by omega), if_pos (by omega), if_pos (by omega), if_pos (by rw [List.length_append, List.length_take]; omega), hrd, w1 j (by omega)]
theorem flat_l0 (A : List S62) (hA : A.length ≤ 1000000) (hs : ∀ s ∈ A, s.f1.length ≤ 1000000) (hT : (A.flatMap fl).length ≤ 1000000) : ∀ (d i : Nat), i + d = A.length → Ev (fun k => laws_flat.l0 k ((A.take i).flatMap fl) A (A.length : Int) (i : Int)) (A.flatMap fl)
  | 0, i, h => by
    rw [List.take_of_length_le (by omega)]
    refine Ev.succ (g := fun _ => some (A.flatMap fl)) (fun k => ?_) ⟨0, fun _ _ => rfl⟩
    unfold laws_flat.l0
    rw [if_neg (by omega)]
  | d + 1, i, h => by
    have hi : i < A.length := by omega
    have hrd : rd_T62 A (i : Int) = A[i] := by
      unfold rd_T62
      rw [Int.toNat_natCast, List.getD_eq_getElem?_getD, List.getElem?_eq_getElem hi]
      rfl
    have e : (A.take (i + 1)).flatMap fl = (A.take i).flatMap fl ++ fl A[i] := by
      rw [List.take_add_one, List.getElem?_eq_getElem hi, List.flatMap_append]
      simp
    have hle : ((A.take i).flatMap fl).length ≤ 1000000 := by
      have h1 : A.flatMap fl = (A.take i).flatMap fl ++ (A.drop i).flatMap fl := by rw [← List.flatMap_append, List.take_append_drop]
      rw [h1, List.length_append] at hT
      omega
    have h0 := flat_l0 A hA hs hT d (i + 1) (by omega)
    rw [e] at h0
    have h1 := flat_l1 A i (by omega) A[i] (hs _ (List.getElem_mem hi)) _ _ hle h0 A[i].f1.length 0 (by omega)
    rw [List.take_zero, List.append_nil] at h1
    refine Ev.succ (fun k => ?_) h1
    conv => lhs; unfold laws_flat.l0
    rw [if_pos (by omega), if_pos (by omega), if_pos (by omega), hrd]
    rfl
theorem flat_eq (S : List SecP) : (S.reverse.map toSec).flatMap fl = (flatS S).map toS := by
  unfold flatS
  rw [List.flatMap_map, List.map_flatMap]
  congr 1
  funext x
  unfold fl toSec
  rw [List.map_map, List.map_map]
  rfl
theorem pure : laws_FnUnitRoads.Pure := by
  intro a0 _
  by_cases h1 : (a0.size : Int) > 2147483647
  · exact ⟨0, by unfold laws_FnUnitRoads.f; rw [if_pos h1]⟩
  · by_cases h2 : (a0.size : Int) > 20000
    · exact ⟨0, by unfold laws_FnUnitRoads.f; rw [if_neg h1, if_pos h2]⟩
    · obtain ⟨R, S, O, r1, r2, r3, r4, r5⟩ := read_all a0 (by omega)
      have hlen := (run_D r1).2
      have hf := desF_fits 200000 R.1 [] S [] O r2 (by rw [List.length_nil]; omega) (fun x hx => by cases hx)
      have hfits : fitsS S := ⟨by omega, fun x hx => by have := hf.2 x hx; omega⟩
      have hsec : impl_UnitReadSections.f a0 = some (if R.2 = true then (S.reverse.map toSec, 0) else ([], 1)) := by
        unfold impl_UnitReadSections.f
        rw [if_pos (by omega), r1]
        show (desF R.1 [] []).bind _ = _
        rw [r2]
        show (if fitsS S then _ else _) = _
        rw [if_pos hfits]
        split <;> rfl
      have hfl : ((S.reverse.map toSec).flatMap fl) = O.map toS := by rw [flat_eq, r3]
      obtain ⟨k0, hk⟩ := flat_l0 (S.reverse.map toSec) (by rw [List.length_map, List.length_reverse]; omega) (fun s hs => by
        obtain ⟨x, hx, rfl⟩ := List.mem_map.1 hs
        have := hf.2 x (List.mem_reverse.1 hx)
        show (x.2.map toE).length ≤ _
        rw [List.length_map]
        omega) (by rw [hfl, List.length_map]; omega) (S.reverse.map toSec).length 0 (by omega)
      rw [hfl] at hk
      refine ⟨max k0 1000002, ?_⟩
      have hk' : laws_flat.f (max k0 1000002) (S.reverse.map toSec) = some (O.map toS) := hk _ (by omega)
      unfold laws_FnUnitRoads.f
      rw [if_neg h1, if_neg h2, hsec, Option.bind_some, r5, Option.bind_some]
      cases hR : R.2 with
      | true =>
        rw [if_pos rfl, if_pos rfl, if_pos rfl, if_pos rfl, hk', Option.bind_some, same_is _ (by rw [List.length_map]; omega) _ (by rw [List.length_map]; omega), Option.bind_some, if_pos rfl, reads_is]
        rfl
      | false =>
        have e1 : (if (false : Bool) = true then (S.reverse.map toSec, (0 : Int)) else ([], 1)) = ([], 1) := if_neg (by decide)
        have e2 : (if (false : Bool) = true then (O.map toS, (0 : Int)) else ([], 1)) = ([], 1) := if_neg (by decide)
        rw [e1, e2, if_pos rfl, if_neg (by decide), reads_is]
        rfl
end Go.Proofs.YtlmmgienbmghmaaDoor.PureX
