/- impl.UnitReadSections in the print's form: what it answers of any text of at most 20,000 bytes, and its contract. -/
import Derived.Test.YtlmmgienbmghmaaDoorDoorV
set_option linter.unusedVariables false
set_option linter.unusedSimpArgs false
namespace Go.Proofs.YtlmmgienbmghmaaDoor.VDoor
open Go.RowKit Go.Proofs.YtlmmgienbmghmaaDoorW.PrintWords Go.Proofs.YtlmmgienbmghmaaDoorW.PrintLast Go.Proofs.YtlmmgienbmghmaaDoorW.PrintMore Go.Proofs.YtlmmgienbmghmaaDoor.M Go.Proofs.YtlmmgienbmghmaaDoor.Lex Go.Proofs.YtlmmgienbmghmaaDoor.UDoor Go.Proofs.YtlmmgienbmghmaaDoor.DoorV
/-- No list is too long. -/
def fitsS (S : List SecP) : Prop := S.length ≤ 1000000 ∧ ∀ x ∈ S, x.2.length ≤ 1000000
instance (S : List SecP) : Decidable (fitsS S) := inferInstanceAs (Decidable (_ ∧ _))
def impl_UnitReadSections.f (a0 : ByteArray) : Option (List S62 × Int) :=
  if a0.size ≤ 20000 then (runF a0).bind fun r => (desF r.1 [] []).bind fun q => if fitsS q.1 then (if r.2 = true then some (q.1.reverse.map toSec, 0) else some ([], 1)) else none
  else none
theorem impl_UnitReadSections.calls (a0 : ByteArray) (r1 : List S62) (r2 : Int) (w : World) (h : impl_UnitReadSections.f a0 = some (r1, r2))
    (hTabs : Tabs w := by first | exact hTabs | exact Tabs.below hTabs (by repeat (first | (with_reducible first | exact HB.out | apply below_alloc | apply pw_below_drewN | apply below_drew1 | refine below_set ?_ (Aside0.out (by assumption))) | exact HB.out))) :
    Calls Tryd.prog 16 #[.string a0] w fun e w' => ∃ v, e = .returned (.tuple #[v, .int .i64 r2]) ∧ Kd.R k62 62 w' w.heap.size (fun _ => True) v r1 ∧ Below w.heap.size w w' := by
  unfold impl_UnitReadSections.f at h
  by_cases c1 : a0.size ≤ 20000
  · rw [if_pos c1] at h
    cases hr : runF a0 with
    | none => rw [hr] at h; cases h
    | some r =>
      obtain ⟨its, okb⟩ := r
      rw [hr] at h
      cases hq : desF its [] [] with
      | none => rw [show (some (its, okb)).bind _ = (desF its [] []).bind _ from rfl, hq] at h; cases h
      | some q =>
        obtain ⟨S, O⟩ := q
        rw [show (some (its, okb)).bind _ = (desF its [] []).bind _ from rfl, hq] at h
        have h : (if fitsS S then (if okb = true then some (S.reverse.map toSec, (0 : Int)) else some ([], 1)) else none) = some (r1, r2) := h
        by_cases c2 : fitsS S
        · rw [if_pos c2] at h
          cases okb with
          | true =>
            rw [if_pos rfl] at h
            obtain ⟨rfl, rfl⟩ := Prod.mk.inj (Option.some.inj h)
            exact readOkS_is w a0 30000 200000 its S O (by omega) hTabs (by decide) (by decide) c2.1 c2.2 hr hq
          | false =>
            rw [if_neg (by decide)] at h
            obtain ⟨rfl, rfl⟩ := Prod.mk.inj (Option.some.inj h)
            refine (readBadS_is w a0 30000 200000 its S O (by omega) hTabs (by decide) (by decide) hr hq).mono ?_
            rintro e w' ⟨rfl, hb⟩
            exact ⟨_, rfl, Kd.R_nil _ _ _ _ _, hb⟩
        · rw [if_neg c2] at h; cases h
  · rw [if_neg c1] at h; cases h
end Go.Proofs.YtlmmgienbmghmaaDoor.VDoor
