/- A float that is a whole number's nearest is no NaN; its quotient by a hundred is a float. -/
import Derived.Laws.FloatBits
import Derived.Laws.Cover2
import Derived.Test.YtdmpbaanonafbaaGreatDoorGivFl
set_option linter.unusedVariables false
namespace Go.Proofs.YtdmpbaanonafbaaGreatDoor.Fdiv
open Go
theorem read_word (f : Ieee.Format) (rung : Nat) (h : rung ≤ f.infRung) : ∀ s r, f.read (f.word false rung) ≠ .nan s r := by
  intro s r
  have hlt : rung < f.signWeight := Nat.lt_of_le_of_lt h f.infRung_lt
  have e : f.word false rung = rung := by simp [Ieee.Format.word]
  rw [e]
  unfold Ieee.Format.read
  simp only [Nat.mod_eq_of_lt hlt]
  split
  · simp
  · split
    · simp
    · split
      · simp
      · omega
theorem read_nearest (f : Ieee.Format) (mag : Nat) (place : Int) : ∀ s r, f.read (f.nearest false mag place) ≠ .nan s r := by
  unfold Ieee.Format.nearest
  dsimp only
  split
  · exact read_word f 0 (Nat.zero_le _)
  · exact read_word f _ (Nat.min_le_right _ _)
theorem div_some (f : Ieee.Format) (x y : Nat) (n : Nat) (j : Int) (hx : ∀ s r, f.read x ≠ .nan s r) (hy : f.read y = .number false n j) (hn : n ≠ 0) : ∃ r, f.div x y = some r := by
  unfold Ieee.Format.div
  rw [hy]
  cases h : f.read x with
  | nan s r => exact absurd h (hx s r)
  | infinity s => exact ⟨_, rfl⟩
  | number s m i =>
    unfold Ieee.Datum.quotient
    dsimp only
    rw [if_neg hn]
    exact ⟨_, rfl⟩
theorem div100 (m : Nat) : ∃ r, FloatKind.f64.format.div (floatOfInt .f64 (m : Int)) 4636737291354636288 = some r := by
  refine div_some _ _ _ 7036874417766400 (-46) ?_ (by decide +kernel) (by decide)
  have e : floatOfInt .f64 (m : Int) = Ieee.double.nearest false m 0 := by
    have hneg : decide ((m : Int) < 0) = false := decide_eq_false (by omega)
    unfold floatOfInt FloatKind.nearest FloatKind.encode
    simp [FloatKind.format, Ieee.Format.write, hneg]
  rw [e]
  exact read_nearest _ _ _
end Go.Proofs.YtdmpbaanonafbaaGreatDoor.Fdiv
