/- A text's bytes as numbers, and back. -/
import Derived.Test.YtdmpbaanonafbaaGreatDoorWWords
import Derived.Lib.Strings
import Derived.Lib.SmallJoins
set_option linter.unusedVariables false
set_option linter.unusedSimpArgs false
namespace Go.Proofs.YtdmpbaanonafbaaGreatDoor.Plz
open Go.RowKit Go.Proofs.YtdmpbaanonafbaaGreatDoorW.PrintWords
theorem ofNums_bytes (s : ByteArray) : strOfNums (bytesOf s) = s := by
  have h : (strOfNums (bytesOf s)).data.toList = s.data.toList := by
    rw [strOfNums_data]
    unfold bytesOf
    rw [List.map_map]
    conv => rhs; rw [← List.map_id s.data.toList]
    apply List.map_congr_left
    intro b _
    simp
  have h2 := Array.toList_inj.1 h
  cases s
  generalize strOfNums _ = t at h2 ⊢
  cases t
  simp at h2
  rw [h2]
end Go.Proofs.YtdmpbaanonafbaaGreatDoor.Plz
