/- Plain lemmas on texts as lists of bytes: lines, fields, numbers; no condition, no program. -/
import Derived.Test.YtokojamaigebaaaDoorWWords
import Derived.Lib.Strings
import Derived.Lib.SmallJoins
import Derived.Lib.Fields
set_option linter.unusedVariables false
set_option linter.unusedSimpArgs false
namespace Go.Proofs.YtokojamaigebaaaDoorPt
open Go.RowKit Go.Proofs.YtokojamaigebaaaDoorW.PrintWords

/-- A list of bytes as a text. -/
def toB (l : List UInt8) : ByteArray := ⟨l.toArray⟩
theorem toB_data (l : List UInt8) : (toB l).data.toList = l := by simp [toB]
theorem toB_size (l : List UInt8) : (toB l).size = l.length := by rw [Lib.size_eq, toB_data]
theorem data_inj {a b : ByteArray} (h : a.data.toList = b.data.toList) : a = b := by
  have h2 : a.data = b.data := Array.toList_inj.1 h
  cases a; cases b; simp at h2; rw [h2]
theorem toB_of (s : ByteArray) : toB s.data.toList = s := data_inj (toB_data _)
theorem toB_nil : toB [] = ByteArray.empty := data_inj (by rw [toB_data]; rfl)
theorem len_data (s : ByteArray) : s.data.toList.length = s.size := (Lib.size_eq s).symm
/-- The lines of a text: as the reference cuts them. -/
def linesGo : List UInt8 → List UInt8 → List (List UInt8)
  | cur, [] => if cur.isEmpty then [] else [cur]
  | cur, c :: cs => if c = 10 then cur :: linesGo [] cs else linesGo (cur ++ [c]) cs
def linesL (l : List UInt8) : List (List UInt8) := linesGo [] l
theorem linesGo_len : ∀ (l cur x : List UInt8), x ∈ linesGo cur l → x.length ≤ cur.length + l.length
  | [], cur, x, h => by
    unfold linesGo at h
    split at h
    · cases h
    · rw [List.mem_singleton.1 h]; simp
  | d :: cs, cur, x, h => by
    unfold linesGo at h
    by_cases hd : d = 10
    · rw [if_pos hd] at h
      rcases List.mem_cons.1 h with rfl | h
      · simp
      · have := linesGo_len cs [] x h; simp at this ⊢; omega
    · rw [if_neg hd] at h
      have := linesGo_len cs _ x h; simp at this ⊢; omega

end Go.Proofs.YtokojamaigebaaaDoorPt
