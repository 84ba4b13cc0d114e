/- From the rows' listed variables to what the contracts ask of the world (Tabs). -/
import Derived.Test.YtlmmgienbmghmaaDoorUDoor
import Derived.Test.YtlmmgienbmghmaaDoorRows
import Derived.Lib.LaidU8
import Derived.LaidMore
import Derived.ChangeArms
import Derived.MakeChecks
set_option linter.unusedVariables false
set_option linter.unusedSimpArgs false
namespace Go.Proofs.YtlmmgienbmghmaaDoor.UTabsL
open Go.Lib Go.Proofs.YtlmmgienbmghmaaDoor.Lex Go.Proofs.YtlmmgienbmghmaaDoor.UDoor Go.Proofs.YtlmmgienbmghmaaDoor.GivU
theorem reads_cell0 {w : World} {n : String} {g : Nat} {t : TypeId} {d : DataW Unit} (hg : Tryd.prog.globalNamed n = some g) (ht : (Tryd.prog.globals[g]?).map (·.type) = some t) (h : VarReads Tryd.prog w n d) :
    ∃ cs fuel p, w.var? Tryd.prog n = some cs ∧ DataW.trod (fun _ => ()) Tryd.prog w 0 (fun _ => true) false fuel t cs.toList = some (d, p) := by
  obtain ⟨g', t', cs, fuel, p, h1, h2, h3, h4⟩ := h
  obtain rfl := Option.some.inj (hg.symm.trans h1)
  obtain rfl := Option.some.inj (ht.symm.trans h2)
  exact ⟨cs, fuel, p, h3, h4⟩
theorem tab_of {w : World} {n : String} {g : Nat} {d : DataW Unit} (hg : Tryd.prog.globalNamed n = some g) (ht : (Tryd.prog.globals[g]?).map (·.type) = some 128) (e : d = tabData .u8 Lib.asciiSpaceTab) (h : VarReads Tryd.prog w n d) : TabIs Tryd.prog w n .u8 Lib.asciiSpaceTab := by
  obtain ⟨cs, fuel, p, hv, hd⟩ := reads_cell0 hg ht h
  rw [e] at hd
  have hcs := cells_of_tab Tryd.underlying128 Tryd.underlying5 (by kernel_rfl) (by kernel_rfl) hd
  show w.var? Tryd.prog n = _
  rw [hv, ← hcs]
theorem tabs_of_laid (w : World) (l : List (String × DataW Unit)) (h : laidMetH Tryd.prog l w) (hp : (l.all fun x => x.2.handleName?.isNone) = true)
    (m0 : l[0]? = some ("unicode/utf8.acceptRanges", Rows.laid_unicode_utf8_acceptRanges)) (m1 : l[1]? = some ("unicode.White_Space", Rows.laid_unicode_White_Space))
    (m2 : l[2]? = some ("bytes.asciiSpace", Rows.laid_bytes_asciiSpace)) (m3 : l[3]? = some ("strings.asciiSpace", Rows.laid_strings_asciiSpace)) (m4 : l[4]? = some ("unicode/utf8.first", Rows.laid_unicode_utf8_first)) : Tabs w := by
  rw [MakeChecks.laidMetH_plain _ _ _ hp] at h
  have h0 := laidMet.reads h (List.mem_of_getElem? m0)
  have h1 := laidMet.reads h (List.mem_of_getElem? m1)
  have h2 := laidMet.reads h (List.mem_of_getElem? m2)
  have h3 := laidMet.reads h (List.mem_of_getElem? m3)
  have h4 := laidMet.reads h (List.mem_of_getElem? m4)
  have e0 : (Rows.laid_unicode_utf8_acceptRanges : DataW Unit) = acceptData := by kernel_rfl
  have e1 : (Rows.laid_unicode_White_Space : DataW Unit) = whiteData := by kernel_rfl
  have e4 : (Rows.laid_unicode_utf8_first : DataW Unit) = firstData := by kernel_rfl
  rw [e0] at h0
  rw [e1] at h1
  rw [e4] at h4
  exact ⟨utf8Tabs_of_reads lays260 ⟨by kernel_rfl, by kernel_rfl, by kernel_rfl, by kernel_rfl, by kernel_rfl, by kernel_rfl, by kernel_rfl⟩ h4 h0,
    whiteTab_of_reads lays199 ⟨by kernel_rfl, by kernel_rfl, by kernel_rfl, by kernel_rfl, by kernel_rfl, by kernel_rfl, by kernel_rfl, by kernel_rfl⟩ h1,
    tab_of (g := 8) (by kernel_rfl) (by kernel_rfl) (by kernel_rfl) h3, tab_of (g := 5) (by kernel_rfl) (by kernel_rfl) (by kernel_rfl) h2⟩
end Go.Proofs.YtlmmgienbmghmaaDoor.UTabsL
