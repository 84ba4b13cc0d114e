/- From the rows' listed variables to what the contracts ask of the world (MTabs). -/
import Derived.Test.YtokojamaigebaaaDoorMtDoor
import Derived.Test.YtokojamaigebaaaDoorRows
import Derived.Lib.LaidU8
import Derived.LaidMore
import Derived.ChangeArms
import Derived.MakeChecks
set_option linter.unusedVariables false
set_option linter.unusedSimpArgs false
namespace Go.Proofs.YtokojamaigebaaaDoor.MtTabs
open Go.Lib Go.Proofs.YtokojamaigebaaaDoor.GivM Go.Proofs.YtokojamaigebaaaDoor.MtDoor
theorem one_iface {H : Type} {enc : TypeId × Value → H} {P : Program} {w : World} {base fuel : Nat} {sp : Nat → Bool} {held : Bool} {t : TypeId} {ms : Array (String × TypeId)} {cs : List Value} {x : DataW H × List MemPlace} (ht : P.underlying t = some (.interface ms))
    (h : DataW.trod enc P w base sp held fuel t cs = some x) : cs = [.nilIface] ∨ ∃ u v, cs = [.iface u v] := by
  cases fuel with
  | zero => simp [DataW.trod] at h
  | succ n =>
    unfold DataW.trod at h
    rw [ht] at h
    split at h <;> simp_all
theorem reads_iface {w : World} {n : String} {g : Nat} {d : DataW Unit} (hg : Tryd.prog.globalNamed n = some g) (ht : (Tryd.prog.globals[g]?).map (·.type) = some 54) (h : VarReads Tryd.prog w n d) :
    ∃ ev, w.cell? ⟨g, 0, none⟩ = some ev ∧ (ev = .nilIface ∨ ∃ te pe, ev = .iface te pe) := by
  obtain ⟨g', t', cs, fuel, p, h1, h2, h3, h4⟩ := h
  obtain rfl := Option.some.inj (hg.symm.trans h1)
  obtain rfl := Option.some.inj (ht.symm.trans h2)
  have hc := World.var?_cell hg h3 0
  rw [← Array.getElem?_toList] at hc
  rcases one_iface Tryd.underlying54 h4 with e | ⟨u, v, e⟩
  · rw [e] at hc
    exact ⟨.nilIface, hc, .inl rfl⟩
  · rw [e] at hc
    exact ⟨.iface u v, hc, .inr ⟨u, v, rfl⟩⟩
theorem tabs_of_laid (w : World) (l : List (String × DataW Unit)) (h : laidMetH Tryd.prog l w) (hp : (l.all fun x => x.2.handleName?.isNone) = true)
    (m1 : l[4]? = some ("strconv.ErrSyntax", Rows.laid_strconv_ErrSyntax)) (m2 : l[3]? = some ("strconv.ErrRange", Rows.laid_strconv_ErrRange)) : Tabs w := by
  rw [MakeChecks.laidMetH_plain _ _ _ hp] at h
  exact ⟨reads_iface (by kernel_rfl) (by kernel_rfl) (laidMet.reads h (List.mem_of_getElem? m1)), reads_iface (by kernel_rfl) (by kernel_rfl) (laidMet.reads h (List.mem_of_getElem? m2))⟩
end Go.Proofs.YtokojamaigebaaaDoor.MtTabs
