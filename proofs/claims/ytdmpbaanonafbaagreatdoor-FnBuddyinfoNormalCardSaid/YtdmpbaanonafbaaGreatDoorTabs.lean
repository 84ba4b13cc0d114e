/- From the row's listed variables to what the contracts ask of the world (Tabs). -/
import Derived.Test.YtdmpbaanonafbaaGreatDoorGivZ
import Derived.Test.YtdmpbaanonafbaaGreatDoorRows
import Derived.Lib.LaidU8
import Derived.LaidMore
import Derived.ChangeArms
import Derived.MakeChecks
set_option linter.unusedVariables false
set_option linter.unusedSimpArgs false
namespace Go.Proofs.YtdmpbaanonafbaaGreatDoor.TabsOf
open Go.Lib Go.Proofs.YtdmpbaanonafbaaGreatDoor.GivZ
theorem one_bool {H : Type} {enc : TypeId × Value → H} {P : Program} {w : World} {base fuel : Nat} {sp : Nat → Bool} {held : Bool} {t : TypeId} {cs : List Value} {b : Bool} {p : List MemPlace} (ht : P.underlying t = some .bool)
    (h : DataW.trod enc P w base sp held fuel t cs = some (.lit (.bool b), p)) : cs = [.bool b] := by
  cases fuel with
  | zero => simp [DataW.trod] at h
  | succ n =>
    unfold DataW.trod at h
    rw [ht] at h
    split at h <;> simp_all
theorem one_float {H : Type} {enc : TypeId × Value → H} {P : Program} {w : World} {base fuel : Nat} {sp : Nat → Bool} {held : Bool} {t : TypeId} {cs : List Value} {b : Nat} {p : List MemPlace} (ht : P.underlying t = some (.float .f64))
    (h : DataW.trod enc P w base sp held fuel t cs = some (.lit (.float .f64 b), p)) : cs = [.float .f64 b] := by
  cases fuel with
  | zero => simp [DataW.trod] at h
  | succ n =>
    unfold DataW.trod at h
    rw [ht] at h
    split at h <;> simp_all
theorem reads_cell0 {w : World} {n : String} {g : Nat} {t : TypeId} {d : DataW Unit} (hg : Tryz.prog.globalNamed n = some g) (ht : (Tryz.prog.globals[g]?).map (·.type) = some t) (h : VarReads Tryz.prog w n d) :
    ∃ cs fuel p, (∀ i, w.cell? ⟨g, i, none⟩ = cs[i]?) ∧ w.var? Tryz.prog n = some cs ∧ DataW.trod (fun _ => ()) Tryz.prog w 0 (fun _ => true) false fuel t cs.toList = some (d, p) := by
  obtain ⟨g', t', cs, fuel, p, h1, h2, h3, h4⟩ := h
  obtain rfl := Option.some.inj (hg.symm.trans h1)
  obtain rfl := Option.some.inj (ht.symm.trans h2)
  exact ⟨cs, fuel, p, fun i => World.var?_cell hg h3 i, h3, h4⟩
theorem tabs_of_reads (w : World) (h1 : VarReads Tryz.prog w "strings.asciiSpace" Rows.laid_strings_asciiSpace) (h2 : VarReads Tryz.prog w "internal/strconv.optimize" Rows.laid_internal_strconv_optimize)
    (h3 : VarReads Tryz.prog w "internal/strconv.float64info" Rows.laid_internal_strconv_float64info) (h4 : VarReads Tryz.prog w "internal/strconv.float64pow10" Rows.laid_internal_strconv_float64pow10) : Tabs w := by
  refine ⟨?_, ?_, ?_, ?_⟩
  · obtain ⟨cs, fuel, p, hc, hv, hd⟩ := reads_cell0 (g := 1) (t := 210) (by kernel_rfl) (by kernel_rfl) h1
    have e : (Rows.laid_strings_asciiSpace : DataW Unit) = tabData .u8 Lib.asciiSpaceTab := by kernel_rfl
    rw [e] at hd
    have hcs := cells_of_tab Tryz.underlying210 Tryz.underlying5 (by kernel_rfl) (by kernel_rfl) hd
    show w.var? Tryz.prog "strings.asciiSpace" = _
    rw [hv, ← hcs]
  · obtain ⟨cs, fuel, p, hc, hv, hd⟩ := reads_cell0 (g := 6) (t := 4) (by kernel_rfl) (by kernel_rfl) h2
    have hcs := one_bool Tryz.underlying4 hd
    rw [hc 0, ← Array.getElem?_toList, hcs]
    rfl
  · obtain ⟨cs, fuel, p, hc, hv, hd⟩ := reads_cell0 (g := 7) (t := 267) (by kernel_rfl) (by kernel_rfl) h3
    obtain ⟨xs, n, rfl, hx, hl, hxl, hall⟩ := DataW.trod_struct Tryz.underlying267 hd
    have f0 := hall 0 _ rfl
    have e0 : (xs.map (·.1)) = [.lit (.int .u64 52), .lit (.int .u64 11), .lit (.int .i64 (-1023))] := by
      have := congrArg Prod.fst hx
      simpa [Rows.laid_internal_strconv_float64info] using this.symm
    obtain ⟨x0, hx0⟩ : ∃ x0, xs[0]? = some x0 := by
      match xs, e0 with
      | x0 :: _, _ => exact ⟨x0, rfl⟩
    have hx1 : x0.1 = .lit (.int .u64 52) := by
      have := congrArg (·[0]?) e0
      simpa [hx0] using this
    rw [hx0] at f0
    change DataW.trod _ _ _ _ _ _ _ 198 ((cs.toList.drop 0).take (Tryz.prog.cellsOf 198)) = some x0 at f0
    rw [show Tryz.prog.cellsOf 198 = 1 by kernel_rfl] at f0
    obtain ⟨z, hz, hz2, _⟩ := DataW.trod_int Tryz.underlying198 f0
    have hz3 : z = 52 := by
      rw [hz2] at hx1
      cases hx1
      rfl
    rw [hc 0, ← Array.getElem?_toList]
    have := congrArg (·[0]?) hz
    rw [hz3] at this
    simpa [List.getElem?_take] using this
  · obtain ⟨cs, fuel, p, hc, hv, hd⟩ := reads_cell0 (g := 10) (t := 77) (by kernel_rfl) (by kernel_rfl) h4
    have e : (Rows.laid_internal_strconv_float64pow10 : DataW Unit) = .slice (pows10.map fun b => .lit (.float .f64 b)) [] := by kernel_rfl
    rw [e] at hd
    obtain ⟨a, cap, hcs, hlc, hel⟩ := open_row Tryz.underlying77 (by kernel_rfl) hd
    have hlen : (pows10.map fun b => (DataW.lit (.float .f64 b) : DataW Unit)).length = 23 := by rw [List.length_map]; rfl
    rw [hlen] at hcs hlc
    refine ⟨a, cap, ?_, hlc, fun i hi => ?_⟩
    · rw [hc 0, ← Array.getElem?_toList, hcs]
      rfl
    · have hi2 : i < pows10.length := by rw [show pows10.length = 23 from rfl]; exact hi
      obtain ⟨v, n, q, hcell, ht⟩ := hel i (.lit (.float .f64 (pows10.getD i 0))) (by
        rw [List.getElem?_map, List.getElem?_eq_getElem hi2, List.getD_eq_getElem?_getD, List.getElem?_eq_getElem hi2]
        rfl)
      have := one_float Tryz.underlying32 ht
      rw [hcell, (List.cons.inj this).1]
theorem tabs_of_laid (w : World) (l : List (String × DataW Unit)) (h : laidMetH Tryz.prog l w) (hp : (l.all fun x => x.2.handleName?.isNone) = true)
    (m1 : l[12]? = some ("strings.asciiSpace", Rows.laid_strings_asciiSpace)) (m2 : l[4]? = some ("internal/strconv.optimize", Rows.laid_internal_strconv_optimize))
    (m3 : l[3]? = some ("internal/strconv.float64info", Rows.laid_internal_strconv_float64info)) (m4 : l[6]? = some ("internal/strconv.float64pow10", Rows.laid_internal_strconv_float64pow10)) : Tabs w := by
  rw [MakeChecks.laidMetH_plain _ _ _ hp] at h
  exact tabs_of_reads w (laidMet.reads h (List.mem_of_getElem? m1)) (laidMet.reads h (List.mem_of_getElem? m2)) (laidMet.reads h (List.mem_of_getElem? m3)) (laidMet.reads h (List.mem_of_getElem? m4))
end Go.Proofs.YtdmpbaanonafbaaGreatDoor.TabsOf
