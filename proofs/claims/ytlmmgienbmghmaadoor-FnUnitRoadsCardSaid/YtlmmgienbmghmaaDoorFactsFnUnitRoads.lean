/- The closed facts of the row of FnUnitRoads, one by one. -/
import Derived.Test.YtlmmgienbmghmaaDoorRows
import Derived.JoinedOf
import Derived.KernelRfl
namespace Go.Proofs.YtlmmgienbmghmaaDoor.fnUnitRoads

theorem fact_wf : (Rows.fnUnitRoadsRow.wf (OpenSpec.ofChange Rows.fnUnitRoadsSpec)) = true := by kernel_rfl
theorem fact_lo : (laidOutB Tryd.prog) = true := by kernel_rfl
theorem fact_mr : (mapsRowed Tryd.prog) = true := by kernel_rfl
theorem fact_rd : (Tryd.f6.params.all (Tryd.prog.readableRec ·)) = true := by kernel_rfl
theorem fact_nt : (namedTie Tryd.prog Rows.fnUnitRoadsRow.named Rows.fnUnitRoadsSpec.vars) = true := by kernel_rfl
theorem fact_s1 : ((Rows.fnUnitRoadsRow.stops == [])) = true := by kernel_rfl
theorem fact_s2 : ((Tryd.prog.stops == [])) = true := by kernel_rfl
theorem fact_s3 : ((Rows.fnUnitRoadsRow.knobs == [])) = true := by kernel_rfl
theorem fact_s4 : ((Tryd.prog.stopKnobs == [])) = true := by kernel_rfl
theorem fact_ip : ((Rows.fnUnitRoadsRow.inPlace == Tryd.prog.inPlace 6)) = true := by kernel_rfl
theorem fact_uf : ((Rows.fnUnitRoadsRow.unfollowed == Tryd.prog.unfollowed 6)) = true := by kernel_rfl
theorem fact_rc : ((Rows.fnUnitRoadsRow.recurses == Tryd.prog.recurses 6)) = true := by kernel_rfl
theorem fact_nm : ((Rows.fnUnitRoadsRow.named == Tryd.prog.varsNamed 6)) = true := by kernel_rfl
theorem fact_mp : ((Rows.fnUnitRoadsRow.maps == (Tryd.f6.params.toList ++ Rows.fnUnitRoadsSpec.plain.varTypes Tryd.prog).any (Tryd.prog.mapsRec ·))) = true := by kernel_rfl
theorem fact_if_ : ((Rows.fnUnitRoadsRow.ifaces == (Tryd.f6.params.toList ++ Rows.fnUnitRoadsSpec.plain.varTypes Tryd.prog).any (Tryd.prog.ifacesRec ·))) = true := by kernel_rfl
theorem fact_mo : ((Rows.fnUnitRoadsRow.mapsOut == Tryd.prog.mapsAmong Tryd.f6.resultTypes.toList)) = true := by kernel_rfl
theorem fact_lp : ((Rows.fnUnitRoadsRow.loops == (Tryd.f6.params.toList ++ Rows.fnUnitRoadsSpec.plain.varTypes Tryd.prog).any (Tryd.prog.loopsFrom ·))) = true := by kernel_rfl
theorem fact_wk : ((Rows.fnUnitRoadsRow.wideKeys == (Tryd.f6.params.toList ++ Rows.fnUnitRoadsSpec.plain.varTypes Tryd.prog ++ Tryd.f6.resultTypes.toList).any (Tryd.prog.wideKeysFrom ·))) = true := by kernel_rfl
theorem fact_vr : (Rows.fnUnitRoadsSpec.vars.all (Tryd.prog.varReadable ·)) = true := by kernel_rfl
theorem fact_rt : (Tryd.f6.resultTypes.all (fun t => Tryd.prog.readableRec t && decide (t < Tryd.prog.types.size))) = true := by kernel_rfl
theorem fact_io : ((Rows.fnUnitRoadsRow.ifacesOut == Tryd.f6.resultTypes.toList.any (Tryd.prog.ifacesRec ·))) = true := by kernel_rfl
theorem fact_lo2 : ((Rows.fnUnitRoadsRow.loopsOut == Tryd.f6.resultTypes.toList.any (Tryd.prog.loopsFrom ·))) = true := by kernel_rfl
theorem fact_pk : ((Rows.fnUnitRoadsRow.plainKeys == Tryd.prog.plainKeys)) = true := by kernel_rfl
theorem fact_st : (Rows.fnUnitRoadsRow.shortTexts.isNone) = true := by kernel_rfl
theorem fact_sh : (Tryd.prog.stopsHeard) = true := by kernel_rfl
theorem fact_me : (Tryd.prog.mayEnter) = true := by kernel_rfl
theorem fact_lf : ((Rows.fnUnitRoadsRow.lifted == Tryd.prog.liftsFinal)) = true := by kernel_rfl
theorem fact_mk : ((Tryd.prog.make == some Rows.fnUnitRoadsRow.make)) = true := by kernel_rfl
theorem fact_pn : ((Rows.fnUnitRoadsRow.pinned == Rows.fnUnitRoadsRow.pinnedBy)) = true := by kernel_rfl
theorem fact_ve : ((Rows.fnUnitRoadsRow.veiled == (Tryd.f6.params.toList ++ Rows.fnUnitRoadsSpec.plain.varTypes Tryd.prog ++ Tryd.f6.resultTypes.toList).any (Tryd.prog.veiledRec ·))) = true := by kernel_rfl
theorem fact_vf : (Rows.fnUnitRoadsRow.veiledFits Tryd.prog Tryd.f6.params.toList (Tryd.f6.params.toList ++ Rows.fnUnitRoadsSpec.plain.varTypes Tryd.prog ++ Tryd.f6.resultTypes.toList)) = true := by kernel_rfl
theorem facts : joinedFacts Tryd.prog 6 Tryd.f6 Rows.fnUnitRoadsSpec Rows.fnUnitRoadsRow = true := by
  unfold joinedFacts
  rw [fact_wf, fact_lo, fact_mr, fact_rd, fact_nt, fact_s1, fact_s2, fact_s3, fact_s4, fact_ip, fact_uf, fact_rc, fact_nm, fact_mp, fact_if_, fact_mo, fact_lp, fact_wk, fact_vr, fact_rt, fact_io, fact_lo2, fact_pk, fact_st, fact_sh, fact_me, fact_lf, fact_mk]
  simp only [Bool.true_and, Bool.and_eq_true]
  exact ⟨⟨⟨by kernel_rfl, fact_pn⟩, fact_ve⟩, fact_vf⟩
end Go.Proofs.YtlmmgienbmghmaaDoor.fnUnitRoads
