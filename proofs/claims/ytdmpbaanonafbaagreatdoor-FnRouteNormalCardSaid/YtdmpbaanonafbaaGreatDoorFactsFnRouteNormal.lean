/- The closed facts of the row of FnRouteNormal, one by one. -/
import Derived.Test.YtdmpbaanonafbaaGreatDoorRows
import Derived.JoinedOf
import Derived.KernelRfl
namespace Go.Proofs.YtdmpbaanonafbaaGreatDoor.fnRouteNormal

theorem fact_wf : (Rows.fnRouteNormalRow.wf (OpenSpec.ofChange Rows.fnRouteNormalSpec)) = true := by kernel_rfl
theorem fact_lo : (laidOutB Tryz.prog) = true := by kernel_rfl
theorem fact_mr : (mapsRowed Tryz.prog) = true := by kernel_rfl
theorem fact_rd : (Tryz.f9.params.all (Tryz.prog.readableRec ·)) = true := by kernel_rfl
theorem fact_nt : (namedTie Tryz.prog Rows.fnRouteNormalRow.named Rows.fnRouteNormalSpec.vars) = true := by kernel_rfl
theorem fact_s1 : ((Rows.fnRouteNormalRow.stops == [])) = true := by kernel_rfl
theorem fact_s2 : ((Tryz.prog.stops == [])) = true := by kernel_rfl
theorem fact_s3 : ((Rows.fnRouteNormalRow.knobs == [])) = true := by kernel_rfl
theorem fact_s4 : ((Tryz.prog.stopKnobs == [])) = true := by kernel_rfl
theorem fact_ip : ((Rows.fnRouteNormalRow.inPlace == Tryz.prog.inPlace 9)) = true := by kernel_rfl
theorem fact_uf : ((Rows.fnRouteNormalRow.unfollowed == Tryz.prog.unfollowed 9)) = true := by kernel_rfl
theorem fact_rc : ((Rows.fnRouteNormalRow.recurses == Tryz.prog.recurses 9)) = true := by kernel_rfl
theorem fact_nm : ((Rows.fnRouteNormalRow.named == Tryz.prog.varsNamed 9)) = true := by kernel_rfl
theorem fact_mp : ((Rows.fnRouteNormalRow.maps == (Tryz.f9.params.toList ++ Rows.fnRouteNormalSpec.plain.varTypes Tryz.prog).any (Tryz.prog.mapsRec ·))) = true := by kernel_rfl
theorem fact_if_ : ((Rows.fnRouteNormalRow.ifaces == (Tryz.f9.params.toList ++ Rows.fnRouteNormalSpec.plain.varTypes Tryz.prog).any (Tryz.prog.ifacesRec ·))) = true := by kernel_rfl
theorem fact_mo : ((Rows.fnRouteNormalRow.mapsOut == Tryz.prog.mapsAmong Tryz.f9.resultTypes.toList)) = true := by kernel_rfl
theorem fact_lp : ((Rows.fnRouteNormalRow.loops == (Tryz.f9.params.toList ++ Rows.fnRouteNormalSpec.plain.varTypes Tryz.prog).any (Tryz.prog.loopsFrom ·))) = true := by kernel_rfl
theorem fact_wk : ((Rows.fnRouteNormalRow.wideKeys == (Tryz.f9.params.toList ++ Rows.fnRouteNormalSpec.plain.varTypes Tryz.prog ++ Tryz.f9.resultTypes.toList).any (Tryz.prog.wideKeysFrom ·))) = true := by kernel_rfl
theorem fact_vr : (Rows.fnRouteNormalSpec.vars.all (Tryz.prog.varReadable ·)) = true := by kernel_rfl
theorem fact_rt : (Tryz.f9.resultTypes.all (fun t => Tryz.prog.readableRec t && decide (t < Tryz.prog.types.size))) = true := by kernel_rfl
theorem fact_io : ((Rows.fnRouteNormalRow.ifacesOut == Tryz.f9.resultTypes.toList.any (Tryz.prog.ifacesRec ·))) = true := by kernel_rfl
theorem fact_lo2 : ((Rows.fnRouteNormalRow.loopsOut == Tryz.f9.resultTypes.toList.any (Tryz.prog.loopsFrom ·))) = true := by kernel_rfl
theorem fact_pk : ((Rows.fnRouteNormalRow.plainKeys == Tryz.prog.plainKeys)) = true := by kernel_rfl
theorem fact_st : (Rows.fnRouteNormalRow.shortTexts.isNone) = true := by kernel_rfl
theorem fact_sh : (Tryz.prog.stopsHeard) = true := by kernel_rfl
theorem fact_me : (Tryz.prog.mayEnter) = true := by kernel_rfl
theorem fact_lf : ((Rows.fnRouteNormalRow.lifted == Tryz.prog.liftsFinal)) = true := by kernel_rfl
theorem fact_mk : ((Tryz.prog.make == some Rows.fnRouteNormalRow.make)) = true := by kernel_rfl
theorem fact_pn : ((Rows.fnRouteNormalRow.pinned == Rows.fnRouteNormalRow.pinnedBy)) = true := by kernel_rfl
theorem fact_ve : ((Rows.fnRouteNormalRow.veiled == (Tryz.f9.params.toList ++ Rows.fnRouteNormalSpec.plain.varTypes Tryz.prog ++ Tryz.f9.resultTypes.toList).any (Tryz.prog.veiledRec ·))) = true := by kernel_rfl
theorem fact_vf : (Rows.fnRouteNormalRow.veiledFits Tryz.prog Tryz.f9.params.toList (Tryz.f9.params.toList ++ Rows.fnRouteNormalSpec.plain.varTypes Tryz.prog ++ Tryz.f9.resultTypes.toList)) = true := by kernel_rfl
theorem facts : joinedFacts Tryz.prog 9 Tryz.f9 Rows.fnRouteNormalSpec Rows.fnRouteNormalRow = true := by
  unfold joinedFacts
  rw [fact_wf, fact_lo, fact_mr, fact_rd, fact_nt, fact_s1, fact_s2, fact_s3, fact_s4, fact_ip, fact_uf, fact_rc, fact_nm, fact_mp, fact_if_, fact_mo, fact_lp, fact_wk, fact_vr, fact_rt, fact_io, fact_lo2, fact_pk, fact_st, fact_sh, fact_me, fact_lf, fact_mk]
  simp only [Bool.true_and, Bool.and_eq_true]
  exact ⟨⟨⟨by kernel_rfl, fact_pn⟩, fact_ve⟩, fact_vf⟩
end Go.Proofs.YtdmpbaanonafbaaGreatDoor.fnRouteNormal
