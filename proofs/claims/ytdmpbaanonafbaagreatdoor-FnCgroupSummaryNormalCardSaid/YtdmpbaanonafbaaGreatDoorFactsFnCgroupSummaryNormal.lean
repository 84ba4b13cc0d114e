/- The closed facts of the row of FnCgroupSummaryNormal, one by one. -/
import Derived.Test.YtdmpbaanonafbaaGreatDoorRows
import Derived.JoinedOf
import Derived.KernelRfl
namespace Go.Proofs.YtdmpbaanonafbaaGreatDoor.fnCgroupSummaryNormal

theorem fact_wf : (Rows.fnCgroupSummaryNormalRow.wf (OpenSpec.ofChange Rows.fnCgroupSummaryNormalSpec)) = true := by kernel_rfl
theorem fact_lo : (laidOutB Tryz.prog) = true := by kernel_rfl
theorem fact_mr : (mapsRowed Tryz.prog) = true := by kernel_rfl
theorem fact_rd : (Tryz.f10.params.all (Tryz.prog.readableRec ·)) = true := by kernel_rfl
theorem fact_nt : (namedTie Tryz.prog Rows.fnCgroupSummaryNormalRow.named Rows.fnCgroupSummaryNormalSpec.vars) = true := by kernel_rfl
theorem fact_s1 : ((Rows.fnCgroupSummaryNormalRow.stops == [])) = true := by kernel_rfl
theorem fact_s2 : ((Tryz.prog.stops == [])) = true := by kernel_rfl
theorem fact_s3 : ((Rows.fnCgroupSummaryNormalRow.knobs == [])) = true := by kernel_rfl
theorem fact_s4 : ((Tryz.prog.stopKnobs == [])) = true := by kernel_rfl
theorem fact_ip : ((Rows.fnCgroupSummaryNormalRow.inPlace == Tryz.prog.inPlace 10)) = true := by kernel_rfl
theorem fact_uf : ((Rows.fnCgroupSummaryNormalRow.unfollowed == Tryz.prog.unfollowed 10)) = true := by kernel_rfl
theorem fact_rc : ((Rows.fnCgroupSummaryNormalRow.recurses == Tryz.prog.recurses 10)) = true := by kernel_rfl
theorem fact_nm : ((Rows.fnCgroupSummaryNormalRow.named == Tryz.prog.varsNamed 10)) = true := by kernel_rfl
theorem fact_mp : ((Rows.fnCgroupSummaryNormalRow.maps == (Tryz.f10.params.toList ++ Rows.fnCgroupSummaryNormalSpec.plain.varTypes Tryz.prog).any (Tryz.prog.mapsRec ·))) = true := by kernel_rfl
theorem fact_if_ : ((Rows.fnCgroupSummaryNormalRow.ifaces == (Tryz.f10.params.toList ++ Rows.fnCgroupSummaryNormalSpec.plain.varTypes Tryz.prog).any (Tryz.prog.ifacesRec ·))) = true := by kernel_rfl
theorem fact_mo : ((Rows.fnCgroupSummaryNormalRow.mapsOut == Tryz.prog.mapsAmong Tryz.f10.resultTypes.toList)) = true := by kernel_rfl
theorem fact_lp : ((Rows.fnCgroupSummaryNormalRow.loops == (Tryz.f10.params.toList ++ Rows.fnCgroupSummaryNormalSpec.plain.varTypes Tryz.prog).any (Tryz.prog.loopsFrom ·))) = true := by kernel_rfl
theorem fact_wk : ((Rows.fnCgroupSummaryNormalRow.wideKeys == (Tryz.f10.params.toList ++ Rows.fnCgroupSummaryNormalSpec.plain.varTypes Tryz.prog ++ Tryz.f10.resultTypes.toList).any (Tryz.prog.wideKeysFrom ·))) = true := by kernel_rfl
theorem fact_vr : (Rows.fnCgroupSummaryNormalSpec.vars.all (Tryz.prog.varReadable ·)) = true := by kernel_rfl
theorem fact_rt : (Tryz.f10.resultTypes.all (fun t => Tryz.prog.readableRec t && decide (t < Tryz.prog.types.size))) = true := by kernel_rfl
theorem fact_io : ((Rows.fnCgroupSummaryNormalRow.ifacesOut == Tryz.f10.resultTypes.toList.any (Tryz.prog.ifacesRec ·))) = true := by kernel_rfl
theorem fact_lo2 : ((Rows.fnCgroupSummaryNormalRow.loopsOut == Tryz.f10.resultTypes.toList.any (Tryz.prog.loopsFrom ·))) = true := by kernel_rfl
theorem fact_pk : ((Rows.fnCgroupSummaryNormalRow.plainKeys == Tryz.prog.plainKeys)) = true := by kernel_rfl
theorem fact_st : (Rows.fnCgroupSummaryNormalRow.shortTexts.isNone) = true := by kernel_rfl
theorem fact_sh : (Tryz.prog.stopsHeard) = true := by kernel_rfl
theorem fact_me : (Tryz.prog.mayEnter) = true := by kernel_rfl
theorem fact_lf : ((Rows.fnCgroupSummaryNormalRow.lifted == Tryz.prog.liftsFinal)) = true := by kernel_rfl
theorem fact_mk : ((Tryz.prog.make == some Rows.fnCgroupSummaryNormalRow.make)) = true := by kernel_rfl
theorem fact_pn : ((Rows.fnCgroupSummaryNormalRow.pinned == Rows.fnCgroupSummaryNormalRow.pinnedBy)) = true := by kernel_rfl
theorem fact_ve : ((Rows.fnCgroupSummaryNormalRow.veiled == (Tryz.f10.params.toList ++ Rows.fnCgroupSummaryNormalSpec.plain.varTypes Tryz.prog ++ Tryz.f10.resultTypes.toList).any (Tryz.prog.veiledRec ·))) = true := by kernel_rfl
theorem fact_vf : (Rows.fnCgroupSummaryNormalRow.veiledFits Tryz.prog Tryz.f10.params.toList (Tryz.f10.params.toList ++ Rows.fnCgroupSummaryNormalSpec.plain.varTypes Tryz.prog ++ Tryz.f10.resultTypes.toList)) = true := by kernel_rfl
theorem facts : joinedFacts Tryz.prog 10 Tryz.f10 Rows.fnCgroupSummaryNormalSpec Rows.fnCgroupSummaryNormalRow = true := by
  unfold joinedFacts
  rw [fact_wf, fact_lo, fact_mr, fact_rd, fact_nt, fact_s1, fact_s2, fact_s3, fact_s4, fact_ip, fact_uf, fact_rc, fact_nm, fact_mp, fact_if_, fact_mo, fact_lp, fact_wk, fact_vr, fact_rt, fact_io, fact_lo2, fact_pk, fact_st, fact_sh, fact_me, fact_lf, fact_mk]
  simp only [Bool.true_and, Bool.and_eq_true]
  exact ⟨⟨⟨by kernel_rfl, fact_pn⟩, fact_ve⟩, fact_vf⟩
end Go.Proofs.YtdmpbaanonafbaaGreatDoor.fnCgroupSummaryNormal
