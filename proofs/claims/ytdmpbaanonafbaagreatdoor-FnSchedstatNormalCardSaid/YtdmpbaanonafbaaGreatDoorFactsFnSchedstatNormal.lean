/- The closed facts of the row of FnSchedstatNormal, one by one. -/
import Derived.Test.YtdmpbaanonafbaaGreatDoorRows
import Derived.JoinedOf
import Derived.KernelRfl
namespace Go.Proofs.YtdmpbaanonafbaaGreatDoor.fnSchedstatNormal

theorem fact_wf : (Rows.fnSchedstatNormalRow.wf (OpenSpec.ofChange Rows.fnSchedstatNormalSpec)) = true := by kernel_rfl
theorem fact_lo : (laidOutB Tryz.prog) = true := by kernel_rfl
theorem fact_mr : (mapsRowed Tryz.prog) = true := by kernel_rfl
theorem fact_rd : (Tryz.f6.params.all (Tryz.prog.readableRec ·)) = true := by kernel_rfl
theorem fact_nt : (namedTie Tryz.prog Rows.fnSchedstatNormalRow.named Rows.fnSchedstatNormalSpec.vars) = true := by kernel_rfl
theorem fact_s1 : ((Rows.fnSchedstatNormalRow.stops == [])) = true := by kernel_rfl
theorem fact_s2 : ((Tryz.prog.stops == [])) = true := by kernel_rfl
theorem fact_s3 : ((Rows.fnSchedstatNormalRow.knobs == [])) = true := by kernel_rfl
theorem fact_s4 : ((Tryz.prog.stopKnobs == [])) = true := by kernel_rfl
theorem fact_ip : ((Rows.fnSchedstatNormalRow.inPlace == Tryz.prog.inPlace 6)) = true := by kernel_rfl
theorem fact_uf : ((Rows.fnSchedstatNormalRow.unfollowed == Tryz.prog.unfollowed 6)) = true := by kernel_rfl
theorem fact_rc : ((Rows.fnSchedstatNormalRow.recurses == Tryz.prog.recurses 6)) = true := by kernel_rfl
theorem fact_nm : ((Rows.fnSchedstatNormalRow.named == Tryz.prog.varsNamed 6)) = true := by kernel_rfl
theorem fact_mp : ((Rows.fnSchedstatNormalRow.maps == (Tryz.f6.params.toList ++ Rows.fnSchedstatNormalSpec.plain.varTypes Tryz.prog).any (Tryz.prog.mapsRec ·))) = true := by kernel_rfl
theorem fact_if_ : ((Rows.fnSchedstatNormalRow.ifaces == (Tryz.f6.params.toList ++ Rows.fnSchedstatNormalSpec.plain.varTypes Tryz.prog).any (Tryz.prog.ifacesRec ·))) = true := by kernel_rfl
theorem fact_mo : ((Rows.fnSchedstatNormalRow.mapsOut == Tryz.prog.mapsAmong Tryz.f6.resultTypes.toList)) = true := by kernel_rfl
theorem fact_lp : ((Rows.fnSchedstatNormalRow.loops == (Tryz.f6.params.toList ++ Rows.fnSchedstatNormalSpec.plain.varTypes Tryz.prog).any (Tryz.prog.loopsFrom ·))) = true := by kernel_rfl
theorem fact_wk : ((Rows.fnSchedstatNormalRow.wideKeys == (Tryz.f6.params.toList ++ Rows.fnSchedstatNormalSpec.plain.varTypes Tryz.prog ++ Tryz.f6.resultTypes.toList).any (Tryz.prog.wideKeysFrom ·))) = true := by kernel_rfl
theorem fact_vr : (Rows.fnSchedstatNormalSpec.vars.all (Tryz.prog.varReadable ·)) = true := by kernel_rfl
theorem fact_rt : (Tryz.f6.resultTypes.all (fun t => Tryz.prog.readableRec t && decide (t < Tryz.prog.types.size))) = true := by kernel_rfl
theorem fact_io : ((Rows.fnSchedstatNormalRow.ifacesOut == Tryz.f6.resultTypes.toList.any (Tryz.prog.ifacesRec ·))) = true := by kernel_rfl
theorem fact_lo2 : ((Rows.fnSchedstatNormalRow.loopsOut == Tryz.f6.resultTypes.toList.any (Tryz.prog.loopsFrom ·))) = true := by kernel_rfl
theorem fact_pk : ((Rows.fnSchedstatNormalRow.plainKeys == Tryz.prog.plainKeys)) = true := by kernel_rfl
theorem fact_st : (Rows.fnSchedstatNormalRow.shortTexts.isNone) = true := by kernel_rfl
theorem fact_sh : (Tryz.prog.stopsHeard) = true := by kernel_rfl
theorem fact_me : (Tryz.prog.mayEnter) = true := by kernel_rfl
theorem fact_lf : ((Rows.fnSchedstatNormalRow.lifted == Tryz.prog.liftsFinal)) = true := by kernel_rfl
theorem fact_mk : ((Tryz.prog.make == some Rows.fnSchedstatNormalRow.make)) = true := by kernel_rfl
theorem fact_pn : ((Rows.fnSchedstatNormalRow.pinned == Rows.fnSchedstatNormalRow.pinnedBy)) = true := by kernel_rfl
theorem fact_ve : ((Rows.fnSchedstatNormalRow.veiled == (Tryz.f6.params.toList ++ Rows.fnSchedstatNormalSpec.plain.varTypes Tryz.prog ++ Tryz.f6.resultTypes.toList).any (Tryz.prog.veiledRec ·))) = true := by kernel_rfl
theorem fact_vf : (Rows.fnSchedstatNormalRow.veiledFits Tryz.prog Tryz.f6.params.toList (Tryz.f6.params.toList ++ Rows.fnSchedstatNormalSpec.plain.varTypes Tryz.prog ++ Tryz.f6.resultTypes.toList)) = true := by kernel_rfl
theorem facts : joinedFacts Tryz.prog 6 Tryz.f6 Rows.fnSchedstatNormalSpec Rows.fnSchedstatNormalRow = true := by
  unfold joinedFacts
  rw [fact_wf, fact_lo, fact_mr, fact_rd, fact_nt, fact_s1, fact_s2, fact_s3, fact_s4, fact_ip, fact_uf, fact_rc, fact_nm, fact_mp, fact_if_, fact_mo, fact_lp, fact_wk, fact_vr, fact_rt, fact_io, fact_lo2, fact_pk, fact_st, fact_sh, fact_me, fact_lf, fact_mk]
  simp only [Bool.true_and, Bool.and_eq_true]
  exact ⟨⟨⟨by kernel_rfl, fact_pn⟩, fact_ve⟩, fact_vf⟩
end Go.Proofs.YtdmpbaanonafbaaGreatDoor.fnSchedstatNormal
