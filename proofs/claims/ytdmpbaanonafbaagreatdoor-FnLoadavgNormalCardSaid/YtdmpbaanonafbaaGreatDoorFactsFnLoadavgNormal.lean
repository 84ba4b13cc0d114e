/- The closed facts of the row of FnLoadavgNormal, one by one. -/
import Derived.Test.YtdmpbaanonafbaaGreatDoorRows
import Derived.JoinedOf
import Derived.KernelRfl
namespace Go.Proofs.YtdmpbaanonafbaaGreatDoor.fnLoadavgNormal

theorem fact_wf : (Rows.fnLoadavgNormalRow.wf (OpenSpec.ofChange Rows.fnLoadavgNormalSpec)) = true := by kernel_rfl
theorem fact_lo : (laidOutB Tryz.prog) = true := by kernel_rfl
theorem fact_mr : (mapsRowed Tryz.prog) = true := by kernel_rfl
theorem fact_rd : (Tryz.f3.params.all (Tryz.prog.readableRec ·)) = true := by kernel_rfl
theorem fact_nt : (namedTie Tryz.prog Rows.fnLoadavgNormalRow.named Rows.fnLoadavgNormalSpec.vars) = true := by kernel_rfl
theorem fact_s1 : ((Rows.fnLoadavgNormalRow.stops == [])) = true := by kernel_rfl
theorem fact_s2 : ((Tryz.prog.stops == [])) = true := by kernel_rfl
theorem fact_s3 : ((Rows.fnLoadavgNormalRow.knobs == [])) = true := by kernel_rfl
theorem fact_s4 : ((Tryz.prog.stopKnobs == [])) = true := by kernel_rfl
theorem fact_ip : ((Rows.fnLoadavgNormalRow.inPlace == Tryz.prog.inPlace 3)) = true := by kernel_rfl
theorem fact_uf : ((Rows.fnLoadavgNormalRow.unfollowed == Tryz.prog.unfollowed 3)) = true := by kernel_rfl
theorem fact_rc : ((Rows.fnLoadavgNormalRow.recurses == Tryz.prog.recurses 3)) = true := by kernel_rfl
theorem fact_nm : ((Rows.fnLoadavgNormalRow.named == Tryz.prog.varsNamed 3)) = true := by kernel_rfl
theorem fact_mp : ((Rows.fnLoadavgNormalRow.maps == (Tryz.f3.params.toList ++ Rows.fnLoadavgNormalSpec.plain.varTypes Tryz.prog).any (Tryz.prog.mapsRec ·))) = true := by kernel_rfl
theorem fact_if_ : ((Rows.fnLoadavgNormalRow.ifaces == (Tryz.f3.params.toList ++ Rows.fnLoadavgNormalSpec.plain.varTypes Tryz.prog).any (Tryz.prog.ifacesRec ·))) = true := by kernel_rfl
theorem fact_mo : ((Rows.fnLoadavgNormalRow.mapsOut == Tryz.prog.mapsAmong Tryz.f3.resultTypes.toList)) = true := by kernel_rfl
theorem fact_lp : ((Rows.fnLoadavgNormalRow.loops == (Tryz.f3.params.toList ++ Rows.fnLoadavgNormalSpec.plain.varTypes Tryz.prog).any (Tryz.prog.loopsFrom ·))) = true := by kernel_rfl
theorem fact_wk : ((Rows.fnLoadavgNormalRow.wideKeys == (Tryz.f3.params.toList ++ Rows.fnLoadavgNormalSpec.plain.varTypes Tryz.prog ++ Tryz.f3.resultTypes.toList).any (Tryz.prog.wideKeysFrom ·))) = true := by kernel_rfl
theorem fact_vr : (Rows.fnLoadavgNormalSpec.vars.all (Tryz.prog.varReadable ·)) = true := by kernel_rfl
theorem fact_rt : (Tryz.f3.resultTypes.all (fun t => Tryz.prog.readableRec t && decide (t < Tryz.prog.types.size))) = true := by kernel_rfl
theorem fact_io : ((Rows.fnLoadavgNormalRow.ifacesOut == Tryz.f3.resultTypes.toList.any (Tryz.prog.ifacesRec ·))) = true := by kernel_rfl
theorem fact_lo2 : ((Rows.fnLoadavgNormalRow.loopsOut == Tryz.f3.resultTypes.toList.any (Tryz.prog.loopsFrom ·))) = true := by kernel_rfl
theorem fact_pk : ((Rows.fnLoadavgNormalRow.plainKeys == Tryz.prog.plainKeys)) = true := by kernel_rfl
theorem fact_st : (Rows.fnLoadavgNormalRow.shortTexts.isNone) = true := by kernel_rfl
theorem fact_sh : (Tryz.prog.stopsHeard) = true := by kernel_rfl
theorem fact_me : (Tryz.prog.mayEnter) = true := by kernel_rfl
theorem fact_lf : ((Rows.fnLoadavgNormalRow.lifted == Tryz.prog.liftsFinal)) = true := by kernel_rfl
theorem fact_mk : ((Tryz.prog.make == some Rows.fnLoadavgNormalRow.make)) = true := by kernel_rfl
theorem fact_pn : ((Rows.fnLoadavgNormalRow.pinned == Rows.fnLoadavgNormalRow.pinnedBy)) = true := by kernel_rfl
theorem fact_ve : ((Rows.fnLoadavgNormalRow.veiled == (Tryz.f3.params.toList ++ Rows.fnLoadavgNormalSpec.plain.varTypes Tryz.prog ++ Tryz.f3.resultTypes.toList).any (Tryz.prog.veiledRec ·))) = true := by kernel_rfl
theorem fact_vf : (Rows.fnLoadavgNormalRow.veiledFits Tryz.prog Tryz.f3.params.toList (Tryz.f3.params.toList ++ Rows.fnLoadavgNormalSpec.plain.varTypes Tryz.prog ++ Tryz.f3.resultTypes.toList)) = true := by kernel_rfl
theorem facts : joinedFacts Tryz.prog 3 Tryz.f3 Rows.fnLoadavgNormalSpec Rows.fnLoadavgNormalRow = true := by
  unfold joinedFacts
  rw [fact_wf, fact_lo, fact_mr, fact_rd, fact_nt, fact_s1, fact_s2, fact_s3, fact_s4, fact_ip, fact_uf, fact_rc, fact_nm, fact_mp, fact_if_, fact_mo, fact_lp, fact_wk, fact_vr, fact_rt, fact_io, fact_lo2, fact_pk, fact_st, fact_sh, fact_me, fact_lf, fact_mk]
  simp only [Bool.true_and, Bool.and_eq_true]
  exact ⟨⟨⟨by kernel_rfl, fact_pn⟩, fact_ve⟩, fact_vf⟩
end Go.Proofs.YtdmpbaanonafbaaGreatDoor.fnLoadavgNormal
