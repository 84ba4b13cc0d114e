/- The closed facts of the row of FnStatmNormal, one by one. -/
import Derived.Test.YtdmpbaanonafbaaGreatDoorRows
import Derived.JoinedOf
import Derived.KernelRfl
namespace Go.Proofs.YtdmpbaanonafbaaGreatDoor.fnStatmNormal

theorem fact_wf : (Rows.fnStatmNormalRow.wf (OpenSpec.ofChange Rows.fnStatmNormalSpec)) = true := by kernel_rfl
theorem fact_lo : (laidOutB Tryz.prog) = true := by kernel_rfl
theorem fact_mr : (mapsRowed Tryz.prog) = true := by kernel_rfl
theorem fact_rd : (Tryz.f5.params.all (Tryz.prog.readableRec ·)) = true := by kernel_rfl
theorem fact_nt : (namedTie Tryz.prog Rows.fnStatmNormalRow.named Rows.fnStatmNormalSpec.vars) = true := by kernel_rfl
theorem fact_s1 : ((Rows.fnStatmNormalRow.stops == [])) = true := by kernel_rfl
theorem fact_s2 : ((Tryz.prog.stops == [])) = true := by kernel_rfl
theorem fact_s3 : ((Rows.fnStatmNormalRow.knobs == [])) = true := by kernel_rfl
theorem fact_s4 : ((Tryz.prog.stopKnobs == [])) = true := by kernel_rfl
theorem fact_ip : ((Rows.fnStatmNormalRow.inPlace == Tryz.prog.inPlace 5)) = true := by kernel_rfl
theorem fact_uf : ((Rows.fnStatmNormalRow.unfollowed == Tryz.prog.unfollowed 5)) = true := by kernel_rfl
theorem fact_rc : ((Rows.fnStatmNormalRow.recurses == Tryz.prog.recurses 5)) = true := by kernel_rfl
theorem fact_nm : ((Rows.fnStatmNormalRow.named == Tryz.prog.varsNamed 5)) = true := by kernel_rfl
theorem fact_mp : ((Rows.fnStatmNormalRow.maps == (Tryz.f5.params.toList ++ Rows.fnStatmNormalSpec.plain.varTypes Tryz.prog).any (Tryz.prog.mapsRec ·))) = true := by kernel_rfl
theorem fact_if_ : ((Rows.fnStatmNormalRow.ifaces == (Tryz.f5.params.toList ++ Rows.fnStatmNormalSpec.plain.varTypes Tryz.prog).any (Tryz.prog.ifacesRec ·))) = true := by kernel_rfl
theorem fact_mo : ((Rows.fnStatmNormalRow.mapsOut == Tryz.prog.mapsAmong Tryz.f5.resultTypes.toList)) = true := by kernel_rfl
theorem fact_lp : ((Rows.fnStatmNormalRow.loops == (Tryz.f5.params.toList ++ Rows.fnStatmNormalSpec.plain.varTypes Tryz.prog).any (Tryz.prog.loopsFrom ·))) = true := by kernel_rfl
theorem fact_wk : ((Rows.fnStatmNormalRow.wideKeys == (Tryz.f5.params.toList ++ Rows.fnStatmNormalSpec.plain.varTypes Tryz.prog ++ Tryz.f5.resultTypes.toList).any (Tryz.prog.wideKeysFrom ·))) = true := by kernel_rfl
theorem fact_vr : (Rows.fnStatmNormalSpec.vars.all (Tryz.prog.varReadable ·)) = true := by kernel_rfl
theorem fact_rt : (Tryz.f5.resultTypes.all (fun t => Tryz.prog.readableRec t && decide (t < Tryz.prog.types.size))) = true := by kernel_rfl
theorem fact_io : ((Rows.fnStatmNormalRow.ifacesOut == Tryz.f5.resultTypes.toList.any (Tryz.prog.ifacesRec ·))) = true := by kernel_rfl
theorem fact_lo2 : ((Rows.fnStatmNormalRow.loopsOut == Tryz.f5.resultTypes.toList.any (Tryz.prog.loopsFrom ·))) = true := by kernel_rfl
theorem fact_pk : ((Rows.fnStatmNormalRow.plainKeys == Tryz.prog.plainKeys)) = true := by kernel_rfl
theorem fact_st : (Rows.fnStatmNormalRow.shortTexts.isNone) = true := by kernel_rfl
theorem fact_sh : (Tryz.prog.stopsHeard) = true := by kernel_rfl
theorem fact_me : (Tryz.prog.mayEnter) = true := by kernel_rfl
theorem fact_lf : ((Rows.fnStatmNormalRow.lifted == Tryz.prog.liftsFinal)) = true := by kernel_rfl
theorem fact_mk : ((Tryz.prog.make == some Rows.fnStatmNormalRow.make)) = true := by kernel_rfl
theorem fact_pn : ((Rows.fnStatmNormalRow.pinned == Rows.fnStatmNormalRow.pinnedBy)) = true := by kernel_rfl
theorem fact_ve : ((Rows.fnStatmNormalRow.veiled == (Tryz.f5.params.toList ++ Rows.fnStatmNormalSpec.plain.varTypes Tryz.prog ++ Tryz.f5.resultTypes.toList).any (Tryz.prog.veiledRec ·))) = true := by kernel_rfl
theorem fact_vf : (Rows.fnStatmNormalRow.veiledFits Tryz.prog Tryz.f5.params.toList (Tryz.f5.params.toList ++ Rows.fnStatmNormalSpec.plain.varTypes Tryz.prog ++ Tryz.f5.resultTypes.toList)) = true := by kernel_rfl
theorem facts : joinedFacts Tryz.prog 5 Tryz.f5 Rows.fnStatmNormalSpec Rows.fnStatmNormalRow = true := by
  unfold joinedFacts
  rw [fact_wf, fact_lo, fact_mr, fact_rd, fact_nt, fact_s1, fact_s2, fact_s3, fact_s4, fact_ip, fact_uf, fact_rc, fact_nm, fact_mp, fact_if_, fact_mo, fact_lp, fact_wk, fact_vr, fact_rt, fact_io, fact_lo2, fact_pk, fact_st, fact_sh, fact_me, fact_lf, fact_mk]
  simp only [Bool.true_and, Bool.and_eq_true]
  exact ⟨⟨⟨by kernel_rfl, fact_pn⟩, fact_ve⟩, fact_vf⟩
end Go.Proofs.YtdmpbaanonafbaaGreatDoor.fnStatmNormal
