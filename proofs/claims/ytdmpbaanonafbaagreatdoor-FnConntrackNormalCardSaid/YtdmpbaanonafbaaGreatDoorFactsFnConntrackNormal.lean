/- The closed facts of the row of FnConntrackNormal, one by one. -/
import Derived.Test.YtdmpbaanonafbaaGreatDoorRows
import Derived.JoinedOf
import Derived.KernelRfl
namespace Go.Proofs.YtdmpbaanonafbaaGreatDoor.fnConntrackNormal

theorem fact_wf : (Rows.fnConntrackNormalRow.wf (OpenSpec.ofChange Rows.fnConntrackNormalSpec)) = true := by kernel_rfl
theorem fact_lo : (laidOutB Tryz.prog) = true := by kernel_rfl
theorem fact_mr : (mapsRowed Tryz.prog) = true := by kernel_rfl
theorem fact_rd : (Tryz.f7.params.all (Tryz.prog.readableRec ·)) = true := by kernel_rfl
theorem fact_nt : (namedTie Tryz.prog Rows.fnConntrackNormalRow.named Rows.fnConntrackNormalSpec.vars) = true := by kernel_rfl
theorem fact_s1 : ((Rows.fnConntrackNormalRow.stops == [])) = true := by kernel_rfl
theorem fact_s2 : ((Tryz.prog.stops == [])) = true := by kernel_rfl
theorem fact_s3 : ((Rows.fnConntrackNormalRow.knobs == [])) = true := by kernel_rfl
theorem fact_s4 : ((Tryz.prog.stopKnobs == [])) = true := by kernel_rfl
theorem fact_ip : ((Rows.fnConntrackNormalRow.inPlace == Tryz.prog.inPlace 7)) = true := by kernel_rfl
theorem fact_uf : ((Rows.fnConntrackNormalRow.unfollowed == Tryz.prog.unfollowed 7)) = true := by kernel_rfl
theorem fact_rc : ((Rows.fnConntrackNormalRow.recurses == Tryz.prog.recurses 7)) = true := by kernel_rfl
theorem fact_nm : ((Rows.fnConntrackNormalRow.named == Tryz.prog.varsNamed 7)) = true := by kernel_rfl
theorem fact_mp : ((Rows.fnConntrackNormalRow.maps == (Tryz.f7.params.toList ++ Rows.fnConntrackNormalSpec.plain.varTypes Tryz.prog).any (Tryz.prog.mapsRec ·))) = true := by kernel_rfl
theorem fact_if_ : ((Rows.fnConntrackNormalRow.ifaces == (Tryz.f7.params.toList ++ Rows.fnConntrackNormalSpec.plain.varTypes Tryz.prog).any (Tryz.prog.ifacesRec ·))) = true := by kernel_rfl
theorem fact_mo : ((Rows.fnConntrackNormalRow.mapsOut == Tryz.prog.mapsAmong Tryz.f7.resultTypes.toList)) = true := by kernel_rfl
theorem fact_lp : ((Rows.fnConntrackNormalRow.loops == (Tryz.f7.params.toList ++ Rows.fnConntrackNormalSpec.plain.varTypes Tryz.prog).any (Tryz.prog.loopsFrom ·))) = true := by kernel_rfl
theorem fact_wk : ((Rows.fnConntrackNormalRow.wideKeys == (Tryz.f7.params.toList ++ Rows.fnConntrackNormalSpec.plain.varTypes Tryz.prog ++ Tryz.f7.resultTypes.toList).any (Tryz.prog.wideKeysFrom ·))) = true := by kernel_rfl
theorem fact_vr : (Rows.fnConntrackNormalSpec.vars.all (Tryz.prog.varReadable ·)) = true := by kernel_rfl
theorem fact_rt : (Tryz.f7.resultTypes.all (fun t => Tryz.prog.readableRec t && decide (t < Tryz.prog.types.size))) = true := by kernel_rfl
theorem fact_io : ((Rows.fnConntrackNormalRow.ifacesOut == Tryz.f7.resultTypes.toList.any (Tryz.prog.ifacesRec ·))) = true := by kernel_rfl
theorem fact_lo2 : ((Rows.fnConntrackNormalRow.loopsOut == Tryz.f7.resultTypes.toList.any (Tryz.prog.loopsFrom ·))) = true := by kernel_rfl
theorem fact_pk : ((Rows.fnConntrackNormalRow.plainKeys == Tryz.prog.plainKeys)) = true := by kernel_rfl
theorem fact_st : (Rows.fnConntrackNormalRow.shortTexts.isNone) = true := by kernel_rfl
theorem fact_sh : (Tryz.prog.stopsHeard) = true := by kernel_rfl
theorem fact_me : (Tryz.prog.mayEnter) = true := by kernel_rfl
theorem fact_lf : ((Rows.fnConntrackNormalRow.lifted == Tryz.prog.liftsFinal)) = true := by kernel_rfl
theorem fact_mk : ((Tryz.prog.make == some Rows.fnConntrackNormalRow.make)) = true := by kernel_rfl
theorem fact_pn : ((Rows.fnConntrackNormalRow.pinned == Rows.fnConntrackNormalRow.pinnedBy)) = true := by kernel_rfl
theorem fact_ve : ((Rows.fnConntrackNormalRow.veiled == (Tryz.f7.params.toList ++ Rows.fnConntrackNormalSpec.plain.varTypes Tryz.prog ++ Tryz.f7.resultTypes.toList).any (Tryz.prog.veiledRec ·))) = true := by kernel_rfl
theorem fact_vf : (Rows.fnConntrackNormalRow.veiledFits Tryz.prog Tryz.f7.params.toList (Tryz.f7.params.toList ++ Rows.fnConntrackNormalSpec.plain.varTypes Tryz.prog ++ Tryz.f7.resultTypes.toList)) = true := by kernel_rfl
theorem facts : joinedFacts Tryz.prog 7 Tryz.f7 Rows.fnConntrackNormalSpec Rows.fnConntrackNormalRow = true := by
  unfold joinedFacts
  rw [fact_wf, fact_lo, fact_mr, fact_rd, fact_nt, fact_s1, fact_s2, fact_s3, fact_s4, fact_ip, fact_uf, fact_rc, fact_nm, fact_mp, fact_if_, fact_mo, fact_lp, fact_wk, fact_vr, fact_rt, fact_io, fact_lo2, fact_pk, fact_st, fact_sh, fact_me, fact_lf, fact_mk]
  simp only [Bool.true_and, Bool.and_eq_true]
  exact ⟨⟨⟨by kernel_rfl, fact_pn⟩, fact_ve⟩, fact_vf⟩
end Go.Proofs.YtdmpbaanonafbaaGreatDoor.fnConntrackNormal
