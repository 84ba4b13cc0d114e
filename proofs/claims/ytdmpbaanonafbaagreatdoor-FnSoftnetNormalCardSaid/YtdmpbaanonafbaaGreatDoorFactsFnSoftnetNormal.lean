/- The closed facts of the row of FnSoftnetNormal, one by one. -/
import Derived.Test.YtdmpbaanonafbaaGreatDoorRows
import Derived.JoinedOf
import Derived.KernelRfl
namespace Go.Proofs.YtdmpbaanonafbaaGreatDoor.fnSoftnetNormal

theorem fact_wf : (Rows.fnSoftnetNormalRow.wf (OpenSpec.ofChange Rows.fnSoftnetNormalSpec)) = true := by kernel_rfl
theorem fact_lo : (laidOutB Tryz.prog) = true := by kernel_rfl
theorem fact_mr : (mapsRowed Tryz.prog) = true := by kernel_rfl
theorem fact_rd : (Tryz.f8.params.all (Tryz.prog.readableRec ·)) = true := by kernel_rfl
theorem fact_nt : (namedTie Tryz.prog Rows.fnSoftnetNormalRow.named Rows.fnSoftnetNormalSpec.vars) = true := by kernel_rfl
theorem fact_s1 : ((Rows.fnSoftnetNormalRow.stops == [])) = true := by kernel_rfl
theorem fact_s2 : ((Tryz.prog.stops == [])) = true := by kernel_rfl
theorem fact_s3 : ((Rows.fnSoftnetNormalRow.knobs == [])) = true := by kernel_rfl
theorem fact_s4 : ((Tryz.prog.stopKnobs == [])) = true := by kernel_rfl
theorem fact_ip : ((Rows.fnSoftnetNormalRow.inPlace == Tryz.prog.inPlace 8)) = true := by kernel_rfl
theorem fact_uf : ((Rows.fnSoftnetNormalRow.unfollowed == Tryz.prog.unfollowed 8)) = true := by kernel_rfl
theorem fact_rc : ((Rows.fnSoftnetNormalRow.recurses == Tryz.prog.recurses 8)) = true := by kernel_rfl
theorem fact_nm : ((Rows.fnSoftnetNormalRow.named == Tryz.prog.varsNamed 8)) = true := by kernel_rfl
theorem fact_mp : ((Rows.fnSoftnetNormalRow.maps == (Tryz.f8.params.toList ++ Rows.fnSoftnetNormalSpec.plain.varTypes Tryz.prog).any (Tryz.prog.mapsRec ·))) = true := by kernel_rfl
theorem fact_if_ : ((Rows.fnSoftnetNormalRow.ifaces == (Tryz.f8.params.toList ++ Rows.fnSoftnetNormalSpec.plain.varTypes Tryz.prog).any (Tryz.prog.ifacesRec ·))) = true := by kernel_rfl
theorem fact_mo : ((Rows.fnSoftnetNormalRow.mapsOut == Tryz.prog.mapsAmong Tryz.f8.resultTypes.toList)) = true := by kernel_rfl
theorem fact_lp : ((Rows.fnSoftnetNormalRow.loops == (Tryz.f8.params.toList ++ Rows.fnSoftnetNormalSpec.plain.varTypes Tryz.prog).any (Tryz.prog.loopsFrom ·))) = true := by kernel_rfl
theorem fact_wk : ((Rows.fnSoftnetNormalRow.wideKeys == (Tryz.f8.params.toList ++ Rows.fnSoftnetNormalSpec.plain.varTypes Tryz.prog ++ Tryz.f8.resultTypes.toList).any (Tryz.prog.wideKeysFrom ·))) = true := by kernel_rfl
theorem fact_vr : (Rows.fnSoftnetNormalSpec.vars.all (Tryz.prog.varReadable ·)) = true := by kernel_rfl
theorem fact_rt : (Tryz.f8.resultTypes.all (fun t => Tryz.prog.readableRec t && decide (t < Tryz.prog.types.size))) = true := by kernel_rfl
theorem fact_io : ((Rows.fnSoftnetNormalRow.ifacesOut == Tryz.f8.resultTypes.toList.any (Tryz.prog.ifacesRec ·))) = true := by kernel_rfl
theorem fact_lo2 : ((Rows.fnSoftnetNormalRow.loopsOut == Tryz.f8.resultTypes.toList.any (Tryz.prog.loopsFrom ·))) = true := by kernel_rfl
theorem fact_pk : ((Rows.fnSoftnetNormalRow.plainKeys == Tryz.prog.plainKeys)) = true := by kernel_rfl
theorem fact_st : (Rows.fnSoftnetNormalRow.shortTexts.isNone) = true := by kernel_rfl
theorem fact_sh : (Tryz.prog.stopsHeard) = true := by kernel_rfl
theorem fact_me : (Tryz.prog.mayEnter) = true := by kernel_rfl
theorem fact_lf : ((Rows.fnSoftnetNormalRow.lifted == Tryz.prog.liftsFinal)) = true := by kernel_rfl
theorem fact_mk : ((Tryz.prog.make == some Rows.fnSoftnetNormalRow.make)) = true := by kernel_rfl
theorem fact_pn : ((Rows.fnSoftnetNormalRow.pinned == Rows.fnSoftnetNormalRow.pinnedBy)) = true := by kernel_rfl
theorem fact_ve : ((Rows.fnSoftnetNormalRow.veiled == (Tryz.f8.params.toList ++ Rows.fnSoftnetNormalSpec.plain.varTypes Tryz.prog ++ Tryz.f8.resultTypes.toList).any (Tryz.prog.veiledRec ·))) = true := by kernel_rfl
theorem fact_vf : (Rows.fnSoftnetNormalRow.veiledFits Tryz.prog Tryz.f8.params.toList (Tryz.f8.params.toList ++ Rows.fnSoftnetNormalSpec.plain.varTypes Tryz.prog ++ Tryz.f8.resultTypes.toList)) = true := by kernel_rfl
theorem facts : joinedFacts Tryz.prog 8 Tryz.f8 Rows.fnSoftnetNormalSpec Rows.fnSoftnetNormalRow = true := by
  unfold joinedFacts
  rw [fact_wf, fact_lo, fact_mr, fact_rd, fact_nt, fact_s1, fact_s2, fact_s3, fact_s4, fact_ip, fact_uf, fact_rc, fact_nm, fact_mp, fact_if_, fact_mo, fact_lp, fact_wk, fact_vr, fact_rt, fact_io, fact_lo2, fact_pk, fact_st, fact_sh, fact_me, fact_lf, fact_mk]
  simp only [Bool.true_and, Bool.and_eq_true]
  exact ⟨⟨⟨by kernel_rfl, fact_pn⟩, fact_ve⟩, fact_vf⟩
end Go.Proofs.YtdmpbaanonafbaaGreatDoor.fnSoftnetNormal
