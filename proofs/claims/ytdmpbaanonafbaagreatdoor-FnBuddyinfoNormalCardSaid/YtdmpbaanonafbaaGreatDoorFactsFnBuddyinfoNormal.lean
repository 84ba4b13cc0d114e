/- The closed facts of the row of FnBuddyinfoNormal, one by one. -/
import Derived.Test.YtdmpbaanonafbaaGreatDoorRows
import Derived.JoinedOf
import Derived.KernelRfl
namespace Go.Proofs.YtdmpbaanonafbaaGreatDoor.fnBuddyinfoNormal

theorem fact_wf : (Rows.fnBuddyinfoNormalRow.wf (OpenSpec.ofChange Rows.fnBuddyinfoNormalSpec)) = true := by kernel_rfl
theorem fact_lo : (laidOutB Tryz.prog) = true := by kernel_rfl
theorem fact_mr : (mapsRowed Tryz.prog) = true := by kernel_rfl
theorem fact_rd : (Tryz.f4.params.all (Tryz.prog.readableRec ·)) = true := by kernel_rfl
theorem fact_nt : (namedTie Tryz.prog Rows.fnBuddyinfoNormalRow.named Rows.fnBuddyinfoNormalSpec.vars) = true := by kernel_rfl
theorem fact_s1 : ((Rows.fnBuddyinfoNormalRow.stops == [])) = true := by kernel_rfl
theorem fact_s2 : ((Tryz.prog.stops == [])) = true := by kernel_rfl
theorem fact_s3 : ((Rows.fnBuddyinfoNormalRow.knobs == [])) = true := by kernel_rfl
theorem fact_s4 : ((Tryz.prog.stopKnobs == [])) = true := by kernel_rfl
theorem fact_ip : ((Rows.fnBuddyinfoNormalRow.inPlace == Tryz.prog.inPlace 4)) = true := by kernel_rfl
theorem fact_uf : ((Rows.fnBuddyinfoNormalRow.unfollowed == Tryz.prog.unfollowed 4)) = true := by kernel_rfl
theorem fact_rc : ((Rows.fnBuddyinfoNormalRow.recurses == Tryz.prog.recurses 4)) = true := by kernel_rfl
theorem fact_nm : ((Rows.fnBuddyinfoNormalRow.named == Tryz.prog.varsNamed 4)) = true := by kernel_rfl
theorem fact_mp : ((Rows.fnBuddyinfoNormalRow.maps == (Tryz.f4.params.toList ++ Rows.fnBuddyinfoNormalSpec.plain.varTypes Tryz.prog).any (Tryz.prog.mapsRec ·))) = true := by kernel_rfl
theorem fact_if_ : ((Rows.fnBuddyinfoNormalRow.ifaces == (Tryz.f4.params.toList ++ Rows.fnBuddyinfoNormalSpec.plain.varTypes Tryz.prog).any (Tryz.prog.ifacesRec ·))) = true := by kernel_rfl
theorem fact_mo : ((Rows.fnBuddyinfoNormalRow.mapsOut == Tryz.prog.mapsAmong Tryz.f4.resultTypes.toList)) = true := by kernel_rfl
theorem fact_lp : ((Rows.fnBuddyinfoNormalRow.loops == (Tryz.f4.params.toList ++ Rows.fnBuddyinfoNormalSpec.plain.varTypes Tryz.prog).any (Tryz.prog.loopsFrom ·))) = true := by kernel_rfl
theorem fact_wk : ((Rows.fnBuddyinfoNormalRow.wideKeys == (Tryz.f4.params.toList ++ Rows.fnBuddyinfoNormalSpec.plain.varTypes Tryz.prog ++ Tryz.f4.resultTypes.toList).any (Tryz.prog.wideKeysFrom ·))) = true := by kernel_rfl
theorem fact_vr : (Rows.fnBuddyinfoNormalSpec.vars.all (Tryz.prog.varReadable ·)) = true := by kernel_rfl
theorem fact_rt : (Tryz.f4.resultTypes.all (fun t => Tryz.prog.readableRec t && decide (t < Tryz.prog.types.size))) = true := by kernel_rfl
theorem fact_io : ((Rows.fnBuddyinfoNormalRow.ifacesOut == Tryz.f4.resultTypes.toList.any (Tryz.prog.ifacesRec ·))) = true := by kernel_rfl
theorem fact_lo2 : ((Rows.fnBuddyinfoNormalRow.loopsOut == Tryz.f4.resultTypes.toList.any (Tryz.prog.loopsFrom ·))) = true := by kernel_rfl
theorem fact_pk : ((Rows.fnBuddyinfoNormalRow.plainKeys == Tryz.prog.plainKeys)) = true := by kernel_rfl
theorem fact_st : (Rows.fnBuddyinfoNormalRow.shortTexts.isNone) = true := by kernel_rfl
theorem fact_sh : (Tryz.prog.stopsHeard) = true := by kernel_rfl
theorem fact_me : (Tryz.prog.mayEnter) = true := by kernel_rfl
theorem fact_lf : ((Rows.fnBuddyinfoNormalRow.lifted == Tryz.prog.liftsFinal)) = true := by kernel_rfl
theorem fact_mk : ((Tryz.prog.make == some Rows.fnBuddyinfoNormalRow.make)) = true := by kernel_rfl
theorem fact_pn : ((Rows.fnBuddyinfoNormalRow.pinned == Rows.fnBuddyinfoNormalRow.pinnedBy)) = true := by kernel_rfl
theorem fact_ve : ((Rows.fnBuddyinfoNormalRow.veiled == (Tryz.f4.params.toList ++ Rows.fnBuddyinfoNormalSpec.plain.varTypes Tryz.prog ++ Tryz.f4.resultTypes.toList).any (Tryz.prog.veiledRec ·))) = true := by kernel_rfl
theorem fact_vf : (Rows.fnBuddyinfoNormalRow.veiledFits Tryz.prog Tryz.f4.params.toList (Tryz.f4.params.toList ++ Rows.fnBuddyinfoNormalSpec.plain.varTypes Tryz.prog ++ Tryz.f4.resultTypes.toList)) = true := by kernel_rfl
theorem facts : joinedFacts Tryz.prog 4 Tryz.f4 Rows.fnBuddyinfoNormalSpec Rows.fnBuddyinfoNormalRow = true := by
  unfold joinedFacts
  rw [fact_wf, fact_lo, fact_mr, fact_rd, fact_nt, fact_s1, fact_s2, fact_s3, fact_s4, fact_ip, fact_uf, fact_rc, fact_nm, fact_mp, fact_if_, fact_mo, fact_lp, fact_wk, fact_vr, fact_rt, fact_io, fact_lo2, fact_pk, fact_st, fact_sh, fact_me, fact_lf, fact_mk]
  simp only [Bool.true_and, Bool.and_eq_true]
  exact ⟨⟨⟨by kernel_rfl, fact_pn⟩, fact_ve⟩, fact_vf⟩
end Go.Proofs.YtdmpbaanonafbaaGreatDoor.fnBuddyinfoNormal
