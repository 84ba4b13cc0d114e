/- The closed facts of the row of FnMountsBoth, one by one. -/
import Derived.Test.YtokojamaigebaaaDoorRows
import Derived.JoinedOf
import Derived.KernelRfl
namespace Go.Proofs.YtokojamaigebaaaDoor.fnMountsBoth

theorem fact_wf : (Rows.fnMountsBothRow.wf (OpenSpec.ofChange Rows.fnMountsBothSpec)) = true := by kernel_rfl
theorem fact_lo : (laidOutB Tryd.prog) = true := by kernel_rfl
theorem fact_mr : (mapsRowed Tryd.prog) = true := by kernel_rfl
theorem fact_rd : (Tryd.f3.params.all (Tryd.prog.readableRec ·)) = true := by kernel_rfl
theorem fact_nt : (namedTie Tryd.prog Rows.fnMountsBothRow.named Rows.fnMountsBothSpec.vars) = true := by kernel_rfl
theorem fact_s1 : ((Rows.fnMountsBothRow.stops == [])) = true := by kernel_rfl
theorem fact_s2 : ((Tryd.prog.stops == [])) = true := by kernel_rfl
theorem fact_s3 : ((Rows.fnMountsBothRow.knobs == [])) = true := by kernel_rfl
theorem fact_s4 : ((Tryd.prog.stopKnobs == [])) = true := by kernel_rfl
theorem fact_ip : ((Rows.fnMountsBothRow.inPlace == Tryd.prog.inPlace 3)) = true := by kernel_rfl
theorem fact_uf : ((Rows.fnMountsBothRow.unfollowed == Tryd.prog.unfollowed 3)) = true := by kernel_rfl
theorem fact_rc : ((Rows.fnMountsBothRow.recurses == Tryd.prog.recurses 3)) = true := by kernel_rfl
theorem fact_nm : ((Rows.fnMountsBothRow.named == Tryd.prog.varsNamed 3)) = true := by kernel_rfl
theorem fact_mp : ((Rows.fnMountsBothRow.maps == (Tryd.f3.params.toList ++ Rows.fnMountsBothSpec.plain.varTypes Tryd.prog).any (Tryd.prog.mapsRec ·))) = true := by kernel_rfl
theorem fact_if_ : ((Rows.fnMountsBothRow.ifaces == (Tryd.f3.params.toList ++ Rows.fnMountsBothSpec.plain.varTypes Tryd.prog).any (Tryd.prog.ifacesRec ·))) = true := by kernel_rfl
theorem fact_mo : ((Rows.fnMountsBothRow.mapsOut == Tryd.prog.mapsAmong Tryd.f3.resultTypes.toList)) = true := by kernel_rfl
theorem fact_lp : ((Rows.fnMountsBothRow.loops == (Tryd.f3.params.toList ++ Rows.fnMountsBothSpec.plain.varTypes Tryd.prog).any (Tryd.prog.loopsFrom ·))) = true := by kernel_rfl
theorem fact_wk : ((Rows.fnMountsBothRow.wideKeys == (Tryd.f3.params.toList ++ Rows.fnMountsBothSpec.plain.varTypes Tryd.prog ++ Tryd.f3.resultTypes.toList).any (Tryd.prog.wideKeysFrom ·))) = true := by kernel_rfl
theorem fact_vr : (Rows.fnMountsBothSpec.vars.all (Tryd.prog.varReadable ·)) = true := by kernel_rfl
theorem fact_rt : (Tryd.f3.resultTypes.all (fun t => Tryd.prog.readableRec t && decide (t < Tryd.prog.types.size))) = true := by kernel_rfl
theorem fact_io : ((Rows.fnMountsBothRow.ifacesOut == Tryd.f3.resultTypes.toList.any (Tryd.prog.ifacesRec ·))) = true := by kernel_rfl
theorem fact_lo2 : ((Rows.fnMountsBothRow.loopsOut == Tryd.f3.resultTypes.toList.any (Tryd.prog.loopsFrom ·))) = true := by kernel_rfl
theorem fact_pk : ((Rows.fnMountsBothRow.plainKeys == Tryd.prog.plainKeys)) = true := by kernel_rfl
theorem fact_st : (Rows.fnMountsBothRow.shortTexts.isNone) = true := by kernel_rfl
theorem fact_sh : (Tryd.prog.stopsHeard) = true := by kernel_rfl
theorem fact_me : (Tryd.prog.mayEnter) = true := by kernel_rfl
theorem fact_lf : ((Rows.fnMountsBothRow.lifted == Tryd.prog.liftsFinal)) = true := by kernel_rfl
theorem fact_mk : ((Tryd.prog.make == some Rows.fnMountsBothRow.make)) = true := by kernel_rfl
theorem fact_pn : ((Rows.fnMountsBothRow.pinned == Rows.fnMountsBothRow.pinnedBy)) = true := by kernel_rfl
theorem fact_ve : ((Rows.fnMountsBothRow.veiled == (Tryd.f3.params.toList ++ Rows.fnMountsBothSpec.plain.varTypes Tryd.prog ++ Tryd.f3.resultTypes.toList).any (Tryd.prog.veiledRec ·))) = true := by kernel_rfl
theorem fact_vf : (Rows.fnMountsBothRow.veiledFits Tryd.prog Tryd.f3.params.toList (Tryd.f3.params.toList ++ Rows.fnMountsBothSpec.plain.varTypes Tryd.prog ++ Tryd.f3.resultTypes.toList)) = true := by kernel_rfl
theorem facts : joinedFacts Tryd.prog 3 Tryd.f3 Rows.fnMountsBothSpec Rows.fnMountsBothRow = true := by
  unfold joinedFacts
  rw [fact_wf, fact_lo, fact_mr, fact_rd, fact_nt, fact_s1, fact_s2, fact_s3, fact_s4, fact_ip, fact_uf, fact_rc, fact_nm, fact_mp, fact_if_, fact_mo, fact_lp, fact_wk, fact_vr, fact_rt, fact_io, fact_lo2, fact_pk, fact_st, fact_sh, fact_me, fact_lf, fact_mk]
  simp only [Bool.true_and, Bool.and_eq_true]
  exact ⟨⟨⟨by kernel_rfl, fact_pn⟩, fact_ve⟩, fact_vf⟩
end Go.Proofs.YtokojamaigebaaaDoor.fnMountsBoth
