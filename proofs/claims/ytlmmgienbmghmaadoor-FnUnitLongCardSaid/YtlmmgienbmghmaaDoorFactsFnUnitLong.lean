/- The closed facts of the row of FnUnitLong, one by one. -/
import Derived.Test.YtlmmgienbmghmaaDoorRows
import Derived.JoinedOf
import Derived.KernelRfl
namespace Go.Proofs.YtlmmgienbmghmaaDoor.fnUnitLong

theorem fact_wf : (Rows.fnUnitLongRow.wf (OpenSpec.ofChange Rows.fnUnitLongSpec)) = true := by kernel_rfl
theorem fact_lo : (laidOutB Tryd.prog) = true := by kernel_rfl
theorem fact_mr : (mapsRowed Tryd.prog) = true := by kernel_rfl
theorem fact_rd : (Tryd.f4.params.all (Tryd.prog.readableRec ·)) = true := by kernel_rfl
theorem fact_nt : (namedTie Tryd.prog Rows.fnUnitLongRow.named Rows.fnUnitLongSpec.vars) = true := by kernel_rfl
theorem fact_s1 : ((Rows.fnUnitLongRow.stops == [])) = true := by kernel_rfl
theorem fact_s2 : ((Tryd.prog.stops == [])) = true := by kernel_rfl
theorem fact_s3 : ((Rows.fnUnitLongRow.knobs == [])) = true := by kernel_rfl
theorem fact_s4 : ((Tryd.prog.stopKnobs == [])) = true := by kernel_rfl
theorem fact_ip : ((Rows.fnUnitLongRow.inPlace == Tryd.prog.inPlace 4)) = true := by kernel_rfl
theorem fact_uf : ((Rows.fnUnitLongRow.unfollowed == Tryd.prog.unfollowed 4)) = true := by kernel_rfl
theorem fact_rc : ((Rows.fnUnitLongRow.recurses == Tryd.prog.recurses 4)) = true := by kernel_rfl
theorem fact_nm : ((Rows.fnUnitLongRow.named == Tryd.prog.varsNamed 4)) = true := by kernel_rfl
theorem fact_mp : ((Rows.fnUnitLongRow.maps == (Tryd.f4.params.toList ++ Rows.fnUnitLongSpec.plain.varTypes Tryd.prog).any (Tryd.prog.mapsRec ·))) = true := by kernel_rfl
theorem fact_if_ : ((Rows.fnUnitLongRow.ifaces == (Tryd.f4.params.toList ++ Rows.fnUnitLongSpec.plain.varTypes Tryd.prog).any (Tryd.prog.ifacesRec ·))) = true := by kernel_rfl
theorem fact_mo : ((Rows.fnUnitLongRow.mapsOut == Tryd.prog.mapsAmong Tryd.f4.resultTypes.toList)) = true := by kernel_rfl
theorem fact_lp : ((Rows.fnUnitLongRow.loops == (Tryd.f4.params.toList ++ Rows.fnUnitLongSpec.plain.varTypes Tryd.prog).any (Tryd.prog.loopsFrom ·))) = true := by kernel_rfl
theorem fact_wk : ((Rows.fnUnitLongRow.wideKeys == (Tryd.f4.params.toList ++ Rows.fnUnitLongSpec.plain.varTypes Tryd.prog ++ Tryd.f4.resultTypes.toList).any (Tryd.prog.wideKeysFrom ·))) = true := by kernel_rfl
theorem fact_vr : (Rows.fnUnitLongSpec.vars.all (Tryd.prog.varReadable ·)) = true := by kernel_rfl
theorem fact_rt : (Tryd.f4.resultTypes.all (fun t => Tryd.prog.readableRec t && decide (t < Tryd.prog.types.size))) = true := by kernel_rfl
theorem fact_io : ((Rows.fnUnitLongRow.ifacesOut == Tryd.f4.resultTypes.toList.any (Tryd.prog.ifacesRec ·))) = true := by kernel_rfl
theorem fact_lo2 : ((Rows.fnUnitLongRow.loopsOut == Tryd.f4.resultTypes.toList.any (Tryd.prog.loopsFrom ·))) = true := by kernel_rfl
theorem fact_pk : ((Rows.fnUnitLongRow.plainKeys == Tryd.prog.plainKeys)) = true := by kernel_rfl
theorem fact_st : (Rows.fnUnitLongRow.shortTexts.isNone) = true := by kernel_rfl
theorem fact_sh : (Tryd.prog.stopsHeard) = true := by kernel_rfl
theorem fact_me : (Tryd.prog.mayEnter) = true := by kernel_rfl
theorem fact_lf : ((Rows.fnUnitLongRow.lifted == Tryd.prog.liftsFinal)) = true := by kernel_rfl
theorem fact_mk : ((Tryd.prog.make == some Rows.fnUnitLongRow.make)) = true := by kernel_rfl
theorem fact_pn : ((Rows.fnUnitLongRow.pinned == Rows.fnUnitLongRow.pinnedBy)) = true := by kernel_rfl
theorem fact_ve : ((Rows.fnUnitLongRow.veiled == (Tryd.f4.params.toList ++ Rows.fnUnitLongSpec.plain.varTypes Tryd.prog ++ Tryd.f4.resultTypes.toList).any (Tryd.prog.veiledRec ·))) = true := by kernel_rfl
theorem fact_vf : (Rows.fnUnitLongRow.veiledFits Tryd.prog Tryd.f4.params.toList (Tryd.f4.params.toList ++ Rows.fnUnitLongSpec.plain.varTypes Tryd.prog ++ Tryd.f4.resultTypes.toList)) = true := by kernel_rfl
theorem facts : joinedFacts Tryd.prog 4 Tryd.f4 Rows.fnUnitLongSpec Rows.fnUnitLongRow = true := by
  unfold joinedFacts
  rw [fact_wf, fact_lo, fact_mr, fact_rd, fact_nt, fact_s1, fact_s2, fact_s3, fact_s4, fact_ip, fact_uf, fact_rc, fact_nm, fact_mp, fact_if_, fact_mo, fact_lp, fact_wk, fact_vr, fact_rt, fact_io, fact_lo2, fact_pk, fact_st, fact_sh, fact_me, fact_lf, fact_mk]
  simp only [Bool.true_and, Bool.and_eq_true]
  exact ⟨⟨⟨by kernel_rfl, fact_pn⟩, fact_ve⟩, fact_vf⟩
end Go.Proofs.YtlmmgienbmghmaaDoor.fnUnitLong
