/- The closed facts of the row of FnUnitRead, one by one. -/
import Derived.Test.YtlmmgienbmghmaaDoorRows
import Derived.JoinedOf
import Derived.KernelRfl
namespace Go.Proofs.YtlmmgienbmghmaaDoor.fnUnitRead

theorem fact_wf : (Rows.fnUnitReadRow.wf (OpenSpec.ofChange Rows.fnUnitReadSpec)) = true := by kernel_rfl
theorem fact_lo : (laidOutB Tryd.prog) = true := by kernel_rfl
theorem fact_mr : (mapsRowed Tryd.prog) = true := by kernel_rfl
theorem fact_rd : (Tryd.f5.params.all (Tryd.prog.readableRec ·)) = true := by kernel_rfl
theorem fact_nt : (namedTie Tryd.prog Rows.fnUnitReadRow.named Rows.fnUnitReadSpec.vars) = true := by kernel_rfl
theorem fact_s1 : ((Rows.fnUnitReadRow.stops == [])) = true := by kernel_rfl
theorem fact_s2 : ((Tryd.prog.stops == [])) = true := by kernel_rfl
theorem fact_s3 : ((Rows.fnUnitReadRow.knobs == [])) = true := by kernel_rfl
theorem fact_s4 : ((Tryd.prog.stopKnobs == [])) = true := by kernel_rfl
theorem fact_ip : ((Rows.fnUnitReadRow.inPlace == Tryd.prog.inPlace 5)) = true := by kernel_rfl
theorem fact_uf : ((Rows.fnUnitReadRow.unfollowed == Tryd.prog.unfollowed 5)) = true := by kernel_rfl
theorem fact_rc : ((Rows.fnUnitReadRow.recurses == Tryd.prog.recurses 5)) = true := by kernel_rfl
theorem fact_nm : ((Rows.fnUnitReadRow.named == Tryd.prog.varsNamed 5)) = true := by kernel_rfl
theorem fact_mp : ((Rows.fnUnitReadRow.maps == (Tryd.f5.params.toList ++ Rows.fnUnitReadSpec.plain.varTypes Tryd.prog).any (Tryd.prog.mapsRec ·))) = true := by kernel_rfl
theorem fact_if_ : ((Rows.fnUnitReadRow.ifaces == (Tryd.f5.params.toList ++ Rows.fnUnitReadSpec.plain.varTypes Tryd.prog).any (Tryd.prog.ifacesRec ·))) = true := by kernel_rfl
theorem fact_mo : ((Rows.fnUnitReadRow.mapsOut == Tryd.prog.mapsAmong Tryd.f5.resultTypes.toList)) = true := by kernel_rfl
theorem fact_lp : ((Rows.fnUnitReadRow.loops == (Tryd.f5.params.toList ++ Rows.fnUnitReadSpec.plain.varTypes Tryd.prog).any (Tryd.prog.loopsFrom ·))) = true := by kernel_rfl
theorem fact_wk : ((Rows.fnUnitReadRow.wideKeys == (Tryd.f5.params.toList ++ Rows.fnUnitReadSpec.plain.varTypes Tryd.prog ++ Tryd.f5.resultTypes.toList).any (Tryd.prog.wideKeysFrom ·))) = true := by kernel_rfl
theorem fact_vr : (Rows.fnUnitReadSpec.vars.all (Tryd.prog.varReadable ·)) = true := by kernel_rfl
theorem fact_rt : (Tryd.f5.resultTypes.all (fun t => Tryd.prog.readableRec t && decide (t < Tryd.prog.types.size))) = true := by kernel_rfl
theorem fact_io : ((Rows.fnUnitReadRow.ifacesOut == Tryd.f5.resultTypes.toList.any (Tryd.prog.ifacesRec ·))) = true := by kernel_rfl
theorem fact_lo2 : ((Rows.fnUnitReadRow.loopsOut == Tryd.f5.resultTypes.toList.any (Tryd.prog.loopsFrom ·))) = true := by kernel_rfl
theorem fact_pk : ((Rows.fnUnitReadRow.plainKeys == Tryd.prog.plainKeys)) = true := by kernel_rfl
theorem fact_st : (Rows.fnUnitReadRow.shortTexts.isNone) = true := by kernel_rfl
theorem fact_sh : (Tryd.prog.stopsHeard) = true := by kernel_rfl
theorem fact_me : (Tryd.prog.mayEnter) = true := by kernel_rfl
theorem fact_lf : ((Rows.fnUnitReadRow.lifted == Tryd.prog.liftsFinal)) = true := by kernel_rfl
theorem fact_mk : ((Tryd.prog.make == some Rows.fnUnitReadRow.make)) = true := by kernel_rfl
theorem fact_pn : ((Rows.fnUnitReadRow.pinned == Rows.fnUnitReadRow.pinnedBy)) = true := by kernel_rfl
theorem fact_ve : ((Rows.fnUnitReadRow.veiled == (Tryd.f5.params.toList ++ Rows.fnUnitReadSpec.plain.varTypes Tryd.prog ++ Tryd.f5.resultTypes.toList).any (Tryd.prog.veiledRec ·))) = true := by kernel_rfl
theorem fact_vf : (Rows.fnUnitReadRow.veiledFits Tryd.prog Tryd.f5.params.toList (Tryd.f5.params.toList ++ Rows.fnUnitReadSpec.plain.varTypes Tryd.prog ++ Tryd.f5.resultTypes.toList)) = true := by kernel_rfl
theorem facts : joinedFacts Tryd.prog 5 Tryd.f5 Rows.fnUnitReadSpec Rows.fnUnitReadRow = true := by
  unfold joinedFacts
  rw [fact_wf, fact_lo, fact_mr, fact_rd, fact_nt, fact_s1, fact_s2, fact_s3, fact_s4, fact_ip, fact_uf, fact_rc, fact_nm, fact_mp, fact_if_, fact_mo, fact_lp, fact_wk, fact_vr, fact_rt, fact_io, fact_lo2, fact_pk, fact_st, fact_sh, fact_me, fact_lf, fact_mk]
  simp only [Bool.true_and, Bool.and_eq_true]
  exact ⟨⟨⟨by kernel_rfl, fact_pn⟩, fact_ve⟩, fact_vf⟩
end Go.Proofs.YtlmmgienbmghmaaDoor.fnUnitRead
