/- The closed facts of the row of FnMountsRead, one by one. -/
import Derived.Test.YtokojamaigebaaaDoorRows
import Derived.JoinedOf
import Derived.KernelRfl
namespace Go.Proofs.YtokojamaigebaaaDoor.fnMountsRead

theorem fact_wf : (Rows.fnMountsReadRow.wf (OpenSpec.ofChange Rows.fnMountsReadSpec)) = true := by kernel_rfl
theorem fact_lo : (laidOutB Tryd.prog) = true := by kernel_rfl
theorem fact_mr : (mapsRowed Tryd.prog) = true := by kernel_rfl
theorem fact_rd : (Tryd.f5.params.all (Tryd.prog.readableRec ·)) = true := by kernel_rfl
theorem fact_nt : (namedTie Tryd.prog Rows.fnMountsReadRow.named Rows.fnMountsReadSpec.vars) = true := by kernel_rfl
theorem fact_s1 : ((Rows.fnMountsReadRow.stops == [])) = true := by kernel_rfl
theorem fact_s2 : ((Tryd.prog.stops == [])) = true := by kernel_rfl
theorem fact_s3 : ((Rows.fnMountsReadRow.knobs == [])) = true := by kernel_rfl
theorem fact_s4 : ((Tryd.prog.stopKnobs == [])) = true := by kernel_rfl
theorem fact_ip : ((Rows.fnMountsReadRow.inPlace == Tryd.prog.inPlace 5)) = true := by kernel_rfl
theorem fact_uf : ((Rows.fnMountsReadRow.unfollowed == Tryd.prog.unfollowed 5)) = true := by kernel_rfl
theorem fact_rc : ((Rows.fnMountsReadRow.recurses == Tryd.prog.recurses 5)) = true := by kernel_rfl
theorem fact_nm : ((Rows.fnMountsReadRow.named == Tryd.prog.varsNamed 5)) = true := by kernel_rfl
theorem fact_mp : ((Rows.fnMountsReadRow.maps == (Tryd.f5.params.toList ++ Rows.fnMountsReadSpec.plain.varTypes Tryd.prog).any (Tryd.prog.mapsRec ·))) = true := by kernel_rfl
theorem fact_if_ : ((Rows.fnMountsReadRow.ifaces == (Tryd.f5.params.toList ++ Rows.fnMountsReadSpec.plain.varTypes Tryd.prog).any (Tryd.prog.ifacesRec ·))) = true := by kernel_rfl
theorem fact_mo : ((Rows.fnMountsReadRow.mapsOut == Tryd.prog.mapsAmong Tryd.f5.resultTypes.toList)) = true := by kernel_rfl
theorem fact_lp : ((Rows.fnMountsReadRow.loops == (Tryd.f5.params.toList ++ Rows.fnMountsReadSpec.plain.varTypes Tryd.prog).any (Tryd.prog.loopsFrom ·))) = true := by kernel_rfl
theorem fact_wk : ((Rows.fnMountsReadRow.wideKeys == (Tryd.f5.params.toList ++ Rows.fnMountsReadSpec.plain.varTypes Tryd.prog ++ Tryd.f5.resultTypes.toList).any (Tryd.prog.wideKeysFrom ·))) = true := by kernel_rfl
theorem fact_vr : (Rows.fnMountsReadSpec.vars.all (Tryd.prog.varReadable ·)) = true := by kernel_rfl
theorem fact_rt : (Tryd.f5.resultTypes.all (fun t => Tryd.prog.readableRec t && decide (t < Tryd.prog.types.size))) = true := by kernel_rfl
theorem fact_io : ((Rows.fnMountsReadRow.ifacesOut == Tryd.f5.resultTypes.toList.any (Tryd.prog.ifacesRec ·))) = true := by kernel_rfl
theorem fact_lo2 : ((Rows.fnMountsReadRow.loopsOut == Tryd.f5.resultTypes.toList.any (Tryd.prog.loopsFrom ·))) = true := by kernel_rfl
theorem fact_pk : ((Rows.fnMountsReadRow.plainKeys == Tryd.prog.plainKeys)) = true := by kernel_rfl
theorem fact_st : (Rows.fnMountsReadRow.shortTexts.isNone) = true := by kernel_rfl
theorem fact_sh : (Tryd.prog.stopsHeard) = true := by kernel_rfl
theorem fact_me : (Tryd.prog.mayEnter) = true := by kernel_rfl
theorem fact_lf : ((Rows.fnMountsReadRow.lifted == Tryd.prog.liftsFinal)) = true := by kernel_rfl
theorem fact_mk : ((Tryd.prog.make == some Rows.fnMountsReadRow.make)) = true := by kernel_rfl
theorem fact_pn : ((Rows.fnMountsReadRow.pinned == Rows.fnMountsReadRow.pinnedBy)) = true := by kernel_rfl
theorem fact_ve : ((Rows.fnMountsReadRow.veiled == (Tryd.f5.params.toList ++ Rows.fnMountsReadSpec.plain.varTypes Tryd.prog ++ Tryd.f5.resultTypes.toList).any (Tryd.prog.veiledRec ·))) = true := by kernel_rfl
theorem fact_vf : (Rows.fnMountsReadRow.veiledFits Tryd.prog Tryd.f5.params.toList (Tryd.f5.params.toList ++ Rows.fnMountsReadSpec.plain.varTypes Tryd.prog ++ Tryd.f5.resultTypes.toList)) = true := by kernel_rfl
theorem facts : joinedFacts Tryd.prog 5 Tryd.f5 Rows.fnMountsReadSpec Rows.fnMountsReadRow = true := by
  unfold joinedFacts
  rw [fact_wf, fact_lo, fact_mr, fact_rd, fact_nt, fact_s1, fact_s2, fact_s3, fact_s4, fact_ip, fact_uf, fact_rc, fact_nm, fact_mp, fact_if_, fact_mo, fact_lp, fact_wk, fact_vr, fact_rt, fact_io, fact_lo2, fact_pk, fact_st, fact_sh, fact_me, fact_lf, fact_mk]
  simp only [Bool.true_and, Bool.and_eq_true]
  exact ⟨⟨⟨by kernel_rfl, fact_pn⟩, fact_ve⟩, fact_vf⟩
end Go.Proofs.YtokojamaigebaaaDoor.fnMountsRead
