/- Slashes at the ends of a path, and several of them between its parts, do not matter to how it is escaped: for every list of parts and of bytes, no condition. -/
import Derived.Test.YtlmmgienbmghmaaRows
import Derived.Test.YtlmmgienbmghmaaU3
import Derived.Test.YtlmmgienbmghmaaPurePath
import Derived.WalkKit
import Derived.ProofKit
import Derived.OpenShut
import Derived.ShutString
import Derived.ChangeOld
import Derived.Below
import Derived.SizedLaws
import Derived.SliceStrings
import Derived.Carry
namespace Go.Proofs.Ytlmmgienbmghmaa.PathRow
open Go.ChangeShapes Go.WideShapes Go.ChangeAt Go.RowKit Go.Proofs.YtlmmgienbmghmaaW.PrintWords
set_option linter.unusedVariables false
set_option linter.unusedSimpArgs false
theorem own : ownKnob Try.prog.godebug = none := by kernel_rfl
theorem laidOut : laidOutB Try.prog = true := by kernel_rfl
/-- A list of strings, as it lies in memory. -/
def IsStrs (w : World) (a : Option Addr) (len cap : Nat) (l : List ByteArray) : Prop := len = l.length ∧ len ≤ cap ∧ ReadsOf Value.string ByteArray.empty w a l.length l
/-- A list of bytes, as it lies in memory. -/
def IsNums (w : World) (a : Option Addr) (len cap : Nat) (l : List Int) : Prop := len = l.length ∧ len ≤ cap ∧ ReadsOf (Value.int .u8) 0 w a l.length l ∧ ∀ c ∈ l, 0 ≤ c ∧ c ≤ 255
set_option maxRecDepth 100000 in
theorem lifted (os : Os) (started : os.Started) (H : Type) (enc : TypeId × Value → H) :
    ReturnsInHanded {} Try.checked os 4 .any (Rows.fnPathSlashesSpec.pre6 enc Try.prog Try.f4 Rows.fnPathSlashesRow.domain false) (Rows.fnPathSlashesSpec.post enc Try.prog Try.f4 false true false false) := by
  refine returnsInHanded_of_change_sized (C := Try.checked) own started (by kernel_rfl) Try.func4
    (ChangeSpec.witness6 (enc := enc) (C := Try.checked) false ⟨#[], #[.slice none 0 0, .slice none 0 0], []⟩ 8 (by kernel_rfl) (by kernel_rfl) (by kernel_rfl) (by kernel_rfl)) ?_
  intro W base args ds gs before hval0 hW hcnd hsz0 _
  have hval : ∀ (j : Nat) t v, Try.f4.params[j]? = some t → args[j]? = some v → Value.okWide Try.prog W .any base t v := hval0
  have hW' := hW
  obtain ⟨p, q, hA0, hV, rfl, hfz, hnd⟩ := hW
  have hA : DataW.TrodAll enc Try.prog W 0 (fun _ => true) true Try.f4.params.toList args.toList ds p := hA0
  rw [Try.params4] at hA hval
  obtain ⟨v0, vs0, d0, ds0, p0, q0, hargs, rfl, rfl, h0, r0⟩ := trodAll_cons hA
  obtain ⟨v1, vs1, d1, ds1, p1, q1, rfl, rfl, rfl, h1, r1⟩ := trodAll_cons r0
  obtain ⟨rfl, rfl, rfl⟩ := trodAll_nil r1
  obtain rfl : args = #[v0, v1] := by cases args; simp_all
  obtain ⟨rfl, rfl⟩ := trodVars_none hV
  obtain ⟨a0, len0, cap0, rfl⟩ := okWide_slice Try.underlying25 (hval 0 25 v0 rfl rfl)
  obtain ⟨a1, len1, cap1, rfl⟩ := okWide_slice Try.underlying26 (hval 1 26 v1 rfl rfl)
  have k0 := h0
  have k1 := h1
  have lt0 : ∀ x ∈ p0, x.block < W.heap.size := by obtain ⟨m, hm⟩ := k0; exact DataW.trod_lt m _ _ _ hm
  have lt1 : ∀ x ∈ p1, x.block < W.heap.size := by obtain ⟨m, hm⟩ := k1; exact DataW.trod_lt m _ _ _ hm
  obtain ⟨l0, hl0⟩ : ∃ l, IsStrs W a0 len0 cap0 l := by
    obtain ⟨fuel, hf⟩ := h0
    rcases open_strings Try.underlying25 Try.underlying9 (by kernel_rfl) hf with ⟨hcs, _⟩ | ⟨x, l, c, ss, hcs, _, hl, hm, hz, _, hcell, _⟩
    · simp [Value.cells] at hcs
      obtain ⟨rfl, rfl, rfl⟩ := hcs
      exact ⟨[], rfl, Nat.le_refl _, rfl, by simp, fun h => by simp at h⟩
    · simp [Value.cells] at hcs
      obtain ⟨rfl, rfl, rfl⟩ := hcs
      have hz' : ss.length = cap0 := by simpa using hz
      unfold maxLen at hm
      have htl : (ss.take len0).length = len0 := by rw [List.length_take]; omega
      refine ⟨ss.take len0, htl.symm, hl, rfl, by omega, fun _ => ⟨_, rfl, fun j hj => ?_⟩⟩
      rw [hcell j (by omega)]
      rw [htl] at hj
      simp [List.getD_eq_getElem?_getD, hj]
  obtain ⟨l1, hl1⟩ : ∃ l, IsNums W a1 len1 cap1 l := by
    obtain ⟨fuel, hf⟩ := h1
    rcases open_ints Try.underlying26 Try.underlying5 (by kernel_rfl) hf with ⟨hcs, _⟩ | ⟨x, l, c, zs, hcs, _, hl, hm, hz, _, hcell, hwz⟩
    · simp [Value.cells] at hcs
      obtain ⟨rfl, rfl, rfl⟩ := hcs
      exact ⟨[], rfl, Nat.le_refl _, ⟨rfl, by simp, fun h => by simp at h⟩, by simp⟩
    · simp [Value.cells] at hcs
      obtain ⟨rfl, rfl, rfl⟩ := hcs
      have hz' : zs.length = cap1 := by simpa using hz
      unfold maxLen at hm
      have htl : (zs.take len1).length = len1 := by rw [List.length_take]; omega
      refine ⟨zs.take len1, htl.symm, hl, ⟨rfl, by omega, fun _ => ⟨_, rfl, fun j hj => ?_⟩⟩, fun c hc => ?_⟩
      · rw [hcell j (by omega)]
        rw [htl] at hj
        simp [List.getD_eq_getElem?_getD, hj]
      · have h := hwz c (List.mem_of_mem_take hc)
        simp only [Lit.wf, Bool.and_eq_true, decide_eq_true_eq] at h
        have hmin : IntKind.u8.min = 0 := rfl
        have hmax : IntKind.u8.max = 255 := rfl
        omega
  obtain ⟨rfl, hc0, hr0⟩ := hl0
  obtain ⟨rfl, hc1, hr1, hb1⟩ := hl1
  clear hA0 hval0 hsz0
  obtain ⟨k, hk⟩ := PurePath.pure l0 l1 hb1
  refine (U.laws_FnPathSlashes.calls k a0 cap0 l0 a1 cap1 l1 true W (Kd.C_of_reads hr0) hc0 (Kd.C_of_reads hr1) hc1 hk).mono ?_
  rintro e W' ⟨rfl, hd⟩
  have bel : Below W.heap.size W W' := by first | exact hd | exact hd.below
  exact ⟨_, rfl, _, _, _, [], _, [], hW', trodAll_mk1 (shut_bool Try.underlying4 _), (trodAll_cons_mk (Below.trod laidOut (by kernel_rfl) (of_decide_eq_true (by kernel_rfl)) k0 bel lt0) (trodAll_cons_mk (Below.trod laidOut (by kernel_rfl) (of_decide_eq_true (by kernel_rfl)) k1 bel lt1) trodAll_mk0)), rfl, bel.frame _, fun h => by cases h⟩
theorem over : Rows.fnPathSlashesRow.holds Try.pinned (OpenSpec.ofChange Rows.fnPathSlashesSpec) :=
  OpenClaim.holds_of_wide 4 Try.f4 rfl rfl rfl rfl rfl rfl rfl ⟨rfl, rfl, rfl, rfl, rfl⟩ rfl rfl rfl rfl rfl (by kernel_rfl) Try.func4 (by kernel_rfl)
    (of_decide_eq_true (by kernel_rfl)) (by unfold Func.isWrapper; first | (rw [if_pos (by decide +kernel)]; kernel_rfl) | (rw [if_neg (by decide +kernel)]; exact ⟨rfl, rfl⟩))
    (fun os started H enc _ => lifted os started H enc)
end Go.Proofs.Ytlmmgienbmghmaa.PathRow
namespace Go.Proofs.Ytlmmgienbmghmaa
/-- The row, for the claim. -/
theorem fnPathSlashes_holds : Rows.FnPathSlashesSaid := PathRow.over
#print axioms fnPathSlashes_holds
end Go.Proofs.Ytlmmgienbmghmaa
