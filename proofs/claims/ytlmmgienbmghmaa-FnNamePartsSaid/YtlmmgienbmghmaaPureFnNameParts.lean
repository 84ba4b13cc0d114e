/- What is escaped in two parts, of which the second does not begin with a dot, is both parts' escapes, one behind the other: every two texts (the law itself lets texts above 2,000 bytes by). -/
import Derived.Test.YtlmmgienbmghmaaU2
import Derived.Test.YtlmmgienbmghmaaEsc
set_option linter.unusedVariables false
set_option linter.unusedSimpArgs false
namespace Go.Proofs.Ytlmmgienbmghmaa.Pure
open Go.RowKit Go.Proofs.Ytlmmgienbmghmaa.U Go.Proofs.Ytlmmgienbmghmaa.Giv Go.Proofs.YtlmmgienbmghmaaW.PrintWords Go.Proofs.YtlmmgienbmghmaaW.PrintLast Go.Proofs.YtlmmgienbmghmaaPl Go.Proofs.Ytlmmgienbmghmaa.Esc

theorem begins_dot (b : ByteArray) : ∃ t, laws_begins.f b ⟨#[46]⟩ = some t ∧ (t = false → ∀ c cs, bytesOf b = c :: cs → c ≠ 46) := by
  unfold laws_begins.f
  have h1 : ((⟨#[46]⟩ : ByteArray).size : Int) = 1 := rfl
  rw [h1]
  by_cases hb : (b.size : Int) ≥ 1
  · rw [if_pos hb, if_pos (by omega), if_pos (by omega)]
    refine ⟨_, rfl, fun hf c cs hc he => ?_⟩
    subst he
    have e2 : (b.extract 0 ((1 : Int) : Int).toNat).toList = [46] := by
      rw [Lib.extract_toList]
      unfold bytesOf at hc
      cases hd : b.data.toList with
      | nil => rw [hd] at hc; simp at hc
      | cons x xs =>
        rw [hd, List.map_cons] at hc
        injection hc with hx _
        have hx2 : x = 46 := by
          apply UInt8.toNat_inj.1
          have hx2 : (x.toNat : Int) = 46 := hx
          have : (46 : UInt8).toNat = 46 := rfl
          omega
        subst hx2
        rfl
    rw [e2, Lib.toList_data] at hf
    exact absurd hf (by decide)
  · rw [if_neg hb]
    refine ⟨_, rfl, fun _ c cs hc => ?_⟩
    have := congrArg List.length hc
    rw [bytesOf_length] at this
    simp at this
    omega

theorem FnNameParts : laws_FnNameParts.Pure := by
  intro a b ha hb
  obtain ⟨K, hK⟩ := escapes_is
  have hj1 : ∀ k, laws_FnNameParts.j1 (k + 1) a b true = some true := fun k => by simp only [laws_FnNameParts.j1]; rw [if_pos trivial]
  refine ⟨K + 20000 + 2, ?_⟩
  unfold laws_FnNameParts.f
  by_cases c1 : (a.size : Int) > 2147483647
  · rw [if_pos c1]
    simp only [laws_FnNameParts.j0]
    rw [if_pos trivial]
  · rw [if_neg c1]
    simp only [laws_FnNameParts.j0]
    by_cases c2 : decide ((b.size : Int) > 2147483647) = true
    · rw [if_pos c2]
    · rw [if_neg c2]
      by_cases c3 : (a.size : Int) > 2000
      · rw [if_pos c3, hj1]
      · rw [if_neg c3]
        by_cases c4 : (b.size : Int) > 2000
        · rw [if_pos c4, hj1]
        · rw [if_neg c4]
          obtain ⟨t, ht, hdot⟩ := begins_dot b
          rw [ht, Option.bind_some]
          cases t with
          | true => rw [if_pos rfl, hj1]
          | false =>
            rw [if_neg (by simp)]
            cases c5 : (a.toList == ([] : List UInt8)) with
            | true => exact hj1 _
            | false =>
              simp only [laws_FnNameParts.j1]
              have hsz : (a ++ b).size = a.size + b.size := by rw [← bytesOf_length, bytes_append, List.length_append, bytesOf_length, bytesOf_length]
              have hne : bytesOf a ≠ [] := by
                intro h0
                have : a.data.toList = [] := by
                  unfold bytesOf at h0
                  exact List.map_eq_nil_iff.1 h0
                rw [Lib.toList_data, this] at c5
                exact absurd c5 (by decide)
              rw [if_neg (by simp), if_pos (by omega), name_is (a ++ b) (by omega) _ (by omega), name_is a (by omega) _ (by omega), name_is b (by omega) _ (by omega)]
              simp only [Option.bind_some]
              have hall : all true (bytesOf (a ++ b)) = all true (bytesOf a) ++ all true (bytesOf b) := by
                rw [bytes_append, all_append _ _ _ hne, all_start _ (hdot rfl)]
              have hlen : ∀ (l : List Int) (st : Bool), (∀ c ∈ l, 0 ≤ c ∧ c ≤ 255) → (all st l).length ≤ 4 * l.length := by
                intro l
                induction l with
                | nil => intro st _; simp [all]
                | cons c cs ih =>
                  intro st h
                  rw [all, List.length_append, List.length_cons]
                  have h1 := one_len st c (h c List.mem_cons_self).1 (h c List.mem_cons_self).2
                  have h2 := ih false (fun d hd => h d (List.mem_cons_of_mem _ hd))
                  omega
              have la := hlen (bytesOf a) true (bytes_range a)
              have lb := hlen (bytesOf b) true (bytes_range b)
              rw [bytesOf_length] at la lb
              rw [if_pos (by rw [strOfNums_size, strOfNums_size]; omega), if_pos (by rw [hall, ofNums_append])]
              rw [hK _ (by omega)]
              rfl
end Go.Proofs.Ytlmmgienbmghmaa.Pure
