/- Any text as /proc/PID/statm that means something is read as that, written anew in the documented form, is: every text (the law itself lets texts of more than 40,000 bytes by). -/
import Derived.Test.YtdmpbaanonafbaaGreatDoorQ8
import Derived.Test.YtdmpbaanonafbaaGreatDoorTrees
set_option linter.unusedVariables false
set_option linter.unusedSimpArgs false
namespace Go.Proofs.YtdmpbaanonafbaaGreatDoor.Pure
open Go.RowKit Go.Proofs.YtdmpbaanonafbaaGreatDoor.Q Go.Proofs.YtdmpbaanonafbaaGreatDoor.E Go.Proofs.YtdmpbaanonafbaaGreatDoor.DoorStatm Go.Proofs.YtdmpbaanonafbaaGreatDoor.Lives Go.Proofs.YtdmpbaanonafbaaGreatDoor.GivZ Go.Proofs.YtdmpbaanonafbaaGreatDoor.GivDec Go.Proofs.YtdmpbaanonafbaaGreatDoorW.PrintWords Go.Proofs.YtdmpbaanonafbaaGreatDoorW.PrintLast Go.Proofs.YtdmpbaanonafbaaGreatDoor.Texts Go.Proofs.YtdmpbaanonafbaaGreatDoor.Trees Go.Proofs.YtdmpbaanonafbaaGreatDoorPt

theorem parse_loop (xs : List ByteArray) (vs : List Int) (h : allDec xs vs) (hl : xs.length ≤ 200000) (hs : ∀ x ∈ xs, x.size ≤ 100000) (d : Nat) : ∀ (out : List Int) (i k : Nat), i ≤ xs.length → xs.length - i = d → out.length = i → d < k →
    procfs_parseStatm.l0 k out xs (xs.length : Int) (i : Int) = some (out ++ vs.drop i, none) := by
  have hlen := allDec_len xs vs h
  induction d with
  | zero =>
    intro out i k h1 hd ho hk
    obtain ⟨k, rfl⟩ : ∃ m, k = m + 1 := ⟨k - 1, by omega⟩
    simp only [procfs_parseStatm.l0]
    rw [if_neg (by omega), List.drop_of_length_le (by omega), List.append_nil]
  | succ d ih =>
    intro out i k h1 hd ho hk
    obtain ⟨k, rfl⟩ : ∃ m, k = m + 1 := ⟨k - 1, by omega⟩
    have hi : i < xs.length := by omega
    obtain ⟨v0, v1, sz, dv⟩ := allDec_get xs vs h i hi
    have hmem := getD_mem xs ByteArray.empty i hi
    have hsz := hs _ hmem
    have hrd : rdOf ByteArray.empty xs (i : Int) = xs.getD i ByteArray.empty := by simp [rdOf]
    have hv : ((vs.getD i 0).toNat : Int) = vs.getD i 0 := by omega
    have hdr := drop_list vs 0 i (by omega)
    generalize vs.getD i 0 = v at v0 v1 dv hv hdr
    generalize xs.getD i ByteArray.empty = x at sz dv hsz hrd
    have hP : strconv_ParseUint.f x 10 64 = some (v, none) := by
      unfold strconv_ParseUint.f
      rw [if_pos ⟨rfl, rfl, sz, by omega⟩, dv]
      simp only [Option.bind_some]
      rw [if_pos (by omega), hv]
    simp only [procfs_parseStatm.l0]
    rw [if_pos (by omega), if_pos (by omega), if_pos (by omega), hrd, hP]
    simp only [Option.bind_some]
    rw [if_pos (by rfl), if_pos (by omega), wrap_in (by omega) (by omega)]
    have := ih (out ++ [v]) (i + 1) k (by omega) (by omega) (by simp [ho]) (by omega)
    rw [hdr]
    simpa using this

theorem ends (l : List UInt8) (h : ∀ c ∈ l, c.toNat ≤ 126 ∧ (c.toNat < 32 → c = 10 ∨ c = 9)) (hne : single l ≠ []) : Lib.fields l = wordsL (single l) ∧ (∀ c ∈ single l, c ∈ l) ∧ (single l).length ≤ l.length := by
  unfold single at hne ⊢
  match hL : linesL l with
  | [] => rw [hL] at hne; exact absurd rfl hne
  | x :: y :: z => rw [hL] at hne; exact absurd rfl hne
  | [x] =>
    have hx : x ∈ linesL l := by rw [hL]; exact List.mem_singleton.2 rfl
    have hm := linesGo_mem l [] x hx
    have hmem : ∀ c ∈ x, c ∈ l ∧ c ≠ 10 := fun c hc => by
      rcases hm c hc with h2 | h2
      · cases h2
      · exact h2
    have hsp : ∀ c ∈ x, Lib.isSp c = true → c = 32 ∨ c = 9 := by
      intro c hc hs
      have h1 := h c (hmem c hc).1
      have h2 := (hmem c hc).2
      have hn : c.toNat = 9 ∨ c.toNat = 10 ∨ c.toNat = 11 ∨ c.toNat = 12 ∨ c.toNat = 13 ∨ c.toNat = 32 := by
        simp only [Lib.isSp, Bool.or_eq_true, beq_iff_eq] at hs
        rcases hs with ((((rfl | rfl) | rfl) | rfl) | rfl) | rfl <;> decide
      rcases hn with e | e | e | e | e | e
      · exact .inr (UInt8.toNat_inj.1 e)
      · exact absurd (UInt8.toNat_inj.1 e) h2
      · have := h1.2 (by omega); rcases this with h3 | h3 <;> rw [h3] at e <;> simp at e
      · have := h1.2 (by omega); rcases this with h3 | h3 <;> rw [h3] at e <;> simp at e
      · have := h1.2 (by omega); rcases this with h3 | h3 <;> rw [h3] at e <;> simp at e
      · exact .inl (UInt8.toNat_inj.1 e)
    have hl := linesGo_len l [] x hx
    refine ⟨?_, fun c hc => (hmem c hc).1, by simpa using hl⟩
    rcases linesGo_one l [] x hL with e | e
    · rw [List.nil_append] at e
      rw [e]
      exact words_fields x [] hsp
    · rw [List.nil_append] at e
      rw [e]
      unfold Lib.fields
      rw [fieldsGo_line]
      exact words_fields x [] hsp

/-- What the door answers of a text of seven numbers. -/
theorem door_ok (a0 : ByteArray) (ha : a0.size ≤ 40000) (hp : ∀ c ∈ a0.data.toList, c.toNat ≤ 126 ∧ (c.toNat < 32 → c = 10 ∨ c = 9)) (ns : List Int) (h : allDec ((wordsL (single a0.data.toList)).map toB) ns) (h7 : ns.length = 7) :
    ∃ (n1 : ByteArray) (n2 : Int) (n3 : Bool) (n4 n5 : Int) (n6 : Nat) (n7 : ByteArray) (n8 : List S35), impl_Statm.f a0 = some (n1, n2, n3, n4, n5, n6, n7, n8, 0) ∧ good 1 n8 := by
  have hlen := len_data a0
  have hne : single a0.data.toList ≠ [] := by
    intro e
    rw [e] at h
    have := allDec_len _ _ h
    simp [wordsL, wordsGo] at this
    omega
  obtain ⟨hf, hm, hl⟩ := ends a0.data.toList hp hne
  have hF : strings_Fields.f a0 = some ((wordsL (single a0.data.toList)).map toB) := by
    unfold strings_Fields.f
    rw [if_pos ⟨by omega, List.all_eq_true.2 (fun c hc => decide_eq_true (by have := hp c hc; omega))⟩, hf]
    rfl
  have hws : (wordsL (single a0.data.toList)).length ≤ 40001 := by
    have := wordsGo_size (single a0.data.toList) []
    unfold wordsL
    omega
  have hP := parse_loop _ ns h (by rw [List.length_map]; omega) (fun x hx => by
    obtain ⟨l, hl1, rfl⟩ := List.mem_map.1 hx
    have := (wordsGo_mem _ [] l hl1).2.1
    rw [toB_size]
    simp at this
    omega) ((wordsL (single a0.data.toList)).map toB).length [] 0 (a0.size + 5) (by omega) (by omega) rfl (by
      have := wordsGo_size (single a0.data.toList) []
      rw [List.length_map]
      unfold wordsL
      omega)
  have hS : procfs_Proc_Statm.f (a0.size + 5) 0 a0 = some (0, rd ns 0, rd ns 1, rd ns 2, rd ns 3, rd ns 4, rd ns 5, rd ns 6, none) := by
    unfold procfs_Proc_Statm.f procfs_Proc_path.f texts_Read.f procfs_parseStatm.f
    simp only [Option.bind_some]
    rw [if_pos (by omega)]
    simp only [Option.bind_some]
    rw [if_pos (by rfl), Plz.ofNums_bytes, hF]
    simp only [Option.bind_some]
    have hP' := hP
    simp only [List.nil_append, List.drop_zero] at hP'
    rw [show ((0 : Nat) : Int) = 0 from rfl] at hP'
    rw [hP']
    simp only [Option.bind_some]
    rw [if_pos (by rfl), if_pos (by omega), if_pos (by omega), if_pos (by omega), if_pos (by omega), if_pos (by omega), if_pos (by omega), if_pos (by omega)]
  unfold impl_Statm.f
  rw [hS]
  simp only [Option.bind_some, if_true]
  refine ⟨_, _, _, _, _, _, _, _, rfl, ?_⟩
  refine ⟨by simp, ?_⟩
  intro x hx
  simp at hx
  rcases hx with rfl | rfl | rfl | rfl | rfl | rfl | rfl | rfl <;> rfl

theorem print_ev (ns : List Int) (hl : ns.length ≤ 200000) (hv : ∀ v ∈ ns, 0 ≤ v ∧ v ≤ 18446744073709551615) : ∃ (s : ByteArray) (t : Int), Ev (fun k => spec_StatmPrint.f k [⟨(⟨#[]⟩ : ByteArray), ns, []⟩]) (s, t) ∧ (t = 1 → ns.length = 7) := by
  obtain ⟨r, hE, hR⟩ := numbers_ev ns (⟨#[32]⟩ : ByteArray) hl (by decide) hv
  have hsz : ns.length * 200000 ≤ 200000 * 200000 := Nat.mul_le_mul_right _ hl
  have hz : spec_sized.f (⟨#[]⟩ : ByteArray) ns [] 7 0 = some (if (ns.length : Int) = 7 then true else false) := by
    unfold spec_sized.f
    by_cases c : (ns.length : Int) = 7
    · rw [if_pos c, if_pos c]; rfl
    · rw [if_neg c, if_neg c]
  have hpre : ∀ k, spec_StatmPrint.f k [⟨(⟨#[]⟩ : ByteArray), ns, []⟩] = if (ns.length : Int) = 7 then ((spec_numbers.f k ns (⟨#[32]⟩ : ByteArray)).bind fun t121 => (if t121.size + 1 ≤ 9223372036854775807 then (some (t121 ++ (⟨#[10]⟩ : ByteArray), 1)) else (none))) else some ((⟨#[]⟩ : ByteArray), 2) := by
    intro k
    unfold spec_StatmPrint.f
    rw [if_pos (by rfl), if_pos (by simp)]
    have e : rd_T48 [⟨(⟨#[]⟩ : ByteArray), ns, []⟩] 0 = ⟨(⟨#[]⟩ : ByteArray), ns, []⟩ := rfl
    rw [e, if_pos (by rw [toList_data]), hz]
    simp only [Option.bind_some]
    by_cases c : (ns.length : Int) = 7
    · rw [if_pos c, if_pos c, if_pos rfl]
    · rw [if_neg c, if_neg c, if_neg (by simp)]
  by_cases c : (ns.length : Int) = 7
  · refine ⟨r ++ (⟨#[10]⟩ : ByteArray), 1, Ev.congr (fun k => by rw [hpre, if_pos c]) (Ev.bind hE (Ev.congr (f := fun _ => some (r ++ (⟨#[10]⟩ : ByteArray), 1)) (fun k => ?_) (Ev.now _))), fun _ => by omega⟩
    rw [if_pos (by omega)]
  · exact ⟨(⟨#[]⟩ : ByteArray), 2, Ev.congr (f := fun _ => some ((⟨#[]⟩ : ByteArray), 2)) (fun k => by rw [hpre, if_neg c]) (Ev.now _), fun h => by omega⟩

theorem read_ev (a0 : ByteArray) (ha : a0.size ≤ 40000) : ∃ (l : List S48) (ok : Bool) (told : Int), Ev (fun k => spec_StatmRead.f k a0) (l, ok, told) ∧
    (told = 1 → ok = true ∧ Ev (fun k => spec_StatmPrint.f k l) (a0, 1) ∧ ∃ (n1 : ByteArray) (n2 : Int) (n3 : Bool) (n4 n5 : Int) (n6 : Nat) (n7 : ByteArray) (n8 : List S35), impl_Statm.f a0 = some (n1, n2, n3, n4, n5, n6, n7, n8, 0) ∧ good 1 n8) := by
  have hlen := len_data a0
  have hsl : (single a0.data.toList).length ≤ a0.size := by
    unfold single
    match hL : linesL a0.data.toList with
    | [] => simp
    | x :: y :: z => simp
    | [x] =>
      have := linesGo_len a0.data.toList [] x (by unfold linesL at hL; rw [hL]; exact List.mem_singleton.2 rfl)
      simp at this ⊢
      omega
  have hws : (wordsL (single a0.data.toList)).length ≤ 40001 := by
    have := wordsGo_size (single a0.data.toList) []
    unfold wordsL
    omega
  obtain ⟨ns, ok, hD, hok⟩ := decimals_ev ((wordsL (single a0.data.toList)).map toB) (by rw [List.length_map]; omega) (fun x hx => by
    obtain ⟨l, hl1, rfl⟩ := List.mem_map.1 hx
    have := (wordsGo_mem _ [] l hl1).2.1
    rw [toB_size]
    simp at this
    omega)
  obtain ⟨pb, hPl, hplain⟩ := plain_ev a0 (by omega)
  have hFd := fields_ev (toB (single a0.data.toList)) (by rw [toB_size]; omega)
  rw [toB_data] at hFd
  have bad : Ev (fun k => spec_meant__StatmPrint.f k a0 [⟨(⟨#[]⟩ : ByteArray), ns, []⟩] ok false) ([], false, 2) → ∃ (l : List S48) (ok : Bool) (told : Int), Ev (fun k => spec_StatmRead.f k a0) (l, ok, told) ∧
    (told = 1 → ok = true ∧ Ev (fun k => spec_StatmPrint.f k l) (a0, 1) ∧ ∃ (n1 : ByteArray) (n2 : Int) (n3 : Bool) (n4 n5 : Int) (n6 : Nat) (n7 : ByteArray) (n8 : List S35), impl_Statm.f a0 = some (n1, n2, n3, n4, n5, n6, n7, n8, 0) ∧ good 1 n8) := fun hM =>
      ⟨[], false, 2, Ev.bind (single_ev a0 (by omega)) (Ev.bind hFd (Ev.bind hD (Ev.bind hM (Ev.now _)))), fun h => by omega⟩
  cases ok with
  | false =>
    refine bad (Ev.step (f := fun _ => some ([], false, 2)) (fun k => ?_) (Ev.now _))
    unfold spec_meant__StatmPrint.f
    rw [if_neg (by simp)]
    simp only [spec_meant__StatmPrint.j0]
    rw [if_pos trivial]
  | true =>
    have hall := hok rfl
    have hnl := allDec_len _ _ hall
    have hnv : ∀ v ∈ ns, 0 ≤ v ∧ v ≤ 18446744073709551615 := by
      intro v hv
      obtain ⟨i, hi, rfl⟩ := List.getElem_of_mem hv
      have := allDec_get _ _ hall i (by omega)
      rw [List.getD_eq_getElem?_getD (l := ns), List.getElem?_eq_getElem hi] at this
      exact ⟨this.1, this.2.1⟩
    obtain ⟨s, t, hPr, ht⟩ := print_ev ns (by rw [← hnl, List.length_map]; omega) hnv
    cases pb with
    | false =>
      refine bad (Ev.congr (f := fun k => (spec_Plain.f k a0).bind fun t168 => (spec_meant__StatmPrint.j0 k a0 [⟨(⟨#[]⟩ : ByteArray), ns, []⟩] false (!t168))) (fun k => by unfold spec_meant__StatmPrint.f; rw [if_pos rfl]) (Ev.bind hPl (Ev.step (f := fun _ => some ([], false, 2)) (fun k => ?_) (Ev.now _))))
      simp only [spec_meant__StatmPrint.j0]
      rw [if_pos (by rfl)]
    | true =>
      have hj : ∀ (res : List S48 × Bool × Int), Ev (fun k => (spec_StatmPrint.f k [⟨(⟨#[]⟩ : ByteArray), ns, []⟩]).bind fun bt169 => (if bt169.2 = 1 then (if bt169.1.toList = a0.toList then (some ([⟨(⟨#[]⟩ : ByteArray), ns, []⟩], true, 1)) else some (([] : List (S48)), false, 2)) else (some (([] : List (S48)), false, 2)))) res → Ev (fun k => spec_meant__StatmPrint.f k a0 [⟨(⟨#[]⟩ : ByteArray), ns, []⟩] true false) res := by
        intro res h
        refine Ev.congr (f := fun k => (spec_Plain.f k a0).bind fun t168 => (spec_meant__StatmPrint.j0 k a0 [⟨(⟨#[]⟩ : ByteArray), ns, []⟩] false (!t168))) (fun k => by unfold spec_meant__StatmPrint.f; rw [if_pos rfl]) (Ev.bind hPl (Ev.step (fun k => ?_) h))
        simp only [spec_meant__StatmPrint.j0]
        rw [if_neg (by simp)]
        simp
      by_cases c : t = 1
      · by_cases c2 : s.toList = a0.toList
        · have hs : s = a0 := (toList_eq_iff _ _).1 c2
          subst hs
          subst c
          refine ⟨[⟨(⟨#[]⟩ : ByteArray), ns, []⟩], true, 1, Ev.bind (single_ev s (by omega)) (Ev.bind hFd (Ev.bind hD (Ev.bind (hj ([⟨(⟨#[]⟩ : ByteArray), ns, []⟩], true, 1) (Ev.bind hPr (Ev.congr (f := fun _ => some ([⟨(⟨#[]⟩ : ByteArray), ns, []⟩], true, 1)) (fun k => by dsimp only; rw [if_pos rfl, if_pos rfl]) (Ev.now _)))) (Ev.now _)))), fun _ => ⟨rfl, hPr, ?_⟩⟩
          exact door_ok s ha (hplain rfl) ns hall (ht rfl)
        · exact bad (hj _ (Ev.bind hPr (Ev.congr (f := fun _ => some ([], false, 2)) (fun k => by dsimp only; rw [if_pos c, if_neg c2]) (Ev.now _))))
      · exact bad (hj _ (Ev.bind hPr (Ev.congr (f := fun _ => some ([], false, 2)) (fun k => by dsimp only; rw [if_neg c]) (Ev.now _))))

theorem normal_ev (a0 : ByteArray) : Ev (fun k => laws_normal__Statm.f k a0) true := by
  by_cases c : (a0.size : Int) > 40000
  · exact Ev.congr (f := fun _ => some true) (fun k => by unfold laws_normal__Statm.f; rw [if_pos c]) (Ev.now _)
  · obtain ⟨l, ok, told, hR, hprop⟩ := read_ev a0 (by omega)
    have hpre : ∀ (h : Ev (fun k => if told = 1 then (laws_normal__Statm.j0 k a0 l (!ok)) else (laws_normal__Statm.j0 k a0 l true)) true), Ev (fun k => laws_normal__Statm.f k a0) true := fun h =>
      Ev.congr (fun k => by unfold laws_normal__Statm.f; rw [if_neg c]) (Ev.bind hR h)
    by_cases ct : told = 1
    · obtain ⟨rfl, hPr, n1, n2, n3, n4, n5, n6, n7, n8, hD, hg⟩ := hprop ct
      obtain ⟨l', g', hN⟩ := toNode_ev 1 n8 hg
      have hS := same_ev 1 l' g' n1 n2 n3 n4 n5 n6 n7
      refine hpre (Ev.congr (f := fun k => laws_normal__Statm.j0 k a0 l false) (fun k => by rw [if_pos ct]; rfl) (Ev.step (f := fun k => (spec_StatmPrint.f k l).bind fun bt218 => (if bt218.2 = 1 then (laws_normal__Statm.j1 k a0 bt218.1 (decide ((bt218.1.size : Int) > 40000))) else (laws_normal__Statm.j1 k a0 bt218.1 true))) (fun k => by simp only [laws_normal__Statm.j0]; rw [if_neg (by simp)]) (Ev.bind hPr ?_)))
      refine Ev.congr (f := fun k => laws_normal__Statm.j1 k a0 a0 false) (fun k => by dsimp only; rw [if_pos rfl, decide_eq_false c]) ?_
      refine Ev.step (f := fun k => (laws_toNode.f k n1 n2 n3 n4 n5 n6 n7 n8).bind fun bt245 => ((laws_toNode.f k n1 n2 n3 n4 n5 n6 n7 n8).bind fun bt255 => ((spec_SameNode.f k bt245.1 bt245.2.1 bt245.2.2.1 bt245.2.2.2.1 bt245.2.2.2.2.1 bt245.2.2.2.2.2.1 bt245.2.2.2.2.2.2.1 bt245.2.2.2.2.2.2.2 bt255.1 bt255.2.1 bt255.2.2.1 bt255.2.2.2.1 bt255.2.2.2.2.1 bt255.2.2.2.2.2.1 bt255.2.2.2.2.2.2.1 bt255.2.2.2.2.2.2.2).bind fun t265 => (if t265 = true then ((laws_lives.f).bind fun t266 => (some t266)) else (some false))))) (fun k => ?_) (Ev.bind (hN n1 n2 n3 n4 n5 n6 n7) (Ev.bind (hN n1 n2 n3 n4 n5 n6 n7) (Ev.bind hS (Ev.now _))))
      simp only [laws_normal__Statm.j1]
      rw [if_neg (by simp), hD]
      simp only [Option.bind_some]
      rw [if_pos trivial, if_pos trivial]
    · refine hpre (Ev.congr (f := fun k => laws_normal__Statm.j0 k a0 l true) (fun k => by rw [if_neg ct]) (Ev.step (f := fun _ => some true) (fun k => ?_) (Ev.now _)))
      simp only [laws_normal__Statm.j0]
      rw [if_pos trivial]
      rfl

theorem FnStatmNormal : laws_FnStatmNormal.Pure := by
  intro a0 ha
  obtain ⟨K, hK⟩ := normal_ev a0
  refine ⟨K, ?_⟩
  unfold laws_FnStatmNormal.f
  by_cases c : (a0.size : Int) > 2147483647
  · rw [if_pos c]
  · rw [if_neg c, show laws_normal__Statm.f K a0 = some true from hK K (Nat.le_refl _)]
    rfl
end Go.Proofs.YtdmpbaanonafbaaGreatDoor.Pure
