import Derived.Test.YtdmpbaanonafbaaGreatDoorDoorCg
import Derived.Test.YtdmpbaanonafbaaGreatDoorTexts3
import Derived.Test.YtdmpbaanonafbaaGreatDoorTreesV
/- What the door of /proc/cgroups answers of a text in the documented form. -/
set_option linter.unusedVariables false
set_option linter.unusedSimpArgs false
namespace Go.Proofs.YtdmpbaanonafbaaGreatDoor.CgText
open Go.RowKit Go.Proofs.YtdmpbaanonafbaaGreatDoorW.PrintWords Go.Proofs.YtdmpbaanonafbaaGreatDoorW.PrintLast Go.Proofs.YtdmpbaanonafbaaGreatDoor.GivZ Go.Proofs.YtdmpbaanonafbaaGreatDoorPt Go.Proofs.YtdmpbaanonafbaaGreatDoor.GivDec Go.Proofs.YtdmpbaanonafbaaGreatDoor.E Go.Proofs.YtdmpbaanonafbaaGreatDoor.H Go.Proofs.YtdmpbaanonafbaaGreatDoor.CgLoop Go.Proofs.YtdmpbaanonafbaaGreatDoor.DoorCg Go.Proofs.YtdmpbaanonafbaaGreatDoor.Texts Go.Proofs.YtdmpbaanonafbaaGreatDoor.Trees
theorem words_tab : ∀ (p cur rest : List UInt8), (∀ c ∈ p, c ≠ 32 ∧ c ≠ 9) → cur ++ p ≠ [] → wordsGo cur (p ++ 9 :: rest) = (cur ++ p) :: wordsGo [] rest
  | [], cur, rest, h, hne => by
    rw [List.append_nil] at hne ⊢
    rw [List.nil_append, wordsGo, if_pos (.inr rfl), if_neg (by simpa using hne)]
  | a :: p, cur, rest, h, hne => by
    have ha := h a List.mem_cons_self
    rw [List.cons_append, wordsGo, if_neg (by intro e; rcases e with e | e; exact ha.1 e; exact ha.2 e)]
    have := words_tab p (cur ++ [a]) rest (fun c hc => h c (List.mem_cons_of_mem _ hc)) (by simp)
    rw [this]
    simp
theorem words_end : ∀ (p cur : List UInt8), (∀ c ∈ p, c ≠ 32 ∧ c ≠ 9) → cur ++ p ≠ [] → wordsGo cur p = [cur ++ p]
  | [], cur, h, hne => by
    rw [List.append_nil] at hne ⊢
    rw [wordsGo, if_neg (by simpa using hne)]
  | a :: p, cur, h, hne => by
    have ha := h a List.mem_cons_self
    rw [wordsGo, if_neg (by intro e; rcases e with e | e; exact ha.1 e; exact ha.2 e)]
    have := words_end p (cur ++ [a]) (fun c hc => h c (List.mem_cons_of_mem _ hc)) (by simp)
    rw [this]
    simp
/-- A number's text: digits. -/
structure Num (t : List UInt8) (v : Nat) : Prop where
  ne : t ≠ []
  len : t.length ≤ 10
  val : decv 0 t = some v
theorem decv_digits : ∀ (l : List UInt8) (acc v : Nat), decv acc l = some v → ∀ c ∈ l, 48 ≤ c.toNat ∧ c.toNat ≤ 57
  | [], _, _, _, c, hc => by cases hc
  | a :: l, acc, v, h, c, hc => by
    rw [decv] at h
    by_cases k : 48 ≤ a.toNat ∧ a.toNat ≤ 57
    · rw [if_pos k] at h
      rcases List.mem_cons.1 hc with rfl | hc
      · exact k
      · exact decv_digits l _ v h c hc
    · rw [if_neg k] at h; cases h
theorem Num.bytes {t : List UInt8} {v : Nat} (h : Num t v) : ∀ c ∈ t, 33 ≤ c.toNat ∧ c.toNat ≤ 126 := fun c hc => by have := decv_digits _ _ _ h.val c hc; omega
theorem far_of {c : UInt8} (h : 33 ≤ c.toNat ∧ c.toNat ≤ 126) : c ≠ 32 ∧ c ≠ 9 := ⟨by rintro rfl; exact absurd h (by decide), by rintro rfl; exact absurd h (by decide)⟩
theorem no10 {c : UInt8} (h : 33 ≤ c.toNat ∧ c.toNat ≤ 126) : c ≠ 10 := by rintro rfl; exact absurd h (by decide)
structure Name (n : List UInt8) : Prop where
  ne : n ≠ []
  bytes : ∀ c ∈ n, 33 ≤ c.toNat ∧ c.toNat ≤ 126
  sharp : n.head? ≠ some 35
inductive Rows : List UInt8 → List S142 → Prop
  | nil : Rows [] []
  | cons {n ta tb tc tl : List UInt8} {a b c : Nat} {zs : List S142} : Name n → Num ta a → Num tb b → Num tc c → Rows tl zs → Rows ((n ++ 9 :: (ta ++ 9 :: (tb ++ 9 :: tc))) ++ 10 :: tl) (⟨toB n, a, b, c⟩ :: zs)
theorem hash_cons (c : UInt8) (l : List UInt8) : CgLoop.hash ⟨(c :: l).toArray⟩ = (c == 35) := by
  unfold CgLoop.hash
  have h1 : (⟨(c :: l).toArray⟩ : ByteArray).size = l.length + 1 := by simp [ByteArray.size]
  have h2 : ((⟨(c :: l).toArray⟩ : ByteArray).extract 0 1).toList = [c] := by
    rw [toList_data, Lib.extract_data]
    simp
  rw [h1, h2]
  simp
theorem fields_of (l : List UInt8) (h : ∀ c ∈ l, (33 ≤ c.toNat ∧ c.toNat ≤ 126) ∨ c = 9) (hl : l.length ≤ 100000) : strings_Fields.f ⟨l.toArray⟩ = some ((wordsL l).map toB) := by
  unfold strings_Fields.f
  have hs : (⟨l.toArray⟩ : ByteArray).size = l.length := by simp [ByteArray.size]
  have hd : (⟨l.toArray⟩ : ByteArray).data.toList = l := by simp
  rw [hs, hd, if_pos ⟨by omega, List.all_eq_true.2 (fun c hc => decide_eq_true (by rcases h c hc with h | rfl; omega; decide))⟩]
  unfold Lib.fields wordsL
  rw [words_fields l [] (fun c hc hsp => ?_)]
  · rfl
  · rcases h c hc with h | rfl
    · exfalso
      simp only [Lib.isSp, Bool.or_eq_true, beq_iff_eq] at hsp
      rcases hsp with ((((rfl | rfl) | rfl) | rfl) | rfl) | rfl <;> exact absurd h (by decide)
    · exact .inr rfl
theorem atoi_num {t : List UInt8} {v : Nat} (h : Num t v) : atoiV (toB t) = some v := by
  unfold atoiV
  have h1 := List.length_pos_iff.2 h.ne
  have h2 := h.len
  rw [toB_size, toB_data, if_pos ⟨h1, by omega⟩]
  exact h.val
theorem run_rows : ∀ (tl : List UInt8) (zs : List S142), Rows tl zs → ∀ k, tl.length < k → tl.length ≤ 50000 → cgRun k tl = some zs := by
  intro tl zs h
  induction h with
  | nil =>
    intro k hk _
    obtain ⟨k, rfl⟩ : ∃ m, k = m + 1 := ⟨k - 1, by omega⟩
    rw [cgRun, if_pos rfl]
  | @cons n ta tb tc tl a b c zs hn ha hb hc hr ih =>
    intro k hk hlen
    obtain ⟨k, rfl⟩ : ∃ m, k = m + 1 := ⟨k - 1, by omega⟩
    obtain ⟨line, hline⟩ : ∃ line, line = n ++ 9 :: (ta ++ 9 :: (tb ++ 9 :: tc)) := ⟨_, rfl⟩
    have hby : ∀ c ∈ line, (33 ≤ c.toNat ∧ c.toNat ≤ 126) ∨ c = 9 := by
      intro x hx
      rw [hline] at hx
      simp only [List.mem_append, List.mem_cons] at hx
      rcases hx with h | h | h | h | h | h | h
      · exact .inl (hn.bytes x h)
      · exact .inr h
      · exact .inl (ha.bytes x h)
      · exact .inr h
      · exact .inl (hb.bytes x h)
      · exact .inr h
      · exact .inl (hc.bytes x h)
    have hup : upto (line ++ 10 :: tl) = line := upto_app _ _ (fun x hx => by rcases hby x hx with h | rfl; exact no10 h; decide)
    have hw : wordsL line = [n, ta, tb, tc] := by
      rw [hline]
      unfold wordsL
      rw [words_tab n [] _ (fun x hx => far_of (hn.bytes x hx)) (by simpa using hn.ne), words_tab ta [] _ (fun x hx => far_of (ha.bytes x hx)) (by simpa using ha.ne), words_tab tb [] _ (fun x hx => far_of (hb.bytes x hx)) (by simpa using hb.ne), words_end tc [] (fun x hx => far_of (hc.bytes x hx)) (by simpa using hc.ne)]
      rfl
    rw [← hline] at hk hlen ⊢
    rw [List.length_append, List.length_cons] at hk hlen
    have hlast : line.getLast? ≠ some 13 := by
      intro e
      have hm : (13 : UInt8) ∈ line := List.mem_of_getLast? e
      rcases hby 13 hm with h | h
      · exact absurd h (by decide)
      · exact absurd h (by decide)
    have hh : CgLoop.hash ⟨line.toArray⟩ = false := by
      obtain ⟨x, n', rfl⟩ : ∃ x n', n = x :: n' := by
        cases n with
        | nil => exact absurd rfl hn.ne
        | cons x n' => exact ⟨x, n', rfl⟩
      rw [hline, List.cons_append, hash_cons]
      have := hn.sharp
      simpa using this
    have hF := fields_of line hby (by omega)
    rw [hw] at hF
    rw [cgRun, if_neg (by simp), hup, if_pos ⟨by omega, by rw [List.length_append, List.length_cons]; omega, hlast⟩, if_neg (by rw [hh]; simp), hF]
    have hdrop : (line ++ 10 :: tl).drop (line.length + 1) = tl := by
      rw [← List.drop_drop, List.drop_left]
      rfl
    rw [hdrop, ih k (by omega) (by omega)]
    have e1 : rdOf ByteArray.empty ([n, ta, tb, tc].map toB) 1 = toB ta := rfl
    have e2 : rdOf ByteArray.empty ([n, ta, tb, tc].map toB) 2 = toB tb := rfl
    have e3 : rdOf ByteArray.empty ([n, ta, tb, tc].map toB) 3 = toB tc := rfl
    have e0 : rdOf ByteArray.empty ([n, ta, tb, tc].map toB) 0 = toB n := rfl
    simp only [Option.bind_some]
    rw [if_pos (by simp), e0, e1, e2, e3, atoi_num ha, atoi_num hb, atoi_num hc]
    rfl
end Go.Proofs.YtdmpbaanonafbaaGreatDoor.CgText

/- What the door of /proc/cgroups answers of a text in the documented form: the tree. -/
set_option linter.unusedVariables false
set_option linter.unusedSimpArgs false
namespace Go.Proofs.YtdmpbaanonafbaaGreatDoor.CgText
open Go.RowKit Go.Proofs.YtdmpbaanonafbaaGreatDoorW.PrintWords Go.Proofs.YtdmpbaanonafbaaGreatDoorW.PrintLast Go.Proofs.YtdmpbaanonafbaaGreatDoor.GivZ Go.Proofs.YtdmpbaanonafbaaGreatDoorPt Go.Proofs.YtdmpbaanonafbaaGreatDoor.GivDec Go.Proofs.YtdmpbaanonafbaaGreatDoor.E Go.Proofs.YtdmpbaanonafbaaGreatDoor.H Go.Proofs.YtdmpbaanonafbaaGreatDoor.CgLoop Go.Proofs.YtdmpbaanonafbaaGreatDoor.DoorCg Go.Proofs.YtdmpbaanonafbaaGreatDoor.Texts Go.Proofs.YtdmpbaanonafbaaGreatDoor.Trees
def hline : List UInt8 := [35, 115, 117, 98, 115, 121, 115, 95, 110, 97, 109, 101, 9, 104, 105, 101, 114, 97, 114, 99, 104, 121, 9, 110, 117, 109, 95, 99, 103, 114, 111, 117, 112, 115, 9, 101, 110, 97, 98, 108, 101, 100]
theorem run_text (tl : List UInt8) (zs : List S142) (h : Rows tl zs) (hl : tl.length ≤ 50000) (k : Nat) (hk : tl.length + 1 < k) : cgRun k (hline ++ 10 :: tl) = some zs := by
  obtain ⟨k, rfl⟩ : ∃ m, k = m + 1 := ⟨k - 1, by omega⟩
  have hup : upto (hline ++ 10 :: tl) = hline := upto_app _ _ (by decide)
  have hlen : hline.length = 42 := rfl
  have hdrop : (hline ++ 10 :: tl).drop (hline.length + 1) = tl := by
    rw [← List.drop_drop, List.drop_left]
    rfl
  rw [cgRun, if_neg (by simp), hup, if_pos ⟨by rw [hlen]; omega, by rw [List.length_append, List.length_cons, hlen]; omega, by decide⟩, if_pos (by show CgLoop.hash ⟨(35 :: hline.tail).toArray⟩ = true; rw [hash_cons]; rfl), hdrop]
  exact run_rows tl zs h k (by omega) hl
theorem rec_ok (x0 : ByteArray) (x1 x2 x3 : Int) : ∃ ks, impl_CgroupSummary_1_1.f x0 x1 x2 x3 = some ((⟨#[]⟩ : ByteArray), 8, false, 0, 0, 0, (⟨#[]⟩ : ByteArray), ks) ∧ good 1 ks := by
  refine ⟨_, by simp [impl_CgroupSummary_1_1.f, impl_procfsCgroupSummary.f]; rfl, ?_⟩
  refine ⟨by simp, ?_⟩
  intro x hx
  simp at hx
  rcases hx with rfl | rfl | rfl | rfl <;> rfl
theorem list_loop (zs : List S142) (hl : zs.length ≤ 200000) (d : Nat) : ∀ (out : List S35) (i k : Nat), i ≤ zs.length → zs.length - i = d → out.length = i → d < k → (∀ x ∈ out, good 1 x.f7) →
    ∃ more, procfs_CgroupSummary___CgroupSummary.l0 k zs (zs.length : Int) (i : Int) (⟨#[]⟩ : ByteArray) 6 false 0 0 0 (⟨#[]⟩ : ByteArray) out = some ((⟨#[]⟩ : ByteArray), 6, false, 0, 0, 0, (⟨#[]⟩ : ByteArray), more) ∧ more.length = zs.length ∧ ∀ x ∈ more, good 1 x.f7 := by
  induction d with
  | zero =>
    intro out i k h1 hd ho hk hg
    obtain ⟨k, rfl⟩ : ∃ m, k = m + 1 := ⟨k - 1, by omega⟩
    refine ⟨out, ?_, by omega, hg⟩
    simp only [procfs_CgroupSummary___CgroupSummary.l0]
    rw [if_neg (by omega)]
  | succ d ih =>
    intro out i k h1 hd ho hk hg
    obtain ⟨k, rfl⟩ : ∃ m, k = m + 1 := ⟨k - 1, by omega⟩
    obtain ⟨ks, hR, hG⟩ := rec_ok (rd_T142 zs (i : Int)).f0 (rd_T142 zs (i : Int)).f1 (rd_T142 zs (i : Int)).f2 (rd_T142 zs (i : Int)).f3
    obtain ⟨more, hM, hL, hg2⟩ := ih (out ++ [(⟨(⟨#[]⟩ : ByteArray), 8, false, 0, 0, 0, (⟨#[]⟩ : ByteArray), ks⟩ : S35)]) (i + 1) k (by omega) (by omega) (by simp [ho]) (by omega) (fun x hx => by
      rcases List.mem_append.1 hx with hx | hx
      · exact hg x hx
      · rw [List.mem_singleton.1 hx]; exact hG)
    refine ⟨more, ?_, hL, hg2⟩
    simp only [procfs_CgroupSummary___CgroupSummary.l0]
    rw [if_pos (by omega), if_pos (by omega), if_pos (by omega), hR]
    simp only [Option.bind_some]
    rw [if_pos (by omega), wrap_in (by omega) (by omega)]
    exact hM
theorem rows_len : ∀ (tl : List UInt8) (zs : List S142), Rows tl zs → zs.length ≤ tl.length := by
  intro tl zs h
  induction h with
  | nil => exact Nat.le_refl _
  | cons hn ha hb hc hr ih =>
    simp only [List.length_append, List.length_cons]
    omega
theorem door_ok (a0 : ByteArray) (ha : a0.size ≤ 40000) (tl : List UInt8) (zs : List S142) (ht : a0.data.toList = hline ++ 10 :: tl) (h : Rows tl zs) :
    ∃ (n1 : ByteArray) (n2 : Int) (n3 : Bool) (n4 n5 : Int) (n6 : Nat) (n7 : ByteArray) (n8 : List S35), impl_CgroupSummary.f a0 = some (n1, n2, n3, n4, n5, n6, n7, n8, 0) ∧ good 2 n8 := by
  have hlen := len_data a0
  have hl0 : hline.length = 42 := rfl
  have hl1 : a0.size = tl.length + 43 := by rw [← hlen, ht, List.length_append, List.length_cons, hl0]; omega
  have hz := rows_len tl zs h
  obtain ⟨more, hM, hL, hg⟩ := list_loop zs (by omega) zs.length [] 0 (zs.length + 1) (by omega) (by omega) rfl (by omega) (fun x hx => by cases hx)
  refine ⟨⟨#[]⟩, 6, false, 0, 0, 0, ⟨#[]⟩, more, ?_, ⟨by omega, hg⟩⟩
  · unfold impl_CgroupSummary.f
    rw [if_pos (by omega), ht, run_text tl zs h (by omega) (a0.size + 1) (by omega)]
    simp only [Option.bind_some]
    rw [if_pos (by omega)]
    have e : impl_CgroupSummary_1.f (zs.length + 1) zs = some ((⟨#[]⟩ : ByteArray), 6, false, 0, 0, 0, (⟨#[]⟩ : ByteArray), more) := by
      unfold impl_CgroupSummary_1.f procfs_CgroupSummary___CgroupSummary.f
      rw [show ((0 : Nat) : Int) = 0 from rfl] at hM
      rw [hM]
      rfl
    rw [e]
    rfl
end Go.Proofs.YtdmpbaanonafbaaGreatDoor.CgText
