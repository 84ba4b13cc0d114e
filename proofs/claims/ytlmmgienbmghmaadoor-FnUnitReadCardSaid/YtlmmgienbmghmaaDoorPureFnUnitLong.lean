/- The plain law of FnUnitLong: a line of more than 2,048 bytes is refused, one of fewer is read. -/
import Derived.Test.YtlmmgienbmghmaaDoorPureS5
import Derived.Test.YtlmmgienbmghmaaDoorL2
set_option linter.unusedVariables false
set_option linter.unusedSimpArgs false
namespace Go.Proofs.YtlmmgienbmghmaaDoor.PureUL
open Go.RowKit Go.Proofs.YtlmmgienbmghmaaDoorW.PrintWords Go.Proofs.YtlmmgienbmghmaaDoorW.PrintLast Go.Proofs.YtlmmgienbmghmaaDoorW.PrintMore Go.Proofs.YtlmmgienbmghmaaDoor.Lex Go.Proofs.YtlmmgienbmghmaaDoor.UDoor Go.Proofs.YtlmmgienbmghmaaDoor.DoorU Go.Proofs.YtlmmgienbmghmaaDoor.PureT Go.Proofs.YtlmmgienbmghmaaDoor.PureS Go.Proofs.YtlmmgienbmghmaaDoor.L Go.Proofs.YtlmmgienbmghmaaDoor.M
theorem reads_is : laws_reads.f = some true := by
  have h := read_says (t := (⟨#[91, 85, 110, 105, 116, 93, 10, 65, 102, 116, 101, 114, 61, 97, 46, 116, 97, 114, 103, 101, 116, 10]⟩ : ByteArray)) (by decide) (lim := 2046) (Nat.le_refl _) (want := [([85, 110, 105, 116], [65, 102, 116, 101, 114], [97, 46, 116, 97, 114, 103, 101, 116])]) (ok := true) (by decide +kernel)
  unfold laws_reads.f
  rw [h, Option.bind_some]
  decide +kernel
theorem same_l0 (l : List S28) (hl : l.length ≤ 4611686018427387904) : ∀ (d i k : Nat), i + d = l.length → d < k → laws_sameOptions.l0 k l l (l.length : Int) (i : Int) = some true
  | 0, i, 0, _, h => by omega
  | 0, i, k + 1, h, _ => by
    unfold laws_sameOptions.l0
    rw [if_neg (by omega)]
  | d + 1, i, 0, _, h => by omega
  | d + 1, i, k + 1, h, hk => by
    unfold laws_sameOptions.l0
    rw [if_pos (by omega), if_pos (by omega), if_pos (by omega), if_pos (by omega)]
    rw [if_neg (by simp), show wrap64 ((i : Int) + 1) = ((i + 1 : Nat) : Int) from by unfold wrap64; omega]
    exact same_l0 l hl d (i + 1) k (by omega) (by omega)
theorem same_is (l : List S28) (hl : l.length ≤ 4611686018427387904) (k : Nat) (hk : l.length < k) : laws_sameOptions.f k l l = some true := by
  unfold laws_sameOptions.f
  rw [if_pos rfl]
  exact same_l0 l hl l.length 0 k (by omega) hk
/-- The line of one option. -/
def lineL (m : Nat) : List UInt8 := [78, 97, 109, 101, 61] ++ List.replicate m 118
def textL (m : Nat) : List UInt8 := [91, 85, 110, 105, 116, 93, 10] ++ (lineL m ++ [10])
theorem good_line (m : Nat) : ∀ c ∈ lineL m, good c = true := by
  intro c hc
  unfold lineL at hc
  rcases List.mem_append.1 hc with h | h
  · have h5 : ∀ c ∈ ([78, 97, 109, 101, 61] : List UInt8), good c = true := by decide
    exact h5 c h
  · rw [List.eq_of_mem_replicate h]
    decide
theorem trB_id {x : List UInt8} {c d : UInt8} {y : List UInt8} (h1 : x = c :: y) (h2 : bl c = false) (h3 : lastB x = d) (h4 : bl d = false) : trB x = x := by
  have hne : x ≠ [] := by rw [h1]; simp
  unfold trB
  have e1 : x.dropWhile bl = x := by rw [h1, List.dropWhile_cons, if_neg (by rw [h2]; decide)]
  have e2 : x.reverse.dropWhile bl = x.reverse := by
    rw [last_split hne, List.reverse_append, h3]
    show (d :: _).dropWhile bl = d :: _
    rw [List.dropWhile_cons, if_neg (by rw [h4]; decide)]
  rw [e1, e2, List.reverse_reverse]
theorem last_rep (m : Nat) (h : 1 ≤ m) (l : List UInt8) : lastB (l ++ List.replicate m 118) = 118 := by
  obtain ⟨j, rfl⟩ : ∃ j, m = j + 1 := ⟨m - 1, by omega⟩
  rw [List.replicate_succ', ← List.append_assoc, lastB_cat]
theorem line_is (m : Nat) (h : 1 ≤ m) : lineR true (lineL m) = .opt [78, 97, 109, 101] (List.replicate m 118) := by
  have hl : lastB (lineL m) = 118 := last_rep m h _
  have ht : trB (lineL m) = lineL m := trB_id (c := 78) (y := [97, 109, 101, 61] ++ List.replicate m 118) rfl (by decide) hl (by decide)
  have hv : trB (List.replicate m 118) = List.replicate m 118 := by
    obtain ⟨j, rfl⟩ : ∃ j, m = j + 1 := ⟨m - 1, by omega⟩
    exact trB_id (c := 118) (d := 118) (y := List.replicate j 118) rfl (by decide) (last_rep (j + 1) (by omega) []) (by decide)
  have he : eqAt (lineL m) = some ([78, 97, 109, 101], List.replicate m 118) := rfl
  have hn : trB [78, 97, 109, 101] = [78, 97, 109, 101] := by decide
  have h0 : (lineL m).getD 0 0 = 78 := rfl
  have hne : lineL m ≠ [] := by unfold lineL; simp
  unfold lineR
  rw [ht, hl, h0, if_neg (by rw [List.all_eq_true.2 (good_line m)]; decide), if_neg hne, if_neg (by decide), if_neg (by decide), if_neg (by decide), if_neg (by decide), if_neg (by decide), he]
  simp only
  rw [hn, hv, if_pos (by decide)]
theorem lines_is (m : Nat) : lines (textL m) = [[91, 85, 110, 105, 116, 93], lineL m] := by
  have e1 : lines (textL m) = [91, 85, 110, 105, 116, 93] :: lines (lineL m ++ [10]) := cutL_next [91, 85, 110, 105, 116, 93] [] (10 :: (lineL m ++ [10])) (by decide) ⟨_, rfl⟩
  have e2 : lines (lineL m ++ [10]) = lineL m :: lines [] := cutL_next (lineL m) [] [10] (good_no (good_line m)).1 ⟨_, rfl⟩
  rw [e1, e2]
  rfl
theorem len_line (m : Nat) : (lineL m).length = 5 + m := by unfold lineL; rw [List.length_append, List.length_replicate]; rfl
theorem len_text (m : Nat) : (textL m).length = 13 + m := by
  unfold textL
  rw [List.length_append, List.length_append, len_line]
  show 7 + (5 + m + 1) = _
  omega
theorem T_tx (l : List UInt8) : T (tx l) = l := by simp [T, tx]
theorem tx_size (l : List UInt8) : (tx l).size = l.length := by rw [← len_t]; show (T (tx l)).length = _; rw [T_tx]
/-- A short line is read. -/
theorem short_is (m : Nat) (h : 1 ≤ m) (h2 : 5 + m ≤ 2046) : impl_UnitRead.f (tx (textL m)) = some ([⟨tx [85, 110, 105, 116], tx [78, 97, 109, 101], tx (List.replicate m 118)⟩], 0) := by
  have hp : parseL 2046 none (lines (T (tx (textL m)))) [] = ([([85, 110, 105, 116], [78, 97, 109, 101], List.replicate m 118)], true, 1) := by
    rw [T_tx, lines_is]
    unfold parseL
    rw [if_neg (by decide), show lineR (none : Option (List UInt8)).isSome [91, 85, 110, 105, 116, 93] = .sec [85, 110, 105, 116] from by decide +kernel]
    simp only
    unfold parseL
    rw [if_neg (by rw [len_line]; omega), show lineR (some [85, 110, 105, 116] : Option (List UInt8)).isSome (lineL m) = _ from line_is m h]
    rfl
  rw [read_says (by rw [tx_size, len_text]; omega) (Nat.le_refl _) hp]
  rfl
/-- A long line is refused. -/
theorem long_is (m : Nat) (h : 2046 ≤ m) (h2 : m ≤ 3000) : impl_UnitRead.f (tx (textL m)) = some ([], 1) := by
  have hsz : (tx (textL m)).size = 13 + m := by rw [tx_size, len_text]
  obtain ⟨R, S, O, h3, h4, h5, h6, h7⟩ := read_all (tx (textL m)) (by omega)
  have hR : Runs (tx (textL m)) (stM none) ⟨0, 0, 0, false⟩ [] R := ⟨200000, h3⟩
  have ha : At (tx (textL m)) ⟨0, 0, 0, false⟩ [91, 85, 110, 105, 116, 93] (10 :: (lineL m ++ [10])) := ⟨inv0 _, by rw [T_tx]; rfl, by decide, .inr ⟨_, rfl⟩⟩
  have hs := line_sim hR ha
  rw [show lineR (none : Option ByteArray).isSome [91, 85, 110, 105, 116, 93] = .sec [85, 110, 105, 116] from by decide +kernel] at hs
  obtain ⟨b, i1, i2, i3⟩ := hs
  have hlen := drop_len (tx (textL m)) b.r
  rw [i2] at hlen
  have hl2 : (10 :: (lineL m ++ [10])).tail.length = 6 + m := by
    show (lineL m ++ [10]).length = _
    rw [List.length_append, len_line]
    show 5 + m + 1 = _
    omega
  have hw : b.w = (tx (textL m)).size := by
    rcases i1.wz (by omega) with e | e
    · have := i1.ok.rw
      omega
    · exact e
  have hlong : tooLong (tx (textL m)) b = true := by
    unfold tooLong
    have h10 : hasNL (((tx (textL m)).data.toList.drop b.r).take 2048) = false := by
      rw [show (tx (textL m)).data.toList.drop b.r = lineL m ++ [10] from i2]
      unfold hasNL
      rw [List.any_eq_false]
      intro c hc
      rw [List.take_append_of_le_length (by rw [len_line]; omega)] at hc
      have hg := good_line m c (List.mem_of_mem_take hc)
      intro e
      simp only [Bool.or_eq_true, beq_iff_eq] at e
      rcases e with e | e <;> subst e <;> revert hg <;> decide
    rw [h10, decide_eq_true (by omega)]
    rfl
  have hR2 := i3.long (stM_stop _) hlong
  rw [h7, hR2]
  rfl
theorem str_rep (m : Nat) : strOfNums (List.replicate m (118 : Int)) = tx (List.replicate m 118) := by
  unfold strOfNums tx
  rw [List.map_replicate]
  rfl
theorem text_is (m : Nat) : ((⟨#[91, 85, 110, 105, 116, 93, 10, 78, 97, 109, 101, 61]⟩ : ByteArray) ++ tx (List.replicate m 118)) ++ (⟨#[10]⟩ : ByteArray) = tx (textL m) := by
  have e : (⟨#[10]⟩ : ByteArray) = tx [10] := rfl
  rw [e, tx_snoc, tx_snoc]
  unfold textL lineL tx
  simp
/-- What the law says behind its loop. -/
theorem end_is (m : Nat) (h : 1 ≤ m) (h2 : m ≤ 3000) (k : Nat) (hk : 5 ≤ k) : laws_FnUnitLong.l0 (k + 1) (m : Int) (List.replicate m 118) (m : Int) (m : Int) = some true := by
  unfold laws_FnUnitLong.l0
  have hsz : (tx (List.replicate m 118)).size = m := by rw [tx_size, List.length_replicate]
  rw [if_neg (by omega), str_rep, hsz, if_pos (by omega), ByteArray.size_append, hsz, if_pos (by rw [show (⟨#[91, 85, 110, 105, 116, 93, 10, 78, 97, 109, 101, 61]⟩ : ByteArray).size = 12 from rfl]; omega), text_is, reads_is]
  have hw : wrap64 (5 + (m : Int)) = 5 + (m : Int) := by unfold wrap64; omega
  rw [hw]
  by_cases c1 : 5 + (m : Int) > 2050
  · rw [long_is m (by omega) h2, Option.bind_some, if_pos c1]
    rfl
  · obtain ⟨R, S, O, h3, h4, h5, h6, h7⟩ := read_all (tx (textL m)) (by rw [tx_size, len_text]; omega)
    by_cases c2 : 5 + (m : Int) < 2046
    · rw [short_is m h (by omega), Option.bind_some, if_neg c1, if_pos c2]
      have e : ([⟨tx [85, 110, 105, 116], tx [78, 97, 109, 101], tx (List.replicate m 118)⟩] : List S28) = [⟨(⟨#[85, 110, 105, 116]⟩ : ByteArray), (⟨#[78, 97, 109, 101]⟩ : ByteArray), tx (List.replicate m 118)⟩] := rfl
      rw [if_pos rfl, e, same_is _ (show 1 ≤ _ by decide) k (by show 1 < k; omega)]
      rfl
    · rw [h7, Option.bind_some, if_neg c1, if_neg c2]
      rfl
theorem loop_is (m : Nat) (h : 1 ≤ m) (h2 : m ≤ 3000) : ∀ (d i : Nat), i + d = m → laws_FnUnitLong.l0 (d + 6) (m : Int) (List.replicate i 118 ++ List.replicate d 0) (m : Int) (i : Int) = some true
  | 0, i, hi => by
    obtain rfl : i = m := by omega
    rw [List.replicate_zero, List.append_nil]
    exact end_is i h h2 5 (Nat.le_refl _)
  | d + 1, i, hi => by
    have hlen : (List.replicate i (118 : Int) ++ List.replicate (d + 1) 0).length = m := by rw [List.length_append, List.length_replicate, List.length_replicate]; exact hi
    rw [show d + 1 + 6 = (d + 6) + 1 by omega]
    unfold laws_FnUnitLong.l0
    rw [if_pos (by omega), if_pos (by omega), hlen, if_pos (by omega)]
    have e : (List.replicate i (118 : Int) ++ List.replicate (d + 1) 0).set (i : Int).toNat 118 = List.replicate (i + 1) 118 ++ List.replicate d 0 := by
      rw [Int.toNat_natCast, List.set_append_right _ _ (by rw [List.length_replicate]; exact Nat.le_refl _), List.length_replicate, Nat.sub_self, List.replicate_succ, List.set_cons_zero, List.replicate_succ', List.append_assoc]
      rfl
    rw [e, show wrap64 ((i : Int) + 1) = ((i + 1 : Nat) : Int) from by unfold wrap64; omega]
    exact loop_is m h h2 d (i + 1) (by omega)
theorem pure : laws_FnUnitLong.Pure := by
  intro a0 hwf
  have hr : 0 ≤ a0 ∧ a0 ≤ 65535 := by
    have h1 : (decide (IntKind.min .u16 ≤ a0) && decide (a0 ≤ IntKind.max .u16)) = true := hwf
    rw [Bool.and_eq_true, decide_eq_true_eq, decide_eq_true_eq] at h1
    exact h1
  obtain ⟨m, hm⟩ : ∃ m : Nat, wrap64 (1 + (wrap64 a0).tmod 3000) = (m : Int) ∧ 1 ≤ m ∧ m ≤ 3000 := by
    have e1 : wrap64 a0 = a0 := by unfold wrap64; omega
    rw [e1]
    have e2 : a0.tmod 3000 = a0 % 3000 := Int.tmod_eq_emod_of_nonneg hr.1
    rw [e2]
    refine ⟨(1 + a0 % 3000).toNat, ?_, ?_, ?_⟩
    · unfold wrap64; omega
    · omega
    · omega
  refine ⟨m + 6, ?_⟩
  unfold laws_FnUnitLong.f
  rw [hm.1, if_pos (by omega), if_pos (by rw [Int.toNat_natCast]; omega), Option.bind_some, Int.toNat_natCast, List.length_replicate]
  have := loop_is m hm.2.1 hm.2.2 m 0 (by omega)
  rw [List.replicate_zero, List.nil_append] at this
  exact this
end Go.Proofs.YtlmmgienbmghmaaDoor.PureUL
