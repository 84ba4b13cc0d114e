/- FnMountsRead, the plain law. -/
import Derived.Test.YtokojamaigebaaaDoorMtRd3
import Derived.Test.YtokojamaigebaaaDoorMtDoorE
import Derived.Test.YtokojamaigebaaaDoorK4
set_option linter.unusedVariables false
set_option linter.unusedSimpArgs false
namespace Go.Proofs.YtokojamaigebaaaDoor.MtRd
open Go.RowKit Go.Proofs.YtokojamaigebaaaDoorW.PrintWords Go.Proofs.YtokojamaigebaaaDoorW.PrintLast Go.Proofs.YtokojamaigebaaaDoorW.PrintMore Go.Proofs.YtokojamaigebaaaDoor.ScanL Go.Proofs.YtokojamaigebaaaDoor.MtScan Go.Proofs.YtokojamaigebaaaDoor.GivM Go.Proofs.YtokojamaigebaaaDoor.M Go.Proofs.YtokojamaigebaaaDoor.K Go.Proofs.YtokojamaigebaaaDoor.MtRow Go.Proofs.YtokojamaigebaaaDoor.MtPure Go.Proofs.YtokojamaigebaaaDoor.MtDoorE
open Go.Proofs.YtokojamaigebaaaDoorPt hiding toB_size toB_data
/-! ### the package reads the line so, too -/
theorem split_last (c b : UInt8) (hb : b ≠ c) : ∀ l : List UInt8, l.getLast? = some b → ∃ p, (splitL c l).getLast? = some p ∧ b ∈ p
  | [], h => by cases h
  | [x], h => by
    obtain rfl : x = b := by simpa using h
    refine ⟨[x], ?_, by simp⟩
    rw [splitL, if_neg hb]
    rfl
  | x :: y :: l, h => by
    rw [List.getLast?_cons_cons] at h
    obtain ⟨p, hp, hm⟩ := split_last c b hb (y :: l) h
    rw [splitL]
    by_cases e : x = c
    · rw [if_pos e]
      refine ⟨p, ?_, hm⟩
      cases hs : splitL c (y :: l) with
      | nil => rw [hs] at hp; cases hp
      | cons a r => rw [hs] at hp; rw [List.getLast?_cons_cons]; exact hp
    · rw [if_neg e]
      cases hs : splitL c (y :: l) with
      | nil => rw [hs] at hp; cases hp
      | cons a r =>
        rw [hs] at hp
        cases r with
        | nil =>
          obtain rfl : a = p := by simpa using hp
          exact ⟨x :: a, rfl, List.mem_cons_of_mem _ hm⟩
        | cons a2 r =>
          refine ⟨p, ?_, hm⟩
          rw [List.getLast?_cons_cons] at hp ⊢
          exact hp
theorem row_same (x : List UInt8) (hx : x.length ≤ 90000) (m : S23) (h : rowS x = some m) : rowL (stripCR x) = some m := by
  unfold rowS rowP at h
  cases hd : dGo 6 ((splitL 32 x).drop 6) with
  | none => rw [hd] at h; cases h
  | some a =>
    rw [hd] at h
    simp only [] at h
    obtain ⟨ha6, _, hdash⟩ := dGo_some _ _ _ hd
    by_cases hl : (splitL 32 x).length = a + 4
    · rw [if_pos hl] at h
      cases hc : cGo 0 ((splitL 32 x).getD 2 []) with
      | none => rw [hc] at h; cases h
      | some c =>
        rw [hc] at h
        simp only [] at h
        obtain ⟨_, hcl, hcut⟩ := (cGo_cut _ 0).2 c hc
        rw [Nat.sub_zero] at hcl hcut
        by_cases hb : (bsS (splitL 32 x) a c).all id = true
        · rw [if_pos hb] at h
          by_cases hv : mvM (mS (splitL 32 x) a c) = true
          · rw [if_pos hv] at h
            obtain rfl := Option.some.inj h
            have hstrip : stripCR x = x := by
              unfold stripCR
              by_cases e : x.getLast? = some 13
              · exfalso
                obtain ⟨p, hp, hm⟩ := split_last 32 13 (by decide) x e
                have hp2 : (splitL 32 x).getD (a + 3) [] = p := by
                  rw [List.getLast?_eq_getElem?, hl] at hp
                  rw [List.getD_eq_getElem?_getD, show a + 3 = a + 4 - 1 by omega, hp]
                  rfl
                unfold mvM mvB at hv
                simp only [Bool.and_eq_true] at hv
                obtain ⟨_, _, _, _, _, _, _, _, _, _, _, _, hw, _⟩ := hv
                have hw2 : wordB ((splitL 32 x).getD (a + 3) []) = true := hw
                rw [hp2] at hw2
                have := ((word_t hw2).1 13 hm).2.1
                exact absurd this (by decide)
              · rw [if_neg e]
            rw [hstrip]
            unfold rowL
            rw [if_pos ⟨by omega, by omega⟩]
            generalize splitL 32 x = ps at hl hd hdash hcl hcut hb hv ⊢
            have hdash2 : ps.getD a [] = [45] := by
              rw [List.getD_eq_getElem?_getD, List.getElem?_drop] at hdash
              rw [List.getD_eq_getElem?_getD, ← hdash, show 6 + (a - 6) = a by omega]
            have hsep : sepGo ps (ps.length - 9) = some a := by
              rw [show ps.length - 9 = (a - 6) + 1 by omega, sepGo, show a - 6 + 6 = a by omega, if_pos hdash2]
            rw [hsep, Option.bind_some, hcut, Option.bind_some]
            simp only [bsS, List.all_cons, List.all_nil, Bool.and_true, Bool.and_eq_true, id] at hb
            obtain ⟨b0, b1, b2, b3, b4, b5, b6⟩ := hb
            have nn : ∀ l : List UInt8, (numL l).2 = true → toIntV l = (numL l).1 := fun l hl => (num_nat l (numL l).1 (by rw [← hl])).2.2
            have uu : ∀ l : List UInt8, (unoL l).isSome = true → unescL l = (unoL l).getD [] := by
              intro l hl
              cases hu : unoL l with
              | none => rw [hu] at hl; cases hl
              | some r => exact uno_unesc l r hu
            unfold mvM mvB at hv
            simp only [Bool.and_eq_true] at hv
            obtain ⟨_, _, _, _, _, _, _, _, _, _, _, hw, _, _⟩ := hv
            have hw2 : wordB (ps.getD (a + 1) []) = true := hw
            have ht : unescL (ps.getD (a + 1) []) = ps.getD (a + 1) [] := unescL_plain _ (fun b hb => ((word_t hw2).1 b hb).1)
            unfold mS
            rw [nn _ b0, nn _ b1, nn _ b2, nn _ b3, uu _ b4, uu _ b5, uu _ b6, ht]
          · rw [if_neg hv] at h; cases h
        · rw [if_neg hb] at h; cases h
    · rw [if_neg hl] at h; cases h
/-! ### the text -/
set_option maxRecDepth 100000 in
theorem rows_eval (Ls : List (List UInt8)) (hLs : Ls.length ≤ 100000) (hx : ∀ x ∈ Ls, x.length ≤ 90000) : ∀ (n i K : Nat) (acc : List S62), i + n = Ls.length → 16000000000 + n * 7000000 ≤ K → acc.length ≤ i →
    spec_MountsRead.l0 K acc (Ls.map toB) (Ls.length : Int) (i : Int) = match mapO rowS (Ls.drop i) with
      | some zs => some (acc ++ zs.map toSpec, true, 1)
      | none => some (([] : List (S62)), false, 2) := by
  intro n
  induction n with
  | zero =>
    intro i K acc h hK ha
    obtain rfl : i = Ls.length := h
    obtain ⟨K, rfl⟩ : ∃ j, K = j + 1 := ⟨K - 1, by omega⟩
    rw [spec_MountsRead.l0, if_neg (Int.lt_irrefl _), List.drop_eq_nil_of_le (Nat.le_refl _)]
    show some (acc, true, 1) = some (acc ++ [], true, 1)
    rw [List.append_nil]
  | succ n ih =>
    intro i K acc h hK ha
    have hi : i < Ls.length := by omega
    have hr : rdOf ByteArray.empty (Ls.map toB) (i : Int) = toB (Ls[i]'hi) := by rw [Go.Proofs.YtokojamaigebaaaDoor.MtDoor.rd_map, getD_at Ls [] i hi]
    have E := line_eval (Ls[i]'hi) (hx _ (List.getElem_mem hi)) acc (Ls.map toB) (Ls.length : Int) (i : Int) K (by omega) (by omega) hr (by omega) (by rw [List.length_map]; omega) (by omega)
    rw [List.drop_eq_getElem_cons hi, mapO]
    cases hz : rowS (Ls[i]'hi) with
    | none => rw [hz] at E; exact E
    | some m =>
      rw [hz] at E
      obtain ⟨k', hk', E⟩ := E
      have hk2 : 16000000000 + n * 7000000 ≤ k' := by
        rw [Nat.succ_mul] at hK
        generalize n * 7000000 = y at hK ⊢
        omega
      have IH := ih (i + 1) k' (acc ++ [toSpec m]) (by omega) hk2 (by rw [List.length_append, List.length_singleton]; omega)
      rw [E, wi i (by omega), IH, Option.bind_some]
      cases mapO rowS (Ls.drop (i + 1)) with
      | none => rfl
      | some zs =>
        show some ((acc ++ [toSpec m]) ++ zs.map toSpec, true, 1) = some (acc ++ (m :: zs).map toSpec, true, 1)
        rw [List.append_assoc]
        rfl
theorem linesGo_cnt : ∀ (l cur : List UInt8), (linesGo cur l).length ≤ l.length + 1
  | [], cur => by
    rw [linesGo]
    split
    · exact Nat.zero_le _
    · exact Nat.le_refl _
  | a :: l, cur => by
    rw [linesGo]
    split
    · have := linesGo_cnt l []
      simp only [List.length_cons]
      omega
    · have := linesGo_cnt l (cur ++ [a])
      simp only [List.length_cons]
      omega
def resS (l : List UInt8) : List S62 × Bool × Int := match mapO rowS (linesL l) with
  | some zs => (zs.map toSpec, true, 1)
  | none => ([], false, 2)
set_option maxRecDepth 100000 in
theorem read_ev (l : List UInt8) (hl : l.length ≤ 20000) : Go.Proofs.YtokojamaigebaaaDoor.MtPure.Ev (fun k => spec_MountsRead.f k (toB l)) (resS l) := by
  refine ⟨16000000000 + 100000 * 7000000, fun k hk => ?_⟩
  simp only []
  have hcnt : (linesL l).length ≤ 20001 := by have := linesGo_cnt l []; unfold linesL; omega
  have hsz : ¬ ((toB l).size : Int) > 32768 := by rw [toB_size]; omega
  have hm : (linesL l).length * 7000000 ≤ 100000 * 7000000 := Nat.mul_le_mul_right _ (by omega)
  have R := rows_eval (linesL l) (by omega) (fun x hx => by have := Go.Proofs.YtokojamaigebaaaDoorPt.linesGo_len l [] x hx; simp at this; omega) (linesL l).length 0 k [] (by omega) (Nat.le_trans (Nat.add_le_add_left hm _) hk) (Nat.le_refl _)
  unfold spec_MountsRead.f
  rw [if_neg hsz, cl_is l (by omega) k (by omega), Option.bind_some, List.length_map]
  refine Eq.trans R ?_
  unfold resS
  rw [List.drop_zero]
  cases mapO rowS (linesL l) with
  | none => rfl
  | some zs => rfl
theorem mapO_same {α β : Type} {f g : α → Option β} : ∀ (xs : List α) (zs : List β), (∀ x ∈ xs, ∀ y, f x = some y → g x = some y) → mapO f xs = some zs → mapO g xs = some zs ∧ zs.length = xs.length
  | [], zs, _, h => by obtain rfl := Option.some.inj h; exact ⟨rfl, rfl⟩
  | x :: xs, zs, hfg, h => by
    rw [mapO] at h
    obtain ⟨y, hy, h⟩ := Option.bind_eq_some_iff.1 h
    obtain ⟨ys, hys, h⟩ := Option.bind_eq_some_iff.1 h
    obtain rfl := Option.some.inj h
    obtain ⟨h1, h2⟩ := mapO_same xs ys (fun a ha => hfg a (List.mem_cons_of_mem _ ha)) hys
    rw [mapO, hfg x List.mem_cons_self y hy, Option.bind_some, h1]
    exact ⟨rfl, by rw [List.length_cons, List.length_cons, h2]⟩
/-! ### the lists are the same -/
theorem from_go (zs : List S23) (hz : zs.length ≤ 100000) : ∀ (n i k : Nat), n = zs.length - i → i ≤ zs.length → n + 1 ≤ k → laws_mountsFrom.l0 k (zs.take i) (zs.map toSpec) (zs.length : Int) (i : Int) = some zs
  | n, i, 0, _, _, hk => by omega
  | n, i, k + 1, hn, hi, hk => by
    rw [laws_mountsFrom.l0]
    by_cases h : i < zs.length
    · have e : zs.take i ++ [zs[i]'h] = zs.take (i + 1) := by rw [List.take_add_one, List.getElem?_eq_getElem h]; rfl
      have g1 : (i : Int) < (zs.length : Int) := by omega
      have g2 : (0 : Int) ≤ (i : Int) := by omega
      have g3 : (i : Int) < ((zs.map toSpec).length : Int) := by rw [List.length_map]; omega
      have g4 : (zs.take i).length < 977343669134 := by rw [List.length_take]; omega
      rw [if_pos g1, if_pos g2, if_pos g3, if_pos g4, rd_spec zs i h, wi i (by omega)]
      show laws_mountsFrom.l0 k (zs.take i ++ [zs[i]'h]) (zs.map toSpec) (zs.length : Int) ((i + 1 : Nat) : Int) = some zs
      rw [e]
      exact from_go zs hz (zs.length - (i + 1)) (i + 1) k rfl (by omega) (by omega)
    · rw [if_neg (by omega), List.take_of_length_le (by omega)]
theorem same_go (zs : List S23) (hz : zs.length ≤ 100000) : ∀ (n i k : Nat), n = zs.length - i → i ≤ zs.length → n + 1 ≤ k → laws_sameMounts.l0 k zs zs (zs.length : Int) (i : Int) = some true
  | n, i, 0, _, _, hk => by omega
  | n, i, k + 1, hn, hi, hk => by
    rw [laws_sameMounts.l0]
    by_cases h : i < zs.length
    · have g1 : (i : Int) < (zs.length : Int) := by omega
      have g2 : (0 : Int) ≤ (i : Int) := by omega
      rw [if_pos g1, if_pos g2, if_pos g1, if_pos g1, wi i (by omega)]
      simp only [beq_self_eq_true, Bool.not_true, Bool.or_self, Bool.false_eq_true, if_false]
      exact same_go zs hz (zs.length - (i + 1)) (i + 1) k rfl (by omega) (by omega)
    · rw [if_neg (by omega)]
def saneE : S23 := ⟨36, 35, 98, 0, ⟨#[47, 109, 110, 116, 49]⟩, ⟨#[47, 109, 110, 116, 50]⟩, ⟨#[114, 119, 44, 110, 111, 97, 116, 105, 109, 101]⟩, ⟨#[109, 97, 115, 116, 101, 114, 58, 49]⟩, ⟨#[101, 120, 116, 51]⟩, ⟨#[47, 100, 101, 118, 47, 114, 111, 111, 116]⟩, ⟨#[114, 119, 44, 101, 114, 114, 111, 114, 115, 61, 99, 111, 110, 116, 105, 110, 117, 101]⟩⟩
theorem sane_all : allE [51, 54, 32, 51, 53, 32, 57, 56, 58, 48, 32, 47, 109, 110, 116, 49, 32, 47, 109, 110, 116, 50, 32, 114, 119, 44, 110, 111, 97, 116, 105, 109, 101, 32, 109, 97, 115, 116, 101, 114, 58, 49, 32, 45, 32, 101, 120, 116, 51, 32, 47, 100, 101, 118, 47, 114, 111, 111, 116, 32, 114, 119, 44, 101, 114, 114, 111, 114, 115, 61, 99, 111, 110, 116, 105, 110, 117, 101, 10] = some [saneE] := by kernel_rfl
theorem mountsE_is : laws_mounts.f = some true := by
  have h : impl_MountsE.f (⟨#[51, 54, 32, 51, 53, 32, 57, 56, 58, 48, 32, 47, 109, 110, 116, 49, 32, 47, 109, 110, 116, 50, 32, 114, 119, 44, 110, 111, 97, 116, 105, 109, 101, 32, 109, 97, 115, 116, 101, 114, 58, 49, 32, 45, 32, 101, 120, 116, 51, 32, 47, 100, 101, 118, 47, 114, 111, 111, 116, 32, 114, 119, 44, 101, 114, 114, 111, 114, 115, 61, 99, 111, 110, 116, 105, 110, 117, 101, 10]⟩ : ByteArray) 0 [] = some ([saneE], 0) := by
    unfold impl_MountsE.f
    rw [if_pos ⟨rfl, by decide⟩]
    refine (congrArg (fun o => match o with | some zs => some (zs, (0 : Int)) | none => some ([], 1)) sane_all).trans ?_
    rfl
  unfold laws_mounts.f laws_all.f
  rw [Option.bind_some, h, Option.bind_some]
  decide +kernel
theorem read_law (a0 : ByteArray) : Go.Proofs.YtokojamaigebaaaDoor.MtPure.Ev (fun k => laws_FnMountsRead.f k a0) true := by
  obtain ⟨l, rfl⟩ := ex a0
  by_cases c1 : ((toB l).size : Int) > 2147483647
  · refine ⟨0, fun k _ => ?_⟩
    simp only []
    unfold laws_FnMountsRead.f
    rw [if_pos c1]
  by_cases c2 : ((toB l).size : Int) > 20000
  · refine ⟨0, fun k _ => ?_⟩
    simp only []
    unfold laws_FnMountsRead.f
    rw [if_neg c1, if_pos c2]
  have hl : l.length ≤ 20000 := by rw [toB_size] at c2; omega
  obtain ⟨k0, hk0⟩ := read_ev l hl
  refine ⟨k0 + 1000000, fun k hk => ?_⟩
  have R := hk0 k (by omega)
  simp only [] at R ⊢
  unfold laws_FnMountsRead.f
  have hm : ∀ o : Option (List S23), allE l = o → impl_MountsE.f (toB l) 0 [] = (match o with | some zs => some (zs, 0) | none => some ([], 1)) := by
    intro o ho
    unfold impl_MountsE.f
    rw [if_pos ⟨rfl, by rw [toB_size]; omega⟩, toB_data, ho]
    cases o <;> rfl
  rw [if_neg c1, if_neg c2]
  unfold laws_all.f
  rw [Option.bind_some]
  simp only []
  cases hz : mapO rowS (linesL l) with
  | some zs =>
    obtain ⟨hE, hlen⟩ := mapO_same (linesL l) zs (fun x hx y hy => row_same x (by have := Go.Proofs.YtokojamaigebaaaDoorPt.linesGo_len l [] x hx; simp at this; omega) y hy) hz
    have hcnt : (linesL l).length ≤ 20001 := by have := linesGo_cnt l []; unfold linesL; omega
    have hres : resS l = (zs.map toSpec, true, 1) := by unfold resS; rw [hz]
    have hF : laws_mountsFrom.f k (zs.map toSpec) = some zs := by
      unfold laws_mountsFrom.f
      rw [List.length_map]
      exact from_go zs (by omega) (zs.length - 0) 0 k rfl (Nat.zero_le _) (by omega)
    have hS : laws_sameMounts.f k zs zs = some true := by
      unfold laws_sameMounts.f
      rw [if_pos rfl]
      exact same_go zs (by omega) (zs.length - 0) 0 k rfl (Nat.zero_le _) (by omega)
    rw [hm (some zs) hE]
    simp only []
    rw [Option.bind_some, R, Option.bind_some, hres]
    simp only []
    rw [if_pos trivial, if_pos trivial, if_pos trivial, hF, Option.bind_some, hS, Option.bind_some, if_pos rfl, mountsE_is, Option.bind_some]
  | none =>
    have hres : resS l = ([], false, 2) := by unfold resS; rw [hz]
    obtain ⟨y, hy⟩ : ∃ y, impl_MountsE.f (toB l) 0 [] = some y := by
      rw [hm (allE l) rfl]
      cases allE l with
      | none => exact ⟨_, rfl⟩
      | some zs => exact ⟨_, rfl⟩
    rw [hy, Option.bind_some, R, Option.bind_some, hres]
    simp only []
    rw [if_neg (by decide), mountsE_is, Option.bind_some]
end Go.Proofs.YtokojamaigebaaaDoor.MtRd
