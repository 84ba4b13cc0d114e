import Derived.Test.YtdmpbaanonafbaaGreatDoorGivDec
import Derived.Test.YtdmpbaanonafbaaGreatDoorFlt
import Derived.Laws.Cover2
import Derived.Lib.Hide
import Derived.WalkMore
import Derived.Deep.DeepCutAuto
import Derived.Deep.CutRange
import Derived.Tactics
import Derived.Tactics2
namespace Go.Proofs.YtdmpbaanonafbaaGreatDoor.RF
open Go.RowKit Go.Proofs.YtdmpbaanonafbaaGreatDoorW.PrintWords
set_option linter.unusedVariables false
set_option linter.unusedSimpArgs false
structure St where
  dot : Bool
  dig : Bool
  nd : Nat
  dp : Int
  m : Nat
def rf : St → List UInt8 → Option St
  | s, [] => some s
  | s, c :: cs =>
    if c.toNat = 46 then (if s.dot then none else rf { s with dot := true, dp := s.nd } cs)
    else if 48 ≤ c.toNat ∧ c.toNat ≤ 57 then
      (if c.toNat = 48 ∧ s.nd = 0 then rf { s with dig := true, dp := s.dp - 1 } cs
       else if s.nd < 18 then rf { s with dig := true, nd := s.nd + 1, m := s.m * 10 + (c.toNat - 48) } cs else none)
    else none
theorem lower_not (c : Int) (h : ¬ bits .or .u8 c 32 = 120) (w : World) :
    Calls Tryz.prog 170 #[.int .u8 c] w fun e w' => ∃ l : Int, e = .returned (.int .u8 l) ∧ (¬ l = 120) ∧ w = w' := by
  have H := Lib.hid h
  clear h
  go_enter Tryz.func170, Tryz.ntmps170
  go_wp2
  go_ret
  exact ⟨_, rfl, H.out, rfl⟩

theorem rf_head (q : St) (c : UInt8) (cs : List UInt8) (s : St) (h : rf q (c :: cs) = some s) : c.toNat = 46 ∨ (48 ≤ c.toNat ∧ c.toNat ≤ 57) := by
  rw [rf] at h
  by_cases a : c.toNat = 46
  · exact .inl a
  · rw [if_neg a] at h
    by_cases b : 48 ≤ c.toNat ∧ c.toNat ≤ 57
    · exact .inr b
    · rw [if_neg b] at h; cases h
theorem rf_next (q : St) (c : UInt8) (cs : List UInt8) (s : St) (h : rf q (c :: cs) = some s) : ∃ q', rf q' cs = some s := by
  rw [rf] at h
  split at h
  · split at h
    · cases h
    · exact ⟨_, h⟩
  · split at h
    · split at h
      · exact ⟨_, h⟩
      · split at h
        · exact ⟨_, h⟩
        · cases h
    · cases h
theorem not_x : ∀ n : Fin 256, (n.val = 46 ∨ (48 ≤ n.val ∧ n.val ≤ 57)) → ¬ bits .or .u8 ((n.val : Nat) : Int) 32 = 120 := by decide +kernel
theorem drop_get (t : ByteArray) (k : Nat) (h : k < t.size) : t.data.toList.drop k = (t[k]'h) :: t.data.toList.drop (k + 1) :=
  List.drop_eq_getElem_cons (by rw [← Lib.size_eq]; exact h)
set_option maxHeartbeats 8000000 in
set_option maxRecDepth 100000 in
theorem readFloat_is (t : ByteArray) (hne : 0 < t.size) (hmax : t.size ≤ 1000000) (s : St) (hs : rf ⟨false, false, 0, 0, 0⟩ t.data.toList = some s) (hd : s.dig = true) (ex : Int) (he : ex = if s.m = 0 then 0 else (if s.dot then s.dp else s.nd) - s.nd) (w : World) :
    Calls Tryz.prog 194 #[.string t] w fun e w' => e = .returned (.tuple #[.int .u64 s.m, .int .i64 ex, .bool false, .bool false, .bool false, .int .i64 t.size, .bool true]) ∧ w = w' := by
  have hne1 : ¬ ((t.size : Int) ≤ 0) := by omega
  have hne2 : (0 : Int) < t.size := by omega
  have hne3 : ¬ (t.size = 0) := by omega
  have hd0 := drop_get t 0 hne
  have hh0 : (t[0]'hne).toNat = 46 ∨ (48 ≤ (t[0]'hne).toNat ∧ (t[0]'hne).toNat ≤ 57) := by
    rw [List.drop_zero] at hd0
    rw [hd0] at hs
    exact rf_head _ _ _ _ hs
  have n43 : ¬ ((t[0]'hne).toNat : Int) = 43 := by omega
  have n45 : ¬ ((t[0]'hne).toNat : Int) = 45 := by omega
  have n1 : ∀ h : 1 < t.size, ¬ bits .or .u8 ((t[1]'h).toNat : Int) 32 = 120 := by
    intro h
    have hd1 := drop_get t 1 h
    rw [List.drop_zero] at hd0
    rw [hd0] at hs
    obtain ⟨q', hq⟩ := rf_next _ _ _ _ hs
    rw [hd1] at hq
    exact not_x ⟨(t[1]'h).toNat, (t[1]'h).toNat_lt⟩ (rf_head _ _ _ _ hq)
  clear hd0 hh0
  obtain ⟨bs, hL⟩ : ∃ bs, bs = t.data.toList := ⟨_, rfl⟩
  rw [← hL] at hs
  have HL := Lib.hid hL
  clear hL
  have HS := Lib.hid hs
  have HD := Lib.hid hd
  have HE := Lib.hid he
  clear hs hd he
  go_enter Tryz.func194, Tryz.ntmps194
  go_wp2
  go_step3
  go_upto_region 12 with fail
  go_cut [54] from 21 to 53 (fun v54 wx => v54 = .bool false ∧ wx = w)
  case first =>
    go_wp2_with (go_at_call 170; refine (lower_not _ (n1 (by omega)) _).mono ?_; rintro e w' ⟨l, rfl, hl, rfl⟩)
    all_goals (go_meet; exact ⟨by first | rfl | exact congrArg Value.bool (by simpa using hl), rfl⟩)
  obtain ⟨rfl, rfl⟩ := hcut
  go_wp2
  go_step3
  go_wp2
  go_loop [2, 5, 7, 9, 13, 14, 15, 16, 17] (fun vm v5 vi v9 vd vg vn vk vp => ∃ (k : Nat) (q : St) (a : Int), vm = .int .u64 a ∧ v5 = .bool false ∧ vi = .int .i64 k ∧ v9 = .bool false ∧ vd = .bool q.dot ∧ vg = .bool q.dig ∧ vn = .int .i64 q.nd ∧ vk = .int .i64 q.nd ∧ vp = .int .i64 q.dp ∧ k ≤ t.size ∧ Hid (rf q (bs.drop k) = some s ∧ -(k : Int) ≤ q.dp ∧ q.dp ≤ k ∧ q.nd ≤ 18 ∧ q.nd ≤ k ∧ q.m < 10 ^ q.nd ∧ a = q.m))
    (fun _ _ vi _ _ _ _ _ _ => t.size - (intOf vi).toNat)
  case atStart => exact ⟨0, ⟨false, false, 0, 0, 0⟩, 0, rfl, rfl, rfl, rfl, rfl, rfl, rfl, rfl, rfl, by omega, by rw [List.drop_zero]; exact Lib.hid ⟨HS.out, by simp, by simp, by simp, by simp, by simp, rfl⟩⟩
  case round =>
    obtain ⟨k, ⟨dot, dig, nd, dp, m⟩, a, rfl, rfl, rfl, rfl, rfl, rfl, rfl, rfl, rfl, hk, hh⟩ := hrel
    by_cases hkn : k < t.size
    · obtain ⟨hr, b1, b2, b3, b4, b5, b6⟩ := hh.out
      clear hh
      have hdrop : bs.drop k = (t[k]'hkn) :: bs.drop (k + 1) := by rw [HL.out]; exact drop_get t k hkn
      rw [hdrop, rf] at hr
      generalize hcc : t[k]'hkn = c at hr
      dsimp only at hr b1 b2 b3 b4 b5 b6
      by_cases h46 : c.toNat = 46
      · rw [if_pos h46] at hr
        cases dot with
        | true => simp at hr
        | false =>
          have HN : Hid (rf ⟨true, dig, nd, nd, m⟩ (bs.drop (k + 1)) = some s ∧ -((k + 1 : Nat) : Int) ≤ (nd : Int) ∧ (nd : Int) ≤ ((k + 1 : Nat) : Int) ∧ nd ≤ 18 ∧ nd ≤ k + 1 ∧ m < 10 ^ nd ∧ a = m) := Lib.hid ⟨hr, by omega, by omega, b3, by omega, b5, b6⟩
          clear hr hdrop b1 b2 b3 b4 b5 b6
          go_wp2
          exact ⟨⟨k + 1, ⟨true, dig, nd, nd, m⟩, a, rfl, rfl, (by first | rfl | (congr 1)), rfl, rfl, rfl, rfl, rfl, rfl, by omega, HN⟩, by simp [intOf]; omega⟩
      · rw [if_neg h46] at hr
        by_cases hdg : 48 ≤ c.toNat ∧ c.toNat ≤ 57
        · rw [if_pos hdg] at hr
          obtain ⟨hd0, hd1⟩ := hdg
          by_cases hz : c.toNat = 48 ∧ nd = 0
          · rw [if_pos hz] at hr
            obtain ⟨hz1, hz2⟩ := hz
            subst hz2
            have hw : wrap64 (dp - 1) = dp - 1 := by unfold wrap64; omega
            have HN : Hid (rf ⟨dot, true, 0, dp - 1, m⟩ (bs.drop (k + 1)) = some s ∧ -((k + 1 : Nat) : Int) ≤ dp - 1 ∧ dp - 1 ≤ ((k + 1 : Nat) : Int) ∧ 0 ≤ 18 ∧ 0 ≤ k + 1 ∧ m < 10 ^ 0 ∧ a = m) := Lib.hid ⟨hr, by omega, by omega, by omega, by omega, b5, b6⟩
            clear hr hdrop b1 b2 b3 b4 b5 b6
            go_wp2
            exact ⟨⟨k + 1, ⟨dot, true, 0, dp - 1, m⟩, a, rfl, rfl, (by first | rfl | (congr 1)), rfl, rfl, rfl, rfl, rfl, (by first | rfl | (rw [hw])), by omega, HN⟩, by simp [intOf]; omega⟩
          · rw [if_neg hz] at hr
            by_cases hn : nd < 18
            · rw [if_pos hn] at hr
              have hp : (10 : Nat) ^ nd ≤ 10 ^ 17 := Nat.pow_le_pow_right (by decide) (by omega)
              have hp17 : (10 : Nat) ^ 17 = 100000000000000000 := by decide
              have hp2 : (10 : Nat) ^ (nd + 1) = 10 ^ nd * 10 := Nat.pow_succ 10 nd
              have hm1 : a * 10 + ((c.toNat : Int) - 48) = ((m * 10 + (c.toNat - 48) : Nat) : Int) := by omega
              have hmb : a < 100000000000000000 := by omega
              have hm0 : 0 ≤ a := by omega
              have HN : Hid (rf ⟨dot, true, nd + 1, dp, m * 10 + (c.toNat - 48)⟩ (bs.drop (k + 1)) = some s ∧ -((k + 1 : Nat) : Int) ≤ dp ∧ dp ≤ ((k + 1 : Nat) : Int) ∧ nd + 1 ≤ 18 ∧ nd + 1 ≤ k + 1 ∧ m * 10 + (c.toNat - 48) < 10 ^ (nd + 1) ∧ a * 10 + ((c.toNat : Int) - 48) = ((m * 10 + (c.toNat - 48) : Nat) : Int)) := Lib.hid ⟨hr, by omega, by omega, by omega, by omega, by omega, hm1⟩
              have hz' : ¬ ((c.toNat : Int) = 48 ∧ (nd : Int) = 0) := by omega
              have iov : a * 10 + ((c.toNat : Int) - 48) ≤ 1000000000000000000 := by omega
              have hcb : (c.toNat : Int) ≤ 57 := by omega
              have hcb2 : (48 : Int) ≤ c.toNat := by omega
              clear hr hdrop b1 b2 b4 b5 b6 hp hp17 hp2 hm1
              have hcl : c.toNat < 256 := c.toNat_lt
              go_wp2
              all_goals (refine ⟨⟨k + 1, ⟨dot, true, nd + 1, dp, m * 10 + (c.toNat - 48)⟩, a * 10 + ((c.toNat : Int) - 48), (by first | rfl | (congr 1; omega)), rfl, (by first | rfl | (congr 1)), rfl, rfl, rfl, (by first | rfl | (congr 1)), (by first | rfl | (congr 1)), rfl, by omega, HN⟩, by simp [intOf]; omega⟩)
            · rw [if_neg hn] at hr; cases hr
        · rw [if_neg hdg] at hr; cases hr
    · have hkk : k = t.size := by omega
      subst hkk
      obtain ⟨hr, b1, b2, b3, b4, b5, b6⟩ := hh.out
      clear hh
      rw [HL.out, List.drop_of_length_le (by rw [← Lib.size_eq]; omega)] at hr
      simp only [rf, Option.some.injEq] at hr
      subst hr
      obtain rfl : dig = true := HD.out
      dsimp only at b1 b2 b3 b4 b5 b6
      subst b6
      have he := HE.out
      dsimp only at he
      clear HE HD HS b4 b5
      cases dot
      all_goals (by_cases hm0 : m = 0)
      all_goals (simp only [hm0, if_true, if_false, Bool.false_eq_true, Int.sub_self] at he; subst he)
      all_goals (try subst hm0)
      all_goals (try (have hm1 : (0 : Int) < m := by omega))
      all_goals go_wp2
      all_goals (refine bodyPost_ret (v := _) ?_ rfl (And.intro rfl rfl); simp [results, Tryz.results194, go_sem])
end Go.Proofs.YtdmpbaanonafbaaGreatDoor.RF
