/- The buffer of the reader of unit files, by hand: FullRuneInString at every string. -/
import Derived.Test.YtlmmgienbmghmaaDoorLexD
import Derived.Test.YtlmmgienbmghmaaDoorGivU
set_option linter.unusedVariables false
set_option linter.unusedSimpArgs false
namespace Go.Proofs.YtlmmgienbmghmaaDoor.Lex
open Go.RowKit Go.Proofs.YtlmmgienbmghmaaDoorW.PrintWords Go.Proofs.YtlmmgienbmghmaaDoorW.PrintLast Go.Proofs.YtlmmgienbmghmaaDoorW.PrintMore
/-- utf8.FullRuneInString over the first bytes: n bytes, b0, b1, b2. -/
def fullN (n b0 b1 b2 : Nat) : Bool :=
  if n = 0 then false
  else if Lib.firstT b0 % 8 ≤ n then true
  else if 1 < n ∧ (b1 < Lib.accLo (Lib.firstT b0 / 16) ∨ Lib.accHi (Lib.firstT b0 / 16) < b1) then true
  else if 2 < n ∧ (b2 < 128 ∨ 191 < b2) then true
  else false
def fullF (s : ByteArray) : Bool := fullN s.size (s.get! 0).toNat (s.get! 1).toNat (s.get! 2).toNat
theorem get!_lt (s : ByteArray) (k : Nat) (h : k < s.size) : s.get! k = s[k]'h := by
  cases s with
  | mk d => exact getElem!_pos d k h
set_option maxHeartbeats 8000000 in
set_option maxRecDepth 1000000 in
theorem full_is (s : ByteArray) (W : World) (hT : Lib.Utf8Tabs 3 4 W) : Calls Tryd.prog 63 #[.string s] W fun e W' => e = .returned (.bool (fullF s)) ∧ Below W.heap.size W W' := by
  unfold fullF
  by_cases h0 : s.size = 0
  · have h1 : (s.size : Int) = 0 := by omega
    have hf : fullN s.size (s.get! 0).toNat (s.get! 1).toNat (s.get! 2).toNat = false := by unfold fullN; rw [if_pos h0]
    rw [hf]
    clear hT hf h0
    go_enter Tryd.func63, Tryd.ntmps63
    go_wp2
    go_ret
    exact ⟨rfl, Below.refl _ _⟩
  have q0 : (0 : Int) < (s.size : Int) := by omega
  have q1 : ¬ (s.size : Int) = 0 := by omega
  obtain ⟨x0, hx0⟩ : ∃ x0, s.get! 0 = x0 := ⟨_, rfl⟩
  obtain ⟨x1, hx1⟩ : ∃ x1, s.get! 1 = x1 := ⟨_, rfl⟩
  obtain ⟨x2, hx2⟩ : ∃ x2, s.get! 2 = x2 := ⟨_, rfl⟩
  have lt0 : 0 < s.size := by omega
  have hs0 : s[0]'lt0 = x0 := by rw [← hx0]; exact (get!_lt s 0 lt0).symm
  have l0 := x0.toNat_lt
  have hc0 := hT.1 x0.toNat (by omega)
  rw [hx0, hx1, hx2]
  rcases Lib.firstT_cases x0.toNat with hX | hX | hX | hX | hX | hX | hX | hX | hX
  · have hf : fullN s.size x0.toNat x1.toNat x2.toNat = true := by unfold fullN; rw [if_neg h0, hX, if_pos (by omega)]
    rw [hf]
    rw [hX] at hc0
    clear hf hX hT h0
    have q2 : (1 : Int) ≤ (s.size : Int) := by omega
    have q3 : (0 : Int) ≤ (s.size : Int) := by omega
    go_enter Tryd.func63, Tryd.ntmps63
    go_wp2
    go_ret
    exact ⟨rfl, Below.refl _ _⟩
  · have hf : fullN s.size x0.toNat x1.toNat x2.toNat = true := by unfold fullN; rw [if_neg h0, hX, if_pos (by omega)]
    rw [hf]
    rw [hX] at hc0
    clear hf hX hT h0
    have q2 : (1 : Int) ≤ (s.size : Int) := by omega
    have q3 : (0 : Int) ≤ (s.size : Int) := by omega
    go_enter Tryd.func63, Tryd.ntmps63
    go_wp2
    go_ret
    exact ⟨rfl, Below.refl _ _⟩
  · rw [hX] at hc0
    have ha0 := (hT.2 0 (by omega)).1
    have ha1 := (hT.2 0 (by omega)).2
    simp only [Lib.accLo, Lib.accHi, Nat.reduceMul, Nat.reduceAdd, Nat.reduceEqDiff, if_true, if_false] at ha0 ha1
    clear hT
    by_cases hn : 2 ≤ s.size
    · have hf : fullN s.size x0.toNat x1.toNat x2.toNat = true := by unfold fullN; rw [if_neg h0, hX, if_pos (by omega)]
      rw [hf]
      clear hf hX h0 ha0 ha1
      have q2 : (2 : Int) ≤ (s.size : Int) := by omega
      go_enter Tryd.func63, Tryd.ntmps63
      go_wp2
      go_ret
      exact ⟨rfl, Below.refl _ _⟩
    have hn1 : s.size = 1 := by omega
    have q2 : ¬ (2 : Int) ≤ (s.size : Int) := by omega
    have z1 : (s.size : Int) = 1 := by omega
    have hf : fullN s.size x0.toNat x1.toNat x2.toNat = false := by unfold fullN; rw [if_neg h0, hX, if_neg (by omega), if_neg (by omega), if_neg (by omega)]
    rw [hf]
    clear hf hX h0 hn hn1 q2
    go_enter Tryd.func63, Tryd.ntmps63
    go_wp2
    go_quiet (fail)
    all_goals go_wp2
    all_goals (go_ret; exact ⟨rfl, pw_below_drewN (below_alloc (Below.refl _ _) _) nq⟩)
  · rw [hX] at hc0
    have ha0 := (hT.2 1 (by omega)).1
    have ha1 := (hT.2 1 (by omega)).2
    simp only [Lib.accLo, Lib.accHi, Nat.reduceMul, Nat.reduceAdd, Nat.reduceEqDiff, if_true, if_false] at ha0 ha1
    clear hT
    by_cases hn : 3 ≤ s.size
    · have hf : fullN s.size x0.toNat x1.toNat x2.toNat = true := by unfold fullN; rw [if_neg h0, hX, if_pos (by omega)]
      rw [hf]
      clear hf hX h0 ha0 ha1
      have q2 : (3 : Int) ≤ (s.size : Int) := by omega
      go_enter Tryd.func63, Tryd.ntmps63
      go_wp2
      go_ret
      exact ⟨rfl, Below.refl _ _⟩
    by_cases hn1 : s.size = 1
    · have q2 : ¬ (3 : Int) ≤ (s.size : Int) := by omega
      have z1 : (s.size : Int) = 1 := by omega
      have hf : fullN s.size x0.toNat x1.toNat x2.toNat = false := by unfold fullN; rw [if_neg h0, hX, if_neg (by omega), if_neg (by omega), if_neg (by omega)]
      rw [hf]
      clear hf hX h0 hn hn1 q2
      go_enter Tryd.func63, Tryd.ntmps63
      go_wp2
      go_quiet (fail)
      all_goals go_wp2
      all_goals (go_ret; exact ⟨rfl, pw_below_drewN (below_alloc (Below.refl _ _) _) nq⟩)
    have hn2 : s.size = 2 := by omega
    have q2 : ¬ (3 : Int) ≤ (s.size : Int) := by omega
    have z1 : (s.size : Int) = 2 := by omega
    have lt1 : 1 < s.size := by omega
    have hs1 : s[1]'lt1 = x1 := by rw [← hx1]; exact (get!_lt s 1 lt1).symm
    have b1 : decide ((1 : Int) < (s.size : Int)) = true := decide_eq_true (by omega)
    have b1' : (1 : Int) < (s.size : Int) := by omega
    by_cases c1 : x1.toNat < 160
    · have d1 : decide (((x1.toNat : Nat) : Int) < 160) = true := decide_eq_true (by omega)
      have d1' : decide (x1.toNat < 160) = true := decide_eq_true (by omega)
      have hf : fullN s.size x0.toNat x1.toNat x2.toNat = true := by unfold fullN Lib.accLo Lib.accHi; rw [if_neg h0, hX, if_neg (by omega)]; rw [if_pos ⟨by omega, by simp only [Nat.reduceDiv, Nat.reduceEqDiff, if_true, if_false]; omega⟩]
      rw [hf]
      clear hf hX h0 hn hn2 q2
      go_enter Tryd.func63, Tryd.ntmps63
      go_wp2
      go_quiet (fail)
      all_goals go_wp2
      all_goals (go_ret; exact ⟨rfl, pw_below_drewN (below_alloc (Below.refl _ _) _) nq⟩)
    by_cases c2 : 191 < x1.toNat
    · have d1 : decide (((x1.toNat : Nat) : Int) < 160) = false := decide_eq_false (by omega)
      have d1' : decide (x1.toNat < 160) = false := decide_eq_false (by omega)
      have d2 : decide ((191 : Int) < ((x1.toNat : Nat) : Int)) = true := decide_eq_true (by omega)
      have d2' : decide (191 < x1.toNat) = true := decide_eq_true (by omega)
      have hf : fullN s.size x0.toNat x1.toNat x2.toNat = true := by unfold fullN Lib.accLo Lib.accHi; rw [if_neg h0, hX, if_neg (by omega)]; rw [if_pos ⟨by omega, by simp only [Nat.reduceDiv, Nat.reduceEqDiff, if_true, if_false]; omega⟩]
      rw [hf]
      clear hf hX h0 hn hn2 q2
      go_enter Tryd.func63, Tryd.ntmps63
      go_wp2
      go_quiet (fail)
      all_goals go_wp2
      all_goals (go_ret; exact ⟨rfl, pw_below_drewN (below_alloc (Below.refl _ _) _) nq⟩)
    · have d1 : decide (((x1.toNat : Nat) : Int) < 160) = false := decide_eq_false (by omega)
      have d1' : decide (x1.toNat < 160) = false := decide_eq_false (by omega)
      have d2 : decide ((191 : Int) < ((x1.toNat : Nat) : Int)) = false := decide_eq_false (by omega)
      have d2' : decide (191 < x1.toNat) = false := decide_eq_false (by omega)
      have hf : fullN s.size x0.toNat x1.toNat x2.toNat = false := by unfold fullN Lib.accLo Lib.accHi; rw [if_neg h0, hX, if_neg (by omega)]; rw [if_neg (by simp only [Nat.reduceDiv, Nat.reduceEqDiff, if_true, if_false]; omega)]; rw [if_neg (by omega)]
      rw [hf]
      clear hf hX h0 hn hn2 q2
      go_enter Tryd.func63, Tryd.ntmps63
      go_wp2
      go_quiet (fail)
      all_goals go_wp2
      all_goals (go_ret; exact ⟨rfl, pw_below_drewN (below_alloc (Below.refl _ _) _) nq⟩)
  · rw [hX] at hc0
    have ha0 := (hT.2 0 (by omega)).1
    have ha1 := (hT.2 0 (by omega)).2
    simp only [Lib.accLo, Lib.accHi, Nat.reduceMul, Nat.reduceAdd, Nat.reduceEqDiff, if_true, if_false] at ha0 ha1
    clear hT
    by_cases hn : 3 ≤ s.size
    · have hf : fullN s.size x0.toNat x1.toNat x2.toNat = true := by unfold fullN; rw [if_neg h0, hX, if_pos (by omega)]
      rw [hf]
      clear hf hX h0 ha0 ha1
      have q2 : (3 : Int) ≤ (s.size : Int) := by omega
      go_enter Tryd.func63, Tryd.ntmps63
      go_wp2
      go_ret
      exact ⟨rfl, Below.refl _ _⟩
    by_cases hn1 : s.size = 1
    · have q2 : ¬ (3 : Int) ≤ (s.size : Int) := by omega
      have z1 : (s.size : Int) = 1 := by omega
      have hf : fullN s.size x0.toNat x1.toNat x2.toNat = false := by unfold fullN; rw [if_neg h0, hX, if_neg (by omega), if_neg (by omega), if_neg (by omega)]
      rw [hf]
      clear hf hX h0 hn hn1 q2
      go_enter Tryd.func63, Tryd.ntmps63
      go_wp2
      go_quiet (fail)
      all_goals go_wp2
      all_goals (go_ret; exact ⟨rfl, pw_below_drewN (below_alloc (Below.refl _ _) _) nq⟩)
    have hn2 : s.size = 2 := by omega
    have q2 : ¬ (3 : Int) ≤ (s.size : Int) := by omega
    have z1 : (s.size : Int) = 2 := by omega
    have lt1 : 1 < s.size := by omega
    have hs1 : s[1]'lt1 = x1 := by rw [← hx1]; exact (get!_lt s 1 lt1).symm
    have b1 : decide ((1 : Int) < (s.size : Int)) = true := decide_eq_true (by omega)
    have b1' : (1 : Int) < (s.size : Int) := by omega
    by_cases c1 : x1.toNat < 128
    · have d1 : decide (((x1.toNat : Nat) : Int) < 128) = true := decide_eq_true (by omega)
      have d1' : decide (x1.toNat < 128) = true := decide_eq_true (by omega)
      have hf : fullN s.size x0.toNat x1.toNat x2.toNat = true := by unfold fullN Lib.accLo Lib.accHi; rw [if_neg h0, hX, if_neg (by omega)]; rw [if_pos ⟨by omega, by simp only [Nat.reduceDiv, Nat.reduceEqDiff, if_true, if_false]; omega⟩]
      rw [hf]
      clear hf hX h0 hn hn2 q2
      go_enter Tryd.func63, Tryd.ntmps63
      go_wp2
      go_quiet (fail)
      all_goals go_wp2
      all_goals (go_ret; exact ⟨rfl, pw_below_drewN (below_alloc (Below.refl _ _) _) nq⟩)
    by_cases c2 : 191 < x1.toNat
    · have d1 : decide (((x1.toNat : Nat) : Int) < 128) = false := decide_eq_false (by omega)
      have d1' : decide (x1.toNat < 128) = false := decide_eq_false (by omega)
      have d2 : decide ((191 : Int) < ((x1.toNat : Nat) : Int)) = true := decide_eq_true (by omega)
      have d2' : decide (191 < x1.toNat) = true := decide_eq_true (by omega)
      have hf : fullN s.size x0.toNat x1.toNat x2.toNat = true := by unfold fullN Lib.accLo Lib.accHi; rw [if_neg h0, hX, if_neg (by omega)]; rw [if_pos ⟨by omega, by simp only [Nat.reduceDiv, Nat.reduceEqDiff, if_true, if_false]; omega⟩]
      rw [hf]
      clear hf hX h0 hn hn2 q2
      go_enter Tryd.func63, Tryd.ntmps63
      go_wp2
      go_quiet (fail)
      all_goals go_wp2
      all_goals (go_ret; exact ⟨rfl, pw_below_drewN (below_alloc (Below.refl _ _) _) nq⟩)
    · have d1 : decide (((x1.toNat : Nat) : Int) < 128) = false := decide_eq_false (by omega)
      have d1' : decide (x1.toNat < 128) = false := decide_eq_false (by omega)
      have d2 : decide ((191 : Int) < ((x1.toNat : Nat) : Int)) = false := decide_eq_false (by omega)
      have d2' : decide (191 < x1.toNat) = false := decide_eq_false (by omega)
      have hf : fullN s.size x0.toNat x1.toNat x2.toNat = false := by unfold fullN Lib.accLo Lib.accHi; rw [if_neg h0, hX, if_neg (by omega)]; rw [if_neg (by simp only [Nat.reduceDiv, Nat.reduceEqDiff, if_true, if_false]; omega)]; rw [if_neg (by omega)]
      rw [hf]
      clear hf hX h0 hn hn2 q2
      go_enter Tryd.func63, Tryd.ntmps63
      go_wp2
      go_quiet (fail)
      all_goals go_wp2
      all_goals (go_ret; exact ⟨rfl, pw_below_drewN (below_alloc (Below.refl _ _) _) nq⟩)
  · rw [hX] at hc0
    have ha0 := (hT.2 2 (by omega)).1
    have ha1 := (hT.2 2 (by omega)).2
    simp only [Lib.accLo, Lib.accHi, Nat.reduceMul, Nat.reduceAdd, Nat.reduceEqDiff, if_true, if_false] at ha0 ha1
    clear hT
    by_cases hn : 3 ≤ s.size
    · have hf : fullN s.size x0.toNat x1.toNat x2.toNat = true := by unfold fullN; rw [if_neg h0, hX, if_pos (by omega)]
      rw [hf]
      clear hf hX h0 ha0 ha1
      have q2 : (3 : Int) ≤ (s.size : Int) := by omega
      go_enter Tryd.func63, Tryd.ntmps63
      go_wp2
      go_ret
      exact ⟨rfl, Below.refl _ _⟩
    by_cases hn1 : s.size = 1
    · have q2 : ¬ (3 : Int) ≤ (s.size : Int) := by omega
      have z1 : (s.size : Int) = 1 := by omega
      have hf : fullN s.size x0.toNat x1.toNat x2.toNat = false := by unfold fullN; rw [if_neg h0, hX, if_neg (by omega), if_neg (by omega), if_neg (by omega)]
      rw [hf]
      clear hf hX h0 hn hn1 q2
      go_enter Tryd.func63, Tryd.ntmps63
      go_wp2
      go_quiet (fail)
      all_goals go_wp2
      all_goals (go_ret; exact ⟨rfl, pw_below_drewN (below_alloc (Below.refl _ _) _) nq⟩)
    have hn2 : s.size = 2 := by omega
    have q2 : ¬ (3 : Int) ≤ (s.size : Int) := by omega
    have z1 : (s.size : Int) = 2 := by omega
    have lt1 : 1 < s.size := by omega
    have hs1 : s[1]'lt1 = x1 := by rw [← hx1]; exact (get!_lt s 1 lt1).symm
    have b1 : decide ((1 : Int) < (s.size : Int)) = true := decide_eq_true (by omega)
    have b1' : (1 : Int) < (s.size : Int) := by omega
    by_cases c1 : x1.toNat < 128
    · have d1 : decide (((x1.toNat : Nat) : Int) < 128) = true := decide_eq_true (by omega)
      have d1' : decide (x1.toNat < 128) = true := decide_eq_true (by omega)
      have hf : fullN s.size x0.toNat x1.toNat x2.toNat = true := by unfold fullN Lib.accLo Lib.accHi; rw [if_neg h0, hX, if_neg (by omega)]; rw [if_pos ⟨by omega, by simp only [Nat.reduceDiv, Nat.reduceEqDiff, if_true, if_false]; omega⟩]
      rw [hf]
      clear hf hX h0 hn hn2 q2
      go_enter Tryd.func63, Tryd.ntmps63
      go_wp2
      go_quiet (fail)
      all_goals go_wp2
      all_goals (go_ret; exact ⟨rfl, pw_below_drewN (below_alloc (Below.refl _ _) _) nq⟩)
    by_cases c2 : 159 < x1.toNat
    · have d1 : decide (((x1.toNat : Nat) : Int) < 128) = false := decide_eq_false (by omega)
      have d1' : decide (x1.toNat < 128) = false := decide_eq_false (by omega)
      have d2 : decide ((159 : Int) < ((x1.toNat : Nat) : Int)) = true := decide_eq_true (by omega)
      have d2' : decide (159 < x1.toNat) = true := decide_eq_true (by omega)
      have hf : fullN s.size x0.toNat x1.toNat x2.toNat = true := by unfold fullN Lib.accLo Lib.accHi; rw [if_neg h0, hX, if_neg (by omega)]; rw [if_pos ⟨by omega, by simp only [Nat.reduceDiv, Nat.reduceEqDiff, if_true, if_false]; omega⟩]
      rw [hf]
      clear hf hX h0 hn hn2 q2
      go_enter Tryd.func63, Tryd.ntmps63
      go_wp2
      go_quiet (fail)
      all_goals go_wp2
      all_goals (go_ret; exact ⟨rfl, pw_below_drewN (below_alloc (Below.refl _ _) _) nq⟩)
    · have d1 : decide (((x1.toNat : Nat) : Int) < 128) = false := decide_eq_false (by omega)
      have d1' : decide (x1.toNat < 128) = false := decide_eq_false (by omega)
      have d2 : decide ((159 : Int) < ((x1.toNat : Nat) : Int)) = false := decide_eq_false (by omega)
      have d2' : decide (159 < x1.toNat) = false := decide_eq_false (by omega)
      have hf : fullN s.size x0.toNat x1.toNat x2.toNat = false := by unfold fullN Lib.accLo Lib.accHi; rw [if_neg h0, hX, if_neg (by omega)]; rw [if_neg (by simp only [Nat.reduceDiv, Nat.reduceEqDiff, if_true, if_false]; omega)]; rw [if_neg (by omega)]
      rw [hf]
      clear hf hX h0 hn hn2 q2
      go_enter Tryd.func63, Tryd.ntmps63
      go_wp2
      go_quiet (fail)
      all_goals go_wp2
      all_goals (go_ret; exact ⟨rfl, pw_below_drewN (below_alloc (Below.refl _ _) _) nq⟩)
  · rw [hX] at hc0
    have ha0 := (hT.2 3 (by omega)).1
    have ha1 := (hT.2 3 (by omega)).2
    simp only [Lib.accLo, Lib.accHi, Nat.reduceMul, Nat.reduceAdd, Nat.reduceEqDiff, if_true, if_false] at ha0 ha1
    clear hT
    by_cases hn : 4 ≤ s.size
    · have hf : fullN s.size x0.toNat x1.toNat x2.toNat = true := by unfold fullN; rw [if_neg h0, hX, if_pos (by omega)]
      rw [hf]
      clear hf hX h0 ha0 ha1
      have q2 : (4 : Int) ≤ (s.size : Int) := by omega
      go_enter Tryd.func63, Tryd.ntmps63
      go_wp2
      go_ret
      exact ⟨rfl, Below.refl _ _⟩
    by_cases hn1 : s.size = 1
    · have q2 : ¬ (4 : Int) ≤ (s.size : Int) := by omega
      have z1 : (s.size : Int) = 1 := by omega
      have hf : fullN s.size x0.toNat x1.toNat x2.toNat = false := by unfold fullN; rw [if_neg h0, hX, if_neg (by omega), if_neg (by omega), if_neg (by omega)]
      rw [hf]
      clear hf hX h0 hn hn1 q2
      go_enter Tryd.func63, Tryd.ntmps63
      go_wp2
      go_quiet (fail)
      all_goals go_wp2
      all_goals (go_ret; exact ⟨rfl, pw_below_drewN (below_alloc (Below.refl _ _) _) nq⟩)
    by_cases hn2 : s.size = 2
    · have q2 : ¬ (4 : Int) ≤ (s.size : Int) := by omega
      have z1 : (s.size : Int) = 2 := by omega
      have lt1 : 1 < s.size := by omega
      have hs1 : s[1]'lt1 = x1 := by rw [← hx1]; exact (get!_lt s 1 lt1).symm
      have b1 : decide ((1 : Int) < (s.size : Int)) = true := decide_eq_true (by omega)
      have b1' : (1 : Int) < (s.size : Int) := by omega
      by_cases c1 : x1.toNat < 144
      · have d1 : decide (((x1.toNat : Nat) : Int) < 144) = true := decide_eq_true (by omega)
        have d1' : decide (x1.toNat < 144) = true := decide_eq_true (by omega)
        have hf : fullN s.size x0.toNat x1.toNat x2.toNat = true := by unfold fullN Lib.accLo Lib.accHi; rw [if_neg h0, hX, if_neg (by omega)]; rw [if_pos ⟨by omega, by simp only [Nat.reduceDiv, Nat.reduceEqDiff, if_true, if_false]; omega⟩]
        rw [hf]
        clear hf hX h0 hn hn2 q2
        go_enter Tryd.func63, Tryd.ntmps63
        go_wp2
        go_quiet (fail)
        all_goals go_wp2
        all_goals (go_ret; exact ⟨rfl, pw_below_drewN (below_alloc (Below.refl _ _) _) nq⟩)
      by_cases c2 : 191 < x1.toNat
      · have d1 : decide (((x1.toNat : Nat) : Int) < 144) = false := decide_eq_false (by omega)
        have d1' : decide (x1.toNat < 144) = false := decide_eq_false (by omega)
        have d2 : decide ((191 : Int) < ((x1.toNat : Nat) : Int)) = true := decide_eq_true (by omega)
        have d2' : decide (191 < x1.toNat) = true := decide_eq_true (by omega)
        have hf : fullN s.size x0.toNat x1.toNat x2.toNat = true := by unfold fullN Lib.accLo Lib.accHi; rw [if_neg h0, hX, if_neg (by omega)]; rw [if_pos ⟨by omega, by simp only [Nat.reduceDiv, Nat.reduceEqDiff, if_true, if_false]; omega⟩]
        rw [hf]
        clear hf hX h0 hn hn2 q2
        go_enter Tryd.func63, Tryd.ntmps63
        go_wp2
        go_quiet (fail)
        all_goals go_wp2
        all_goals (go_ret; exact ⟨rfl, pw_below_drewN (below_alloc (Below.refl _ _) _) nq⟩)
      · have d1 : decide (((x1.toNat : Nat) : Int) < 144) = false := decide_eq_false (by omega)
        have d1' : decide (x1.toNat < 144) = false := decide_eq_false (by omega)
        have d2 : decide ((191 : Int) < ((x1.toNat : Nat) : Int)) = false := decide_eq_false (by omega)
        have d2' : decide (191 < x1.toNat) = false := decide_eq_false (by omega)
        have hf : fullN s.size x0.toNat x1.toNat x2.toNat = false := by unfold fullN Lib.accLo Lib.accHi; rw [if_neg h0, hX, if_neg (by omega)]; rw [if_neg (by simp only [Nat.reduceDiv, Nat.reduceEqDiff, if_true, if_false]; omega)]; rw [if_neg (by omega)]
        rw [hf]
        clear hf hX h0 hn hn2 q2
        go_enter Tryd.func63, Tryd.ntmps63
        go_wp2
        go_quiet (fail)
        all_goals go_wp2
        all_goals (go_ret; exact ⟨rfl, pw_below_drewN (below_alloc (Below.refl _ _) _) nq⟩)
    have hn3 : s.size = 3 := by omega
    have q2 : ¬ (4 : Int) ≤ (s.size : Int) := by omega
    have z1 : (s.size : Int) = 3 := by omega
    have lt1 : 1 < s.size := by omega
    have hs1 : s[1]'lt1 = x1 := by rw [← hx1]; exact (get!_lt s 1 lt1).symm
    have b1 : decide ((1 : Int) < (s.size : Int)) = true := decide_eq_true (by omega)
    have b1' : (1 : Int) < (s.size : Int) := by omega
    have lt2 : 2 < s.size := by omega
    have hs2 : s[2]'lt2 = x2 := by rw [← hx2]; exact (get!_lt s 2 lt2).symm
    have b2' : (2 : Int) < (s.size : Int) := by omega
    by_cases c1 : x1.toNat < 144
    · have d1 : decide (((x1.toNat : Nat) : Int) < 144) = true := decide_eq_true (by omega)
      have d1' : decide (x1.toNat < 144) = true := decide_eq_true (by omega)
      have hf : fullN s.size x0.toNat x1.toNat x2.toNat = true := by unfold fullN Lib.accLo Lib.accHi; rw [if_neg h0, hX, if_neg (by omega)]; rw [if_pos ⟨by omega, by simp only [Nat.reduceDiv, Nat.reduceEqDiff, if_true, if_false]; omega⟩]
      rw [hf]
      clear hf hX h0 hn hn3 q2
      go_enter Tryd.func63, Tryd.ntmps63
      go_wp2
      go_quiet (fail)
      all_goals go_wp2
      all_goals (go_ret; exact ⟨rfl, pw_below_drewN (below_alloc (Below.refl _ _) _) nq⟩)
    by_cases c2 : 191 < x1.toNat
    · have d1 : decide (((x1.toNat : Nat) : Int) < 144) = false := decide_eq_false (by omega)
      have d1' : decide (x1.toNat < 144) = false := decide_eq_false (by omega)
      have d2 : decide ((191 : Int) < ((x1.toNat : Nat) : Int)) = true := decide_eq_true (by omega)
      have d2' : decide (191 < x1.toNat) = true := decide_eq_true (by omega)
      have hf : fullN s.size x0.toNat x1.toNat x2.toNat = true := by unfold fullN Lib.accLo Lib.accHi; rw [if_neg h0, hX, if_neg (by omega)]; rw [if_pos ⟨by omega, by simp only [Nat.reduceDiv, Nat.reduceEqDiff, if_true, if_false]; omega⟩]
      rw [hf]
      clear hf hX h0 hn hn3 q2
      go_enter Tryd.func63, Tryd.ntmps63
      go_wp2
      go_quiet (fail)
      all_goals go_wp2
      all_goals (go_ret; exact ⟨rfl, pw_below_drewN (below_alloc (Below.refl _ _) _) nq⟩)
    by_cases c3 : x2.toNat < 128
    · have d1 : decide (((x1.toNat : Nat) : Int) < 144) = false := decide_eq_false (by omega)
      have d1' : decide (x1.toNat < 144) = false := decide_eq_false (by omega)
      have d2 : decide ((191 : Int) < ((x1.toNat : Nat) : Int)) = false := decide_eq_false (by omega)
      have d2' : decide (191 < x1.toNat) = false := decide_eq_false (by omega)
      have d3 : decide (((x2.toNat : Nat) : Int) < 128) = true := decide_eq_true (by omega)
      have d3' : decide (x2.toNat < 128) = true := decide_eq_true (by omega)
      have hf : fullN s.size x0.toNat x1.toNat x2.toNat = true := by unfold fullN Lib.accLo Lib.accHi; rw [if_neg h0, hX, if_neg (by omega)]; rw [if_neg (by simp only [Nat.reduceDiv, Nat.reduceEqDiff, if_true, if_false]; omega)]; rw [if_pos (by omega)]
      rw [hf]
      clear hf hX h0 hn hn3 q2
      go_enter Tryd.func63, Tryd.ntmps63
      go_wp2
      go_quiet (fail)
      all_goals go_wp2
      all_goals (go_ret; exact ⟨rfl, pw_below_drewN (below_alloc (Below.refl _ _) _) nq⟩)
    by_cases c4 : 191 < x2.toNat
    · have d1 : decide (((x1.toNat : Nat) : Int) < 144) = false := decide_eq_false (by omega)
      have d1' : decide (x1.toNat < 144) = false := decide_eq_false (by omega)
      have d2 : decide ((191 : Int) < ((x1.toNat : Nat) : Int)) = false := decide_eq_false (by omega)
      have d2' : decide (191 < x1.toNat) = false := decide_eq_false (by omega)
      have d3 : decide (((x2.toNat : Nat) : Int) < 128) = false := decide_eq_false (by omega)
      have d3' : decide (x2.toNat < 128) = false := decide_eq_false (by omega)
      have d4 : decide ((191 : Int) < ((x2.toNat : Nat) : Int)) = true := decide_eq_true (by omega)
      have d4' : decide (191 < x2.toNat) = true := decide_eq_true (by omega)
      have hf : fullN s.size x0.toNat x1.toNat x2.toNat = true := by unfold fullN Lib.accLo Lib.accHi; rw [if_neg h0, hX, if_neg (by omega)]; rw [if_neg (by simp only [Nat.reduceDiv, Nat.reduceEqDiff, if_true, if_false]; omega)]; rw [if_pos (by omega)]
      rw [hf]
      clear hf hX h0 hn hn3 q2
      go_enter Tryd.func63, Tryd.ntmps63
      go_wp2
      go_quiet (fail)
      all_goals go_wp2
      all_goals (go_ret; exact ⟨rfl, pw_below_drewN (below_alloc (Below.refl _ _) _) nq⟩)
    · have d1 : decide (((x1.toNat : Nat) : Int) < 144) = false := decide_eq_false (by omega)
      have d1' : decide (x1.toNat < 144) = false := decide_eq_false (by omega)
      have d2 : decide ((191 : Int) < ((x1.toNat : Nat) : Int)) = false := decide_eq_false (by omega)
      have d2' : decide (191 < x1.toNat) = false := decide_eq_false (by omega)
      have d3 : decide (((x2.toNat : Nat) : Int) < 128) = false := decide_eq_false (by omega)
      have d3' : decide (x2.toNat < 128) = false := decide_eq_false (by omega)
      have d4 : decide ((191 : Int) < ((x2.toNat : Nat) : Int)) = false := decide_eq_false (by omega)
      have d4' : decide (191 < x2.toNat) = false := decide_eq_false (by omega)
      have hf : fullN s.size x0.toNat x1.toNat x2.toNat = false := by unfold fullN Lib.accLo Lib.accHi; rw [if_neg h0, hX, if_neg (by omega)]; rw [if_neg (by simp only [Nat.reduceDiv, Nat.reduceEqDiff, if_true, if_false]; omega)]; rw [if_neg (by omega)]
      rw [hf]
      clear hf hX h0 hn hn3 q2
      go_enter Tryd.func63, Tryd.ntmps63
      go_wp2
      go_quiet (fail)
      all_goals go_wp2
      all_goals (go_ret; exact ⟨rfl, pw_below_drewN (below_alloc (Below.refl _ _) _) nq⟩)
  · rw [hX] at hc0
    have ha0 := (hT.2 0 (by omega)).1
    have ha1 := (hT.2 0 (by omega)).2
    simp only [Lib.accLo, Lib.accHi, Nat.reduceMul, Nat.reduceAdd, Nat.reduceEqDiff, if_true, if_false] at ha0 ha1
    clear hT
    by_cases hn : 4 ≤ s.size
    · have hf : fullN s.size x0.toNat x1.toNat x2.toNat = true := by unfold fullN; rw [if_neg h0, hX, if_pos (by omega)]
      rw [hf]
      clear hf hX h0 ha0 ha1
      have q2 : (4 : Int) ≤ (s.size : Int) := by omega
      go_enter Tryd.func63, Tryd.ntmps63
      go_wp2
      go_ret
      exact ⟨rfl, Below.refl _ _⟩
    by_cases hn1 : s.size = 1
    · have q2 : ¬ (4 : Int) ≤ (s.size : Int) := by omega
      have z1 : (s.size : Int) = 1 := by omega
      have hf : fullN s.size x0.toNat x1.toNat x2.toNat = false := by unfold fullN; rw [if_neg h0, hX, if_neg (by omega), if_neg (by omega), if_neg (by omega)]
      rw [hf]
      clear hf hX h0 hn hn1 q2
      go_enter Tryd.func63, Tryd.ntmps63
      go_wp2
      go_quiet (fail)
      all_goals go_wp2
      all_goals (go_ret; exact ⟨rfl, pw_below_drewN (below_alloc (Below.refl _ _) _) nq⟩)
    by_cases hn2 : s.size = 2
    · have q2 : ¬ (4 : Int) ≤ (s.size : Int) := by omega
      have z1 : (s.size : Int) = 2 := by omega
      have lt1 : 1 < s.size := by omega
      have hs1 : s[1]'lt1 = x1 := by rw [← hx1]; exact (get!_lt s 1 lt1).symm
      have b1 : decide ((1 : Int) < (s.size : Int)) = true := decide_eq_true (by omega)
      have b1' : (1 : Int) < (s.size : Int) := by omega
      by_cases c1 : x1.toNat < 128
      · have d1 : decide (((x1.toNat : Nat) : Int) < 128) = true := decide_eq_true (by omega)
        have d1' : decide (x1.toNat < 128) = true := decide_eq_true (by omega)
        have hf : fullN s.size x0.toNat x1.toNat x2.toNat = true := by unfold fullN Lib.accLo Lib.accHi; rw [if_neg h0, hX, if_neg (by omega)]; rw [if_pos ⟨by omega, by simp only [Nat.reduceDiv, Nat.reduceEqDiff, if_true, if_false]; omega⟩]
        rw [hf]
        clear hf hX h0 hn hn2 q2
        go_enter Tryd.func63, Tryd.ntmps63
        go_wp2
        go_quiet (fail)
        all_goals go_wp2
        all_goals (go_ret; exact ⟨rfl, pw_below_drewN (below_alloc (Below.refl _ _) _) nq⟩)
      by_cases c2 : 191 < x1.toNat
      · have d1 : decide (((x1.toNat : Nat) : Int) < 128) = false := decide_eq_false (by omega)
        have d1' : decide (x1.toNat < 128) = false := decide_eq_false (by omega)
        have d2 : decide ((191 : Int) < ((x1.toNat : Nat) : Int)) = true := decide_eq_true (by omega)
        have d2' : decide (191 < x1.toNat) = true := decide_eq_true (by omega)
        have hf : fullN s.size x0.toNat x1.toNat x2.toNat = true := by unfold fullN Lib.accLo Lib.accHi; rw [if_neg h0, hX, if_neg (by omega)]; rw [if_pos ⟨by omega, by simp only [Nat.reduceDiv, Nat.reduceEqDiff, if_true, if_false]; omega⟩]
        rw [hf]
        clear hf hX h0 hn hn2 q2
        go_enter Tryd.func63, Tryd.ntmps63
        go_wp2
        go_quiet (fail)
        all_goals go_wp2
        all_goals (go_ret; exact ⟨rfl, pw_below_drewN (below_alloc (Below.refl _ _) _) nq⟩)
      · have d1 : decide (((x1.toNat : Nat) : Int) < 128) = false := decide_eq_false (by omega)
        have d1' : decide (x1.toNat < 128) = false := decide_eq_false (by omega)
        have d2 : decide ((191 : Int) < ((x1.toNat : Nat) : Int)) = false := decide_eq_false (by omega)
        have d2' : decide (191 < x1.toNat) = false := decide_eq_false (by omega)
        have hf : fullN s.size x0.toNat x1.toNat x2.toNat = false := by unfold fullN Lib.accLo Lib.accHi; rw [if_neg h0, hX, if_neg (by omega)]; rw [if_neg (by simp only [Nat.reduceDiv, Nat.reduceEqDiff, if_true, if_false]; omega)]; rw [if_neg (by omega)]
        rw [hf]
        clear hf hX h0 hn hn2 q2
        go_enter Tryd.func63, Tryd.ntmps63
        go_wp2
        go_quiet (fail)
        all_goals go_wp2
        all_goals (go_ret; exact ⟨rfl, pw_below_drewN (below_alloc (Below.refl _ _) _) nq⟩)
    have hn3 : s.size = 3 := by omega
    have q2 : ¬ (4 : Int) ≤ (s.size : Int) := by omega
    have z1 : (s.size : Int) = 3 := by omega
    have lt1 : 1 < s.size := by omega
    have hs1 : s[1]'lt1 = x1 := by rw [← hx1]; exact (get!_lt s 1 lt1).symm
    have b1 : decide ((1 : Int) < (s.size : Int)) = true := decide_eq_true (by omega)
    have b1' : (1 : Int) < (s.size : Int) := by omega
    have lt2 : 2 < s.size := by omega
    have hs2 : s[2]'lt2 = x2 := by rw [← hx2]; exact (get!_lt s 2 lt2).symm
    have b2' : (2 : Int) < (s.size : Int) := by omega
    by_cases c1 : x1.toNat < 128
    · have d1 : decide (((x1.toNat : Nat) : Int) < 128) = true := decide_eq_true (by omega)
      have d1' : decide (x1.toNat < 128) = true := decide_eq_true (by omega)
      have hf : fullN s.size x0.toNat x1.toNat x2.toNat = true := by unfold fullN Lib.accLo Lib.accHi; rw [if_neg h0, hX, if_neg (by omega)]; rw [if_pos ⟨by omega, by simp only [Nat.reduceDiv, Nat.reduceEqDiff, if_true, if_false]; omega⟩]
      rw [hf]
      clear hf hX h0 hn hn3 q2
      go_enter Tryd.func63, Tryd.ntmps63
      go_wp2
      go_quiet (fail)
      all_goals go_wp2
      all_goals (go_ret; exact ⟨rfl, pw_below_drewN (below_alloc (Below.refl _ _) _) nq⟩)
    by_cases c2 : 191 < x1.toNat
    · have d1 : decide (((x1.toNat : Nat) : Int) < 128) = false := decide_eq_false (by omega)
      have d1' : decide (x1.toNat < 128) = false := decide_eq_false (by omega)
      have d2 : decide ((191 : Int) < ((x1.toNat : Nat) : Int)) = true := decide_eq_true (by omega)
      have d2' : decide (191 < x1.toNat) = true := decide_eq_true (by omega)
      have hf : fullN s.size x0.toNat x1.toNat x2.toNat = true := by unfold fullN Lib.accLo Lib.accHi; rw [if_neg h0, hX, if_neg (by omega)]; rw [if_pos ⟨by omega, by simp only [Nat.reduceDiv, Nat.reduceEqDiff, if_true, if_false]; omega⟩]
      rw [hf]
      clear hf hX h0 hn hn3 q2
      go_enter Tryd.func63, Tryd.ntmps63
      go_wp2
      go_quiet (fail)
      all_goals go_wp2
      all_goals (go_ret; exact ⟨rfl, pw_below_drewN (below_alloc (Below.refl _ _) _) nq⟩)
    by_cases c3 : x2.toNat < 128
    · have d1 : decide (((x1.toNat : Nat) : Int) < 128) = false := decide_eq_false (by omega)
      have d1' : decide (x1.toNat < 128) = false := decide_eq_false (by omega)
      have d2 : decide ((191 : Int) < ((x1.toNat : Nat) : Int)) = false := decide_eq_false (by omega)
      have d2' : decide (191 < x1.toNat) = false := decide_eq_false (by omega)
      have d3 : decide (((x2.toNat : Nat) : Int) < 128) = true := decide_eq_true (by omega)
      have d3' : decide (x2.toNat < 128) = true := decide_eq_true (by omega)
      have hf : fullN s.size x0.toNat x1.toNat x2.toNat = true := by unfold fullN Lib.accLo Lib.accHi; rw [if_neg h0, hX, if_neg (by omega)]; rw [if_neg (by simp only [Nat.reduceDiv, Nat.reduceEqDiff, if_true, if_false]; omega)]; rw [if_pos (by omega)]
      rw [hf]
      clear hf hX h0 hn hn3 q2
      go_enter Tryd.func63, Tryd.ntmps63
      go_wp2
      go_quiet (fail)
      all_goals go_wp2
      all_goals (go_ret; exact ⟨rfl, pw_below_drewN (below_alloc (Below.refl _ _) _) nq⟩)
    by_cases c4 : 191 < x2.toNat
    · have d1 : decide (((x1.toNat : Nat) : Int) < 128) = false := decide_eq_false (by omega)
      have d1' : decide (x1.toNat < 128) = false := decide_eq_false (by omega)
      have d2 : decide ((191 : Int) < ((x1.toNat : Nat) : Int)) = false := decide_eq_false (by omega)
      have d2' : decide (191 < x1.toNat) = false := decide_eq_false (by omega)
      have d3 : decide (((x2.toNat : Nat) : Int) < 128) = false := decide_eq_false (by omega)
      have d3' : decide (x2.toNat < 128) = false := decide_eq_false (by omega)
      have d4 : decide ((191 : Int) < ((x2.toNat : Nat) : Int)) = true := decide_eq_true (by omega)
      have d4' : decide (191 < x2.toNat) = true := decide_eq_true (by omega)
      have hf : fullN s.size x0.toNat x1.toNat x2.toNat = true := by unfold fullN Lib.accLo Lib.accHi; rw [if_neg h0, hX, if_neg (by omega)]; rw [if_neg (by simp only [Nat.reduceDiv, Nat.reduceEqDiff, if_true, if_false]; omega)]; rw [if_pos (by omega)]
      rw [hf]
      clear hf hX h0 hn hn3 q2
      go_enter Tryd.func63, Tryd.ntmps63
      go_wp2
      go_quiet (fail)
      all_goals go_wp2
      all_goals (go_ret; exact ⟨rfl, pw_below_drewN (below_alloc (Below.refl _ _) _) nq⟩)
    · have d1 : decide (((x1.toNat : Nat) : Int) < 128) = false := decide_eq_false (by omega)
      have d1' : decide (x1.toNat < 128) = false := decide_eq_false (by omega)
      have d2 : decide ((191 : Int) < ((x1.toNat : Nat) : Int)) = false := decide_eq_false (by omega)
      have d2' : decide (191 < x1.toNat) = false := decide_eq_false (by omega)
      have d3 : decide (((x2.toNat : Nat) : Int) < 128) = false := decide_eq_false (by omega)
      have d3' : decide (x2.toNat < 128) = false := decide_eq_false (by omega)
      have d4 : decide ((191 : Int) < ((x2.toNat : Nat) : Int)) = false := decide_eq_false (by omega)
      have d4' : decide (191 < x2.toNat) = false := decide_eq_false (by omega)
      have hf : fullN s.size x0.toNat x1.toNat x2.toNat = false := by unfold fullN Lib.accLo Lib.accHi; rw [if_neg h0, hX, if_neg (by omega)]; rw [if_neg (by simp only [Nat.reduceDiv, Nat.reduceEqDiff, if_true, if_false]; omega)]; rw [if_neg (by omega)]
      rw [hf]
      clear hf hX h0 hn hn3 q2
      go_enter Tryd.func63, Tryd.ntmps63
      go_wp2
      go_quiet (fail)
      all_goals go_wp2
      all_goals (go_ret; exact ⟨rfl, pw_below_drewN (below_alloc (Below.refl _ _) _) nq⟩)
  · rw [hX] at hc0
    have ha0 := (hT.2 4 (by omega)).1
    have ha1 := (hT.2 4 (by omega)).2
    simp only [Lib.accLo, Lib.accHi, Nat.reduceMul, Nat.reduceAdd, Nat.reduceEqDiff, if_true, if_false] at ha0 ha1
    clear hT
    by_cases hn : 4 ≤ s.size
    · have hf : fullN s.size x0.toNat x1.toNat x2.toNat = true := by unfold fullN; rw [if_neg h0, hX, if_pos (by omega)]
      rw [hf]
      clear hf hX h0 ha0 ha1
      have q2 : (4 : Int) ≤ (s.size : Int) := by omega
      go_enter Tryd.func63, Tryd.ntmps63
      go_wp2
      go_ret
      exact ⟨rfl, Below.refl _ _⟩
    by_cases hn1 : s.size = 1
    · have q2 : ¬ (4 : Int) ≤ (s.size : Int) := by omega
      have z1 : (s.size : Int) = 1 := by omega
      have hf : fullN s.size x0.toNat x1.toNat x2.toNat = false := by unfold fullN; rw [if_neg h0, hX, if_neg (by omega), if_neg (by omega), if_neg (by omega)]
      rw [hf]
      clear hf hX h0 hn hn1 q2
      go_enter Tryd.func63, Tryd.ntmps63
      go_wp2
      go_quiet (fail)
      all_goals go_wp2
      all_goals (go_ret; exact ⟨rfl, pw_below_drewN (below_alloc (Below.refl _ _) _) nq⟩)
    by_cases hn2 : s.size = 2
    · have q2 : ¬ (4 : Int) ≤ (s.size : Int) := by omega
      have z1 : (s.size : Int) = 2 := by omega
      have lt1 : 1 < s.size := by omega
      have hs1 : s[1]'lt1 = x1 := by rw [← hx1]; exact (get!_lt s 1 lt1).symm
      have b1 : decide ((1 : Int) < (s.size : Int)) = true := decide_eq_true (by omega)
      have b1' : (1 : Int) < (s.size : Int) := by omega
      by_cases c1 : x1.toNat < 128
      · have d1 : decide (((x1.toNat : Nat) : Int) < 128) = true := decide_eq_true (by omega)
        have d1' : decide (x1.toNat < 128) = true := decide_eq_true (by omega)
        have hf : fullN s.size x0.toNat x1.toNat x2.toNat = true := by unfold fullN Lib.accLo Lib.accHi; rw [if_neg h0, hX, if_neg (by omega)]; rw [if_pos ⟨by omega, by simp only [Nat.reduceDiv, Nat.reduceEqDiff, if_true, if_false]; omega⟩]
        rw [hf]
        clear hf hX h0 hn hn2 q2
        go_enter Tryd.func63, Tryd.ntmps63
        go_wp2
        go_quiet (fail)
        all_goals go_wp2
        all_goals (go_ret; exact ⟨rfl, pw_below_drewN (below_alloc (Below.refl _ _) _) nq⟩)
      by_cases c2 : 143 < x1.toNat
      · have d1 : decide (((x1.toNat : Nat) : Int) < 128) = false := decide_eq_false (by omega)
        have d1' : decide (x1.toNat < 128) = false := decide_eq_false (by omega)
        have d2 : decide ((143 : Int) < ((x1.toNat : Nat) : Int)) = true := decide_eq_true (by omega)
        have d2' : decide (143 < x1.toNat) = true := decide_eq_true (by omega)
        have hf : fullN s.size x0.toNat x1.toNat x2.toNat = true := by unfold fullN Lib.accLo Lib.accHi; rw [if_neg h0, hX, if_neg (by omega)]; rw [if_pos ⟨by omega, by simp only [Nat.reduceDiv, Nat.reduceEqDiff, if_true, if_false]; omega⟩]
        rw [hf]
        clear hf hX h0 hn hn2 q2
        go_enter Tryd.func63, Tryd.ntmps63
        go_wp2
        go_quiet (fail)
        all_goals go_wp2
        all_goals (go_ret; exact ⟨rfl, pw_below_drewN (below_alloc (Below.refl _ _) _) nq⟩)
      · have d1 : decide (((x1.toNat : Nat) : Int) < 128) = false := decide_eq_false (by omega)
        have d1' : decide (x1.toNat < 128) = false := decide_eq_false (by omega)
        have d2 : decide ((143 : Int) < ((x1.toNat : Nat) : Int)) = false := decide_eq_false (by omega)
        have d2' : decide (143 < x1.toNat) = false := decide_eq_false (by omega)
        have hf : fullN s.size x0.toNat x1.toNat x2.toNat = false := by unfold fullN Lib.accLo Lib.accHi; rw [if_neg h0, hX, if_neg (by omega)]; rw [if_neg (by simp only [Nat.reduceDiv, Nat.reduceEqDiff, if_true, if_false]; omega)]; rw [if_neg (by omega)]
        rw [hf]
        clear hf hX h0 hn hn2 q2
        go_enter Tryd.func63, Tryd.ntmps63
        go_wp2
        go_quiet (fail)
        all_goals go_wp2
        all_goals (go_ret; exact ⟨rfl, pw_below_drewN (below_alloc (Below.refl _ _) _) nq⟩)
    have hn3 : s.size = 3 := by omega
    have q2 : ¬ (4 : Int) ≤ (s.size : Int) := by omega
    have z1 : (s.size : Int) = 3 := by omega
    have lt1 : 1 < s.size := by omega
    have hs1 : s[1]'lt1 = x1 := by rw [← hx1]; exact (get!_lt s 1 lt1).symm
    have b1 : decide ((1 : Int) < (s.size : Int)) = true := decide_eq_true (by omega)
    have b1' : (1 : Int) < (s.size : Int) := by omega
    have lt2 : 2 < s.size := by omega
    have hs2 : s[2]'lt2 = x2 := by rw [← hx2]; exact (get!_lt s 2 lt2).symm
    have b2' : (2 : Int) < (s.size : Int) := by omega
    by_cases c1 : x1.toNat < 128
    · have d1 : decide (((x1.toNat : Nat) : Int) < 128) = true := decide_eq_true (by omega)
      have d1' : decide (x1.toNat < 128) = true := decide_eq_true (by omega)
      have hf : fullN s.size x0.toNat x1.toNat x2.toNat = true := by unfold fullN Lib.accLo Lib.accHi; rw [if_neg h0, hX, if_neg (by omega)]; rw [if_pos ⟨by omega, by simp only [Nat.reduceDiv, Nat.reduceEqDiff, if_true, if_false]; omega⟩]
      rw [hf]
      clear hf hX h0 hn hn3 q2
      go_enter Tryd.func63, Tryd.ntmps63
      go_wp2
      go_quiet (fail)
      all_goals go_wp2
      all_goals (go_ret; exact ⟨rfl, pw_below_drewN (below_alloc (Below.refl _ _) _) nq⟩)
    by_cases c2 : 143 < x1.toNat
    · have d1 : decide (((x1.toNat : Nat) : Int) < 128) = false := decide_eq_false (by omega)
      have d1' : decide (x1.toNat < 128) = false := decide_eq_false (by omega)
      have d2 : decide ((143 : Int) < ((x1.toNat : Nat) : Int)) = true := decide_eq_true (by omega)
      have d2' : decide (143 < x1.toNat) = true := decide_eq_true (by omega)
      have hf : fullN s.size x0.toNat x1.toNat x2.toNat = true := by unfold fullN Lib.accLo Lib.accHi; rw [if_neg h0, hX, if_neg (by omega)]; rw [if_pos ⟨by omega, by simp only [Nat.reduceDiv, Nat.reduceEqDiff, if_true, if_false]; omega⟩]
      rw [hf]
      clear hf hX h0 hn hn3 q2
      go_enter Tryd.func63, Tryd.ntmps63
      go_wp2
      go_quiet (fail)
      all_goals go_wp2
      all_goals (go_ret; exact ⟨rfl, pw_below_drewN (below_alloc (Below.refl _ _) _) nq⟩)
    by_cases c3 : x2.toNat < 128
    · have d1 : decide (((x1.toNat : Nat) : Int) < 128) = false := decide_eq_false (by omega)
      have d1' : decide (x1.toNat < 128) = false := decide_eq_false (by omega)
      have d2 : decide ((143 : Int) < ((x1.toNat : Nat) : Int)) = false := decide_eq_false (by omega)
      have d2' : decide (143 < x1.toNat) = false := decide_eq_false (by omega)
      have d3 : decide (((x2.toNat : Nat) : Int) < 128) = true := decide_eq_true (by omega)
      have d3' : decide (x2.toNat < 128) = true := decide_eq_true (by omega)
      have hf : fullN s.size x0.toNat x1.toNat x2.toNat = true := by unfold fullN Lib.accLo Lib.accHi; rw [if_neg h0, hX, if_neg (by omega)]; rw [if_neg (by simp only [Nat.reduceDiv, Nat.reduceEqDiff, if_true, if_false]; omega)]; rw [if_pos (by omega)]
      rw [hf]
      clear hf hX h0 hn hn3 q2
      go_enter Tryd.func63, Tryd.ntmps63
      go_wp2
      go_quiet (fail)
      all_goals go_wp2
      all_goals (go_ret; exact ⟨rfl, pw_below_drewN (below_alloc (Below.refl _ _) _) nq⟩)
    by_cases c4 : 191 < x2.toNat
    · have d1 : decide (((x1.toNat : Nat) : Int) < 128) = false := decide_eq_false (by omega)
      have d1' : decide (x1.toNat < 128) = false := decide_eq_false (by omega)
      have d2 : decide ((143 : Int) < ((x1.toNat : Nat) : Int)) = false := decide_eq_false (by omega)
      have d2' : decide (143 < x1.toNat) = false := decide_eq_false (by omega)
      have d3 : decide (((x2.toNat : Nat) : Int) < 128) = false := decide_eq_false (by omega)
      have d3' : decide (x2.toNat < 128) = false := decide_eq_false (by omega)
      have d4 : decide ((191 : Int) < ((x2.toNat : Nat) : Int)) = true := decide_eq_true (by omega)
      have d4' : decide (191 < x2.toNat) = true := decide_eq_true (by omega)
      have hf : fullN s.size x0.toNat x1.toNat x2.toNat = true := by unfold fullN Lib.accLo Lib.accHi; rw [if_neg h0, hX, if_neg (by omega)]; rw [if_neg (by simp only [Nat.reduceDiv, Nat.reduceEqDiff, if_true, if_false]; omega)]; rw [if_pos (by omega)]
      rw [hf]
      clear hf hX h0 hn hn3 q2
      go_enter Tryd.func63, Tryd.ntmps63
      go_wp2
      go_quiet (fail)
      all_goals go_wp2
      all_goals (go_ret; exact ⟨rfl, pw_below_drewN (below_alloc (Below.refl _ _) _) nq⟩)
    · have d1 : decide (((x1.toNat : Nat) : Int) < 128) = false := decide_eq_false (by omega)
      have d1' : decide (x1.toNat < 128) = false := decide_eq_false (by omega)
      have d2 : decide ((143 : Int) < ((x1.toNat : Nat) : Int)) = false := decide_eq_false (by omega)
      have d2' : decide (143 < x1.toNat) = false := decide_eq_false (by omega)
      have d3 : decide (((x2.toNat : Nat) : Int) < 128) = false := decide_eq_false (by omega)
      have d3' : decide (x2.toNat < 128) = false := decide_eq_false (by omega)
      have d4 : decide ((191 : Int) < ((x2.toNat : Nat) : Int)) = false := decide_eq_false (by omega)
      have d4' : decide (191 < x2.toNat) = false := decide_eq_false (by omega)
      have hf : fullN s.size x0.toNat x1.toNat x2.toNat = false := by unfold fullN Lib.accLo Lib.accHi; rw [if_neg h0, hX, if_neg (by omega)]; rw [if_neg (by simp only [Nat.reduceDiv, Nat.reduceEqDiff, if_true, if_false]; omega)]; rw [if_neg (by omega)]
      rw [hf]
      clear hf hX h0 hn hn3 q2
      go_enter Tryd.func63, Tryd.ntmps63
      go_wp2
      go_quiet (fail)
      all_goals go_wp2
      all_goals (go_ret; exact ⟨rfl, pw_below_drewN (below_alloc (Below.refl _ _) _) nq⟩)
end Go.Proofs.YtlmmgienbmghmaaDoor.Lex
