/- internal/strconv's and strconv's ParseFloat at 64 bits, on decimal texts of few digits (no sign, no exponent): the exact road; none elsewhere (nothing is claimed there). -/
import Derived.Test.YtdmpbaanonafbaaGreatDoorRF
import Derived.Test.YtdmpbaanonafbaaGreatDoorGivFl
set_option linter.unusedVariables false
set_option linter.unusedSimpArgs false
namespace Go.Proofs.YtdmpbaanonafbaaGreatDoor.Fl2
open Go.RowKit Go.Proofs.YtdmpbaanonafbaaGreatDoorW.PrintWords Go.Proofs.YtdmpbaanonafbaaGreatDoor.GivZ Go.Proofs.YtdmpbaanonafbaaGreatDoor.Flt Go.Proofs.YtdmpbaanonafbaaGreatDoor.GivFl Go.Proofs.YtdmpbaanonafbaaGreatDoor.RF
/-- The decimal exponent of what is read. -/
def expo (s : St) : Int := if s.m = 0 then 0 else (if s.dot then s.dp else s.nd) - s.nd
/-- The bits of what is read. -/
def pfv (s : St) : Option Nat :=
  if s.m = 0 then some 0 else if 4503599627370496 ≤ s.m then none else if expo s = 0 then some (floatOfInt .f64 (s.m : Int))
  else if -22 ≤ expo s ∧ expo s < 0 then FloatKind.f64.format.div (floatOfInt .f64 (s.m : Int)) (pows10[(-expo s).toNat]?.getD 0) else none
set_option maxRecDepth 100000 in
theorem exact_zero (m : Nat) (hm : m < 4503599627370496) (w : World) (hTabs : Tabs w) :
    Calls Tryz.prog 204 #[.int .u64 m, .int .i64 0, .bool false] w fun e w' => e = .returned (.tuple #[.float .f64 (floatOfInt .f64 (m : Int)), .bool true]) ∧ w = w' := by
  obtain ⟨h1, h2, hi, ad, c, h3, hc, h4⟩ := hTabs
  clear h1 h2 h3 h4
  have hs31 : (Tryz.prog.underlying 31).isSome = true := by rw [Tryz.underlying31]; rfl
  have hd32 := Tryz.underlying32
  go_enter Tryz.func204, Tryz.ntmps204
  go_wp2
  go_ret2
  exact ⟨rfl, rfl⟩
theorem run_frombits (b : Int) (w : World) (h0 : 0 ≤ b) : (callFunc 203 #[.int .u64 b]).run Tryz.prog w = .ok (.value (.float .f64 b.toNat)) w := by
  rw [run_callFunc_extern Tryz.func203 (by kernel_rfl) (by kernel_rfl) (by kernel_rfl) (e := Extern.MathFloatBits.float64frombits) (by kernel_rfl)]
  rfl
theorem run_frombits0 (w : World) : (callFunc 203 #[.int .u64 (bits .or .u64 0 0)]).run Tryz.prog w = .ok (.value (.float .f64 0)) w := by
  rw [show bits .or .u64 0 0 = 0 by decide +kernel]
  exact run_frombits 0 w (by omega)
attribute [local go_sem] run_frombits0
set_option maxRecDepth 100000 in
theorem special_no (t : ByteArray) (hne : 0 < t.size) (hmax : t.size ≤ 1000000) (h0 : (t[0]'hne).toNat = 46 ∨ (48 ≤ (t[0]'hne).toNat ∧ (t[0]'hne).toNat ≤ 57)) (w : World) :
    Calls Tryz.prog 193 #[.string t] w fun e w' => e = .returned (.tuple #[.float .f64 0, .int .i64 0, .bool false]) ∧ w = w' := by
  have hne1 : ¬ ((t.size : Int) = 0) := by omega
  have hne2 : (0 : Int) < t.size := by omega
  have n43 : ¬ ((t[0]'hne).toNat : Int) = 43 := by omega
  have n45 : ¬ ((t[0]'hne).toNat : Int) = 45 := by omega
  have na : ¬ ((t[0]'hne).toNat : Int) = 105 := by omega
  have nb : ¬ ((t[0]'hne).toNat : Int) = 73 := by omega
  have nc : ¬ ((t[0]'hne).toNat : Int) = 110 := by omega
  have nd : ¬ ((t[0]'hne).toNat : Int) = 78 := by omega
  clear h0
  go_enter Tryz.func193, Tryz.ntmps193
  go_wp2
  refine bodyPost_ret (v := _) ?_ rfl (And.intro rfl rfl); simp [results, Tryz.results193, go_sem]
theorem head_of (t : ByteArray) (hne : 0 < t.size) (s : St) (hs : rf ⟨false, false, 0, 0, 0⟩ t.data.toList = some s) : (t[0]'hne).toNat = 46 ∨ (48 ≤ (t[0]'hne).toNat ∧ (t[0]'hne).toNat ≤ 57) := by
  have hd0 := drop_get t 0 hne
  rw [List.drop_zero] at hd0
  rw [hd0] at hs
  exact rf_head _ _ _ _ hs
set_option maxRecDepth 100000 in
theorem bool2_no (w : World) : Calls Tryz.prog 202 #[.bool false] w fun e w' => e = .returned (.int .u64 0) ∧ w = w' := by
  go_enter Tryz.func202, Tryz.ntmps202
  go_wp2
  go_ret
  exact ⟨rfl, rfl⟩
set_option maxHeartbeats 8000000 in
set_option maxRecDepth 100000 in
theorem atof64_is (t : ByteArray) (hne : 0 < t.size) (hmax : t.size ≤ 1000000) (s : St) (hs : rf ⟨false, false, 0, 0, 0⟩ t.data.toList = some s) (hd : s.dig = true) (r : Nat) (hr : pfv s = some r) (w : World) (hTabs : Tabs w) :
    Calls Tryz.prog 190 #[.string t] w fun e w' => e = .returned (.tuple #[.float .f64 r, .int .i64 t.size, .nilIface]) ∧ w = w' := by
  have H0 := Lib.hid (head_of t hne s hs)
  have HT := Lib.hid hTabs
  have HS := Lib.hid hs
  have HD := Lib.hid hd
  have hopt := hTabs.2.1
  clear hTabs hs hd
  obtain ⟨ex, hex⟩ : ∃ ex, ex = expo s := ⟨_, rfl⟩
  have HX := Lib.hid hex
  by_cases hm0 : s.m = 0
  · have hr0 : r = 0 := by
      unfold pfv at hr
      rw [if_pos hm0] at hr
      exact (Option.some.inj hr).symm
    subst hr0
    have hex0 : ex = 0 := by rw [hex]; unfold expo; rw [if_pos hm0]
    subst hex0
    have HR := Lib.hid (readFloat_is t hne hmax s HS.out HD.out 0 (by rw [if_pos hm0]))
    rw [hm0] at HR
    clear hex hr hm0
    go_enter Tryz.func190, Tryz.ntmps190
    go_wp2_with (first
      | (go_at_call 193; refine (special_no t hne hmax H0.out _).mono ?_; rintro e w' ⟨rfl, rfl⟩)
      | (go_at_call 194; refine (HR.out _).mono ?_; rintro e w' ⟨rfl, rfl⟩)
      | (go_at_call 202; refine (bool2_no _).mono ?_; rintro e w' ⟨rfl, rfl⟩))
    go_ret3
    exact ⟨rfl, rfl⟩
  · have hml : s.m < 4503599627370496 := by
      by_cases c : 4503599627370496 ≤ s.m
      · unfold pfv at hr
        rw [if_neg hm0, if_pos c] at hr; cases hr
      · omega
    have hexr : ex = 0 ∨ (-22 ≤ ex ∧ ex < 0) := by
      unfold pfv at hr
      rw [if_neg hm0, if_neg (by omega), ← hex] at hr
      by_cases c : ex = 0
      · exact .inl c
      · rw [if_neg c] at hr
        by_cases d : -22 ≤ ex ∧ ex < 0
        · exact .inr d
        · rw [if_neg d] at hr; cases hr
    have HE := Lib.hid (show ∀ w, Tabs w → Calls Tryz.prog 204 #[.int .u64 s.m, .int .i64 ex, .bool false] w fun e w' => e = .returned (.tuple #[.float .f64 r, .bool true]) ∧ w = w' by
      intro w hT
      unfold pfv at hr
      rw [if_neg hm0, if_neg (by omega), ← hex] at hr
      rcases hexr with c | c
      · rw [if_pos c] at hr
        rw [c, ← Option.some.inj hr]
        exact exact_zero s.m hml w hT
      · rw [if_neg (by omega), if_pos c] at hr
        have e : ex = -((-ex).toNat : Int) := by omega
        rw [e]
        exact exact_neg s.m (-ex).toNat r hml (by omega) (by omega) hr w hT)
    have HR := Lib.hid (readFloat_is t hne hmax s HS.out HD.out ex (by rw [hex]; unfold expo; rfl))
    have e1 : -22 ≤ ex := by omega
    have e2 : ex ≤ 0 := by omega
    have m0 : (0 : Int) < s.m := by omega
    clear hex hr hexr HX
    generalize hmm : s.m = m at *
    go_enter Tryz.func190, Tryz.ntmps190
    go_wp2_with (first
      | (go_at_call 193; refine (special_no t hne hmax H0.out _).mono ?_; rintro e w' ⟨rfl, rfl⟩)
      | (go_at_call 194; refine (HR.out _).mono ?_; rintro e w' ⟨rfl, rfl⟩)
      | (go_at_call 202; refine (bool2_no _).mono ?_; rintro e w' ⟨rfl, rfl⟩)
      | (go_at_call 204; refine (HE.out _ HT.out).mono ?_; rintro e w' ⟨rfl, rfl⟩))
    go_ret3
    exact ⟨rfl, rfl⟩
set_option maxRecDepth 100000 in
theorem prefix_is (t : ByteArray) (hne : 0 < t.size) (hmax : t.size ≤ 1000000) (s : St) (hs : rf ⟨false, false, 0, 0, 0⟩ t.data.toList = some s) (hd : s.dig = true) (r : Nat) (hr : pfv s = some r) (w : World) (hTabs : Tabs w) :
    Calls Tryz.prog 181 #[.string t, .int .i64 64] w fun e w' => e = .returned (.tuple #[.float .f64 r, .int .i64 t.size, .nilIface]) ∧ w = w' := by
  have HC := Lib.hid (atof64_is t hne hmax s hs hd r hr w hTabs)
  clear hs hd hr hTabs
  go_enter Tryz.func181, Tryz.ntmps181
  go_wp2_with (go_at_call 190; refine HC.out.mono ?_; rintro e w' ⟨rfl, rfl⟩)
  go_ret3
  exact ⟨rfl, rfl⟩
set_option maxRecDepth 100000 in
theorem iParseFloat_is (t : ByteArray) (hne : 0 < t.size) (hmax : t.size ≤ 1000000) (s : St) (hs : rf ⟨false, false, 0, 0, 0⟩ t.data.toList = some s) (hd : s.dig = true) (r : Nat) (hr : pfv s = some r) (w : World) (hTabs : Tabs w) :
    Calls Tryz.prog 168 #[.string t, .int .i64 64] w fun e w' => e = .returned (.tuple #[.float .f64 r, .nilIface]) ∧ w = w' := by
  have HC := Lib.hid (prefix_is t hne hmax s hs hd r hr w hTabs)
  clear hs hd hr hTabs
  go_enter Tryz.func168, Tryz.ntmps168
  go_wp2_with (go_at_call 181; refine HC.out.mono ?_; rintro e w' ⟨rfl, rfl⟩)
  go_ret2
  exact ⟨rfl, rfl⟩
set_option maxRecDepth 100000 in
theorem ParseFloat_is (t : ByteArray) (hne : 0 < t.size) (hmax : t.size ≤ 1000000) (s : St) (hs : rf ⟨false, false, 0, 0, 0⟩ t.data.toList = some s) (hd : s.dig = true) (r : Nat) (hr : pfv s = some r) (w : World) (hTabs : Tabs w) :
    Calls Tryz.prog 156 #[.string t, .int .i64 64] w fun e w' => e = .returned (.tuple #[.float .f64 r, .nilIface]) ∧ w = w' := by
  have HC := Lib.hid (iParseFloat_is t hne hmax s hs hd r hr w hTabs)
  clear hs hd hr hTabs
  go_enter Tryz.func156, Tryz.ntmps156
  go_wp2_with (go_at_call 168; refine HC.out.mono ?_; rintro e w' ⟨rfl, rfl⟩)
  go_ret2
  exact ⟨rfl, rfl⟩
/-- What strconv.ParseFloat answers of a decimal text: the bits. -/
def strconv_ParseFloat.f (a0 : ByteArray) (a1 : Int) : Option (Nat × Option Int) :=
  if a1 = 64 ∧ 0 < a0.size ∧ a0.size ≤ 1000000 then (rf ⟨false, false, 0, 0, 0⟩ a0.data.toList).bind fun s => if s.dig = true then (pfv s).bind fun r => some (r, none) else none else none
theorem strconv_ParseFloat.calls (a0 : ByteArray) (a1 : Int) (r1 : Nat) (r2 : Option Int) (w : World) (h : strconv_ParseFloat.f a0 a1 = some (r1, r2)) (hTabs : Tabs w := by first | exact hTabs | exact Tabs.below hTabs (by repeat (first | (with_reducible first | exact HB.out | apply below_alloc | apply pw_below_drewN | apply below_drew1 | refine below_set ?_ (Aside0.out (by assumption))) | exact HB.out))) :
    Calls Tryz.prog 156 #[.string a0, .int .i64 a1] w fun e w' => e = .returned (.tuple #[.float .f64 r1, errW r2]) ∧ Below w.heap.size w w' := by
  unfold strconv_ParseFloat.f at h
  by_cases c : a1 = 64 ∧ 0 < a0.size ∧ a0.size ≤ 1000000
  · rw [if_pos c] at h
    obtain ⟨rfl, c3, c4⟩ := c
    obtain ⟨s, hs, h⟩ := Option.bind_eq_some_iff.1 h
    by_cases c5 : s.dig = true
    · rw [if_pos c5] at h
      obtain ⟨v, hv, h⟩ := Option.bind_eq_some_iff.1 h
      obtain ⟨rfl, rfl⟩ := Prod.mk.inj (Option.some.inj h)
      refine (ParseFloat_is a0 c3 c4 s hs c5 v hv w hTabs).mono ?_
      rintro e w' ⟨rfl, rfl⟩
      exact ⟨rfl, Below.refl _ _⟩
    · rw [if_neg c5] at h; cases h
  · rw [if_neg c] at h; cases h
end Go.Proofs.YtdmpbaanonafbaaGreatDoor.Fl2
