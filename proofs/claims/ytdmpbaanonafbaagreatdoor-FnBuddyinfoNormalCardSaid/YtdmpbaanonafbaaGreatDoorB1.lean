-- written by a program of this session (wip/tools/pp.py)
import Derived.Test.YtdmpbaanonafbaaGreatDoorB0
namespace Go.Proofs.YtdmpbaanonafbaaGreatDoor.B
open Go.RowKit Go.Proofs.YtdmpbaanonafbaaGreatDoorW.PrintWords Go.Proofs.YtdmpbaanonafbaaGreatDoorW.PrintLast Go.Proofs.YtdmpbaanonafbaaGreatDoor.Flt Go.Proofs.YtdmpbaanonafbaaGreatDoor.GivZ Go.Proofs.YtdmpbaanonafbaaGreatDoor.E Go.Proofs.YtdmpbaanonafbaaGreatDoor.GivPW Go.Proofs.YtdmpbaanonafbaaGreatDoorW.PrintMore
attribute [local go_sem] max2_int min2_int max_two min_two max_three min_three max_four min_four   -- for this text's walks alone
set_option linter.unusedVariables false
set_option linter.unusedSimpArgs false

/-! ### impl_procfsBuddyInfo_1: function 127 -/
def impl_procfsBuddyInfo_1.f (a0 : Nat) : Option (ByteArray × Int × Bool × Int × Int × Nat × ByteArray × (List (S35))) := some ((⟨#[]⟩ : ByteArray), 4, false, 0, 0, a0, (⟨#[]⟩ : ByteArray), ([] : List (S35)))
set_option maxHeartbeats 8000000 in
set_option maxRecDepth 100000 in
theorem impl_procfsBuddyInfo_1.calls (a0 : Nat) (r1 : ByteArray) (r2 : Int) (r3 : Bool) (r4 : Int) (r5 : Int) (r6 : Nat) (r7 : ByteArray) (r8 : List (S35)) (w : World) (h : impl_procfsBuddyInfo_1.f a0 = some (r1, r2, r3, r4, r5, r6, r7, r8)) :
  Calls Tryz.prog 127 #[.float .f64 a0] w fun e w' => ∃ v7_ : Value, e = .returned (.agg #[.string r1, .int .i64 r2, .bool r3, .int .i64 r4, .int .u64 r5, .float .f64 r6, .string r7, v7_]) ∧ Kd.R k35 35 w' w.heap.size (fun _ => True) v7_ r8 ∧ Below w.heap.size w w' := by
 have hu35 := Tryz.underlying35
 have HB := Aside0.mk (Below.refl w.heap.size w)
 have H : (some ((⟨#[]⟩ : ByteArray), 4, false, 0, 0, a0, (⟨#[]⟩ : ByteArray), ([] : List (S35)))) = some (r1, r2, r3, r4, r5, r6, r7, r8) := h
 clear h
 simp only [Option.some.injEq, Prod.mk.injEq] at H
 obtain ⟨rfl, rfl, rfl, rfl, rfl, rfl, rfl, rfl⟩ := H
 go_enter Tryz.func127, Tryz.ntmps127
 go_wp2_with (first | ((with_reducible refine gate_dst (N := 2) rfl ?_); refine box_event ?hg (N := 2) ?hd (cs := #[.string (⟨#[]⟩ : ByteArray), .int .i64 0, .bool false, .int .i64 0, .int .u64 0, .float .f64 0, .string (⟨#[]⟩ : ByteArray), .slice none 0 0]) (t := 35) ?hr ?_; (case hd => rfl); (case hg => rfl); (case hr => first | (go_simp; done) | (go_simp; rfl)); intro gb101 hg w2 hbox hb; have n0_ := Aside0.mk (below_step belH hb); have n1_ := Aside0.mk (hbox); have n2_ := Aside0.mk ((by rw [hg]; exact (below_size belH) : w.heap.size ≤ gb101)); have n3_ := Aside0.mk ((by rw [hg]; exact (below_size belH) : w.heap.size ≤ gb101)); clear HB; have HB := n0_; have BK101 := n1_; have GW101 := n2_; have GE101 := n3_; clear n0_ n1_ n2_ n3_; clear hb hbox hg; obtain ⟨hcz3_0, hcz3_1, hcz3_2, hcz3_3, hcz3_4, hcz3_5, hcz3_6, hcz3_7, hfz3_0, hfz3_1, hfz3_2, hfz3_3, hfz3_4, hfz3_5, hfz3_6, hfz3_7⟩ := rows8 (w := w2) BK101))
 refine bodyPost_ret (results_cell_row rfl _ _ gb101 35 #[.string (⟨#[]⟩ : ByteArray), .int .i64 4, .bool false, .int .i64 0, .int .u64 0, .float .f64 a0, .string (⟨#[]⟩ : ByteArray), .slice none 0 0] (0, 0) _ rfl (by refine bY ?_; exact blk_put8 BK101.out) Tryz.underlying35 rfl (by kernel_rfl)) rfl ?_
 exact ⟨_, by first | rfl | (simp [errW_none, errW_some] <;> rfl) | (simp [*, errW_none, errW_some] <;> rfl), by first | exact Kd.R_nil _ _ _ _ _ | exact Kd.N_nil _ _ _ _ _ | exact Kd.V_nil _ _ _ _ _ | exact Kd.Q_nil _ _ _ _ _ | exact Kd.S_nil _ _ _ _ _, by repeat (first | (with_reducible first | exact HB.out | apply below_alloc | apply pw_below_drewN | apply below_drew1 | refine below_set ?_ GE101.out) | exact HB.out)⟩

/-! ### stringslite_HasSuffix: function 182 -/
def stringslite_HasSuffix.f (a0 : ByteArray) (a1 : ByteArray) : Option (Bool) := if (a0.size : Int) ≥ (a1.size : Int) then (if 0 ≤ (wrap64 ((a0.size : Int) - (a1.size : Int))) then (if (wrap64 ((a0.size : Int) - (a1.size : Int))) ≤ (a0.size : Int) then (some ((a0.extract ((wrap64 ((a0.size : Int) - (a1.size : Int))) : Int).toNat a0.size).toList == a1.toList)) else (none)) else (none)) else (some false)
set_option maxHeartbeats 8000000 in
set_option maxRecDepth 100000 in
theorem stringslite_HasSuffix.calls (a0 : ByteArray) (a1 : ByteArray) (r : Bool) (w : World) (h : stringslite_HasSuffix.f a0 a1 = some r) :
  Calls Tryz.prog 182 #[.string a0, .string a1] w fun e w' => e = .returned (.bool r) ∧ Drawn0 w w' := by
 have H : (if (a0.size : Int) ≥ (a1.size : Int) then (if 0 ≤ (wrap64 ((a0.size : Int) - (a1.size : Int))) then (if (wrap64 ((a0.size : Int) - (a1.size : Int))) ≤ (a0.size : Int) then (some ((a0.extract ((wrap64 ((a0.size : Int) - (a1.size : Int))) : Int).toNat a0.size).toList == a1.toList)) else (none)) else (none)) else (some false)) = some r := h
 clear h
 by_cases c3 : (a0.size : Int) ≥ (a1.size : Int)
 ·rw [if_pos c3] at H
  have c3b0 : decide ((a1.size : Int) ≤ (a0.size : Int)) = true := decide_eq_true c3
  have c3b1 : decide (a1.size ≤ a0.size) = true := decide_eq_true (Int.ofNat_le.mp c3)
  clear c3
  obtain ⟨ji4, hji4⟩ : ∃ j_ : Int, (wrap64 ((a0.size : Int) - (a1.size : Int))) = j_ := ⟨_, rfl⟩
  replace H : (if 0 ≤ (ji4) then (if (ji4) ≤ (a0.size : Int) then (some ((a0.extract ((ji4) : Int).toNat a0.size).toList == a1.toList)) else (none)) else (none)) = some r := by first | (rw [hji4] at H; exact H) | (simp only [hji4] at H ⊢; exact H)
  have hji4w : (IntKind.i64.wrap ((a0.size : Int) - (a1.size : Int))) = ji4 := (i64_w _).trans hji4
  by_cases c5 : 0 ≤ (ji4)
  ·rw [if_pos c5] at H
   have c5b0 := eq_true c5
   have c5b1 : decide (0 ≤ (ji4)) = true := decide_eq_true c5
   clear c5
   by_cases c6 : (ji4) ≤ (a0.size : Int)
   ·rw [if_pos c6] at H
    have c6b0 := eq_true c6
    have c6b1 : decide ((ji4) ≤ (a0.size : Int)) = true := decide_eq_true c6
    clear c6
    obtain rfl := Option.some.inj H
    go_enter Tryz.func182, Tryz.ntmps182
    go_wp2
    go_ret
    exact ⟨by first | rfl | (simp; done) | (simp only [← hji4] <;> (first | rfl | simp)) | (simp [*]; done), by repeat (first | exact Drawn0.refl _ | apply Drawn0.step)⟩
   ·rw [if_neg c6] at H
    exact absurd H (by simp)
  ·rw [if_neg c5] at H
   exact absurd H (by simp)
 ·rw [if_neg c3] at H
  have c3b0 : decide ((a1.size : Int) ≤ (a0.size : Int)) = false := decide_eq_false c3
  have c3b1 : decide (a1.size ≤ a0.size) = false := decide_eq_false (fun h => c3 (Int.ofNat_le.mpr h))
  clear c3
  obtain rfl := Option.some.inj H
  go_enter Tryz.func182, Tryz.ntmps182
  go_wp2
  go_ret
  exact ⟨by first | rfl | (simp; done) | (simp [*]; done) | (simp [bne_nil]; done) | (simp [bne_nil, *]; done), by repeat (first | exact Drawn0.refl _ | apply Drawn0.step)⟩

/-! ### stringslite_TrimSuffix: function 169 -/
def stringslite_TrimSuffix.f (a0 : ByteArray) (a1 : ByteArray) : Option (ByteArray) := (stringslite_HasSuffix.f a0 a1).bind fun t102 => (if t102 = true then (if 0 ≤ (wrap64 ((a0.size : Int) - (a1.size : Int))) then (if (wrap64 ((a0.size : Int) - (a1.size : Int))) ≤ (a0.size : Int) then (some (a0.extract 0 ((wrap64 ((a0.size : Int) - (a1.size : Int))) : Int).toNat)) else (none)) else (none)) else (some a0))
set_option maxHeartbeats 8000000 in
set_option maxRecDepth 100000 in
theorem stringslite_TrimSuffix.calls (a0 : ByteArray) (a1 : ByteArray) (r : ByteArray) (w : World) (h : stringslite_TrimSuffix.f a0 a1 = some r) :
  Calls Tryz.prog 169 #[.string a0, .string a1] w fun e w' => e = .returned (.string r) ∧ Drawn0 w w' := by
 have H : ((stringslite_HasSuffix.f a0 a1).bind fun t102 => (if t102 = true then (if 0 ≤ (wrap64 ((a0.size : Int) - (a1.size : Int))) then (if (wrap64 ((a0.size : Int) - (a1.size : Int))) ≤ (a0.size : Int) then (some (a0.extract 0 ((wrap64 ((a0.size : Int) - (a1.size : Int))) : Int).toNat)) else (none)) else (none)) else (some a0))) = some r := h
 clear h
 replace H := Option.bind_eq_some_iff.mp H
 obtain ⟨t102, A30, H⟩ := H
 have A3 := Aside0.mk A30
 clear A30
 by_cases c4 : t102 = true
 ·subst c4
  have H1 : (if 0 ≤ (wrap64 ((a0.size : Int) - (a1.size : Int))) then (if (wrap64 ((a0.size : Int) - (a1.size : Int))) ≤ (a0.size : Int) then (some (a0.extract 0 ((wrap64 ((a0.size : Int) - (a1.size : Int))) : Int).toNat)) else (none)) else (none)) = some r := by rw [if_pos rfl] at H; exact H
  clear H
  have H := H1
  clear H1
  obtain ⟨ji5, hji5⟩ : ∃ j_ : Int, (wrap64 ((a0.size : Int) - (a1.size : Int))) = j_ := ⟨_, rfl⟩
  replace H : (if 0 ≤ (ji5) then (if (ji5) ≤ (a0.size : Int) then (some (a0.extract 0 ((ji5) : Int).toNat)) else (none)) else (none)) = some r := by first | (rw [hji5] at H; exact H) | (simp only [hji5] at H ⊢; exact H)
  (try rw [hji5] at A3)
  have hji5w : (IntKind.i64.wrap ((a0.size : Int) - (a1.size : Int))) = ji5 := (i64_w _).trans hji5
  by_cases c6 : 0 ≤ (ji5)
  ·rw [if_pos c6] at H
   have c6b0 := eq_true c6
   have c6b1 : decide (0 ≤ (ji5)) = true := decide_eq_true c6
   clear c6
   by_cases c7 : (ji5) ≤ (a0.size : Int)
   ·rw [if_pos c7] at H
    have c7b0 := eq_true c7
    have c7b1 : decide ((ji5) ≤ (a0.size : Int)) = true := decide_eq_true c7
    clear c7
    obtain rfl := Option.some.inj H
    go_enter Tryz.func169, Tryz.ntmps169
    go_wp2_with (first | ((with_reducible refine gate_callee (f := 182) rfl ?_); refine goesL_ (some 7) rfl rfl Tryz.func182 (by kernel_rfl) rfl #[.string a0, .string a1] rfl (by (try simp only [List.map_toArray, List.map_cons, List.map_nil]); first | done | rfl | (simp only [List.length_drop, List.length_take]; rfl)) ?_; (with_reducible refine (stringslite_HasSuffix.calls a0 a1 true _ A3.out).mono ?_); rintro e w' ⟨rfl, ⟨nd, rfl⟩⟩; refine ⟨_, rfl, ?_⟩))
    go_ret
    exact ⟨by first | rfl | (simp; done) | (simp only [← hji5] <;> (first | rfl | simp)) | (simp [*]; done), by repeat (first | exact Drawn0.refl _ | apply Drawn0.step)⟩
   ·rw [if_neg c7] at H
    exact absurd H (by simp)
  ·rw [if_neg c6] at H
   exact absurd H (by simp)
 ·replace c4 := Bool.eq_false_iff.mpr c4
  subst c4
  have H1 : (some a0) = some r := by rw [if_neg (show ¬ (false = true) by decide)] at H; exact H
  clear H
  have H := H1
  clear H1
  obtain rfl := Option.some.inj H
  go_enter Tryz.func169, Tryz.ntmps169
  go_wp2_with (first | ((with_reducible refine gate_callee (f := 182) rfl ?_); refine goesL_ (some 7) rfl rfl Tryz.func182 (by kernel_rfl) rfl #[.string a0, .string a1] rfl (by (try simp only [List.map_toArray, List.map_cons, List.map_nil]); first | done | rfl | (simp only [List.length_drop, List.length_take]; rfl)) ?_; (with_reducible refine (stringslite_HasSuffix.calls a0 a1 false _ A3.out).mono ?_); rintro e w' ⟨rfl, ⟨nd, rfl⟩⟩; refine ⟨_, rfl, ?_⟩))
  go_ret
  exact ⟨by first | rfl | (simp; done) | (simp [*]; done) | (simp [bne_nil]; done) | (simp [bne_nil, *]; done), by repeat (first | exact Drawn0.refl _ | apply Drawn0.step)⟩

/-! ### strings_TrimSuffix: function 157 -/
def strings_TrimSuffix.f (a0 : ByteArray) (a1 : ByteArray) : Option (ByteArray) := (stringslite_TrimSuffix.f a0 a1).bind fun t103 => (some t103)
set_option maxHeartbeats 8000000 in
set_option maxRecDepth 100000 in
theorem strings_TrimSuffix.calls (a0 : ByteArray) (a1 : ByteArray) (r : ByteArray) (w : World) (h : strings_TrimSuffix.f a0 a1 = some r) :
  Calls Tryz.prog 157 #[.string a0, .string a1] w fun e w' => e = .returned (.string r) ∧ Drawn0 w w' := by
 have H : ((stringslite_TrimSuffix.f a0 a1).bind fun t103 => (some t103)) = some r := h
 clear h
 replace H := Option.bind_eq_some_iff.mp H
 obtain ⟨t103, A30, H⟩ := H
 have A3 := Aside0.mk A30
 clear A30
 obtain rfl := Option.some.inj H
 go_enter Tryz.func157, Tryz.ntmps157
 go_wp2_with (first | ((with_reducible refine gate_callee (f := 169) rfl ?_); refine goesL_ (some 7) rfl rfl Tryz.func169 (by kernel_rfl) rfl #[.string a0, .string a1] rfl (by (try simp only [List.map_toArray, List.map_cons, List.map_nil]); first | done | rfl | (simp only [List.length_drop, List.length_take]; rfl)) ?_; (with_reducible refine (stringslite_TrimSuffix.calls a0 a1 t103 _ A3.out).mono ?_); rintro e w' ⟨rfl, ⟨nd, rfl⟩⟩; refine ⟨_, rfl, ?_⟩))
 go_ret
 exact ⟨by first | rfl | (simp; done) | (simp [*]; done) | (simp [bne_nil]; done) | (simp [bne_nil, *]; done), by repeat (first | exact Drawn0.refl _ | apply Drawn0.step)⟩

/-! ### impl_list_float64___sizes: function 126 -/
def impl_list_float64___sizes.l0 : Nat → List Nat → Int → Int → ByteArray → Int → Bool → Int → Int → Nat → ByteArray → List (S35) → Option (ByteArray × Int × Bool × Int × Int × Nat × ByteArray × (List (S35)))
 | 0, _, _, _, _, _, _, _, _, _, _, _ => none
 | k + 1, x12, x13, x14, x106000, x106001, x106002, x106003, x106004, x106005, x106006, x106007 => if x14 < x13 then (if 0 ≤ x14 then (if x14 < (x12.length : Int) then ((impl_procfsBuddyInfo_1.f (rdOf 0 x12 x14)).bind fun bt107 => (if x106007.length < 1466015503701 then (impl_list_float64___sizes.l0 k x12 x13 (wrap64 (x14 + 1)) x106000 x106001 x106002 x106003 x106004 x106005 x106006 (x106007 ++ [(⟨bt107.1, bt107.2.1, bt107.2.2.1, bt107.2.2.2.1, bt107.2.2.2.2.1, bt107.2.2.2.2.2.1, bt107.2.2.2.2.2.2.1, bt107.2.2.2.2.2.2.2⟩ : S35)])) else (none))) else (none)) else (none)) else (some (x106000, x106001, x106002, x106003, x106004, x106005, x106006, x106007))
def impl_list_float64___sizes.f (k : Nat) (a0 : ByteArray) (l1 : List Nat)  : Option (ByteArray × Int × Bool × Int × Int × Nat × ByteArray × (List (S35))) := impl_list_float64___sizes.l0 k l1 (l1.length : Int) 0 a0 6 false 0 0 0 (⟨#[]⟩ : ByteArray) ([] : List (S35))
theorem impl_list_float64___sizes.mono_l : ∀ k, (∀ y0 y1 y2 y3 y4 y5 y6 y7 y8 y9 y10, LeO (impl_list_float64___sizes.l0 k y0 y1 y2 y3 y4 y5 y6 y7 y8 y9 y10) (impl_list_float64___sizes.l0 (k + 1) y0 y1 y2 y3 y4 y5 y6 y7 y8 y9 y10))
 | 0 => fun _ _ _ _ _ _ _ _ _ _ _ r h => by simp [impl_list_float64___sizes.l0] at h
 | k + 1 => by
  have ih0 := impl_list_float64___sizes.mono_l k
  ·intro y0 y1 y2 y3 y4 y5 y6 y7 y8 y9 y10
   unfold impl_list_float64___sizes.l0
   repeat' first
   | (with_reducible exact ih0 _ _ _ _ _ _ _ _ _ _ _)
   | (with_reducible exact LeO.refl _)
   | (with_reducible exact LeO.none _)
   | (with_reducible refine LeO.ite ?_ ?_)
   | (with_reducible refine LeO.bind ?_ (fun _ => ?_))
   | exact ih0 _ _ _ _ _ _ _ _ _ _ _
   | exact LeO.none _
   | refine LeO.ite ?_ ?_
   | refine LeO.bind ?_ (fun _ => ?_)
theorem impl_list_float64___sizes.mono : ∀ a0 a1 k, LeO (impl_list_float64___sizes.f k a0 a1) (impl_list_float64___sizes.f (k + 1) a0 a1) := by
 intro a0 a1 k
 have ih0 := impl_list_float64___sizes.mono_l k
 unfold impl_list_float64___sizes.f
 repeat' first
   | (with_reducible exact ih0 _ _ _ _ _ _ _ _ _ _ _)
   | (with_reducible exact LeO.refl _)
   | (with_reducible exact LeO.none _)
   | (with_reducible refine LeO.ite ?_ ?_)
   | (with_reducible refine LeO.bind ?_ (fun _ => ?_))
   | exact ih0 _ _ _ _ _ _ _ _ _ _ _
   | exact LeO.none _
   | refine LeO.ite ?_ ?_
   | refine LeO.bind ?_ (fun _ => ?_)
def impl_list_float64___sizes.T5 : Bool × List (List Nat × List Nat) := (true, [([], []), ([0], [0]), ([], []), ([], []), ([2, 3], [2, 3]), ([4], [4]), ([1, 5, 4], [1, 5]), ([0, 1, 2, 3, 4, 5, 6], []), ([7, 6, 6, 0, 1, 2, 3, 4, 5, 6], [6, 7])])
def impl_list_float64___sizes.B5 : List Nat := [0, 1, 0, 0, 12, 28, 63, 127, 255]
theorem impl_list_float64___sizes.tab5 : rtab .any (opsOf Tryz.f126 5) = impl_list_float64___sizes.T5 := by kernel_rfl
theorem impl_list_float64___sizes.bits5 : waitsOk impl_list_float64___sizes.T5.2 impl_list_float64___sizes.B5 = true := by kernel_rfl
set_option maxHeartbeats 8000000 in
set_option maxRecDepth 100000 in
theorem impl_list_float64___sizes.calls (k : Nat) (a0 : ByteArray) (A1 : Option Addr) (c1 : Nat) (l1 : List Nat)  (r1 : ByteArray) (r2 : Int) (r3 : Bool) (r4 : Int) (r5 : Int) (r6 : Nat) (r7 : ByteArray) (r8 : List (S35)) (w : World) (hr1 : Kd.C Kd.flt w A1 l1.length l1) (hc1 : l1.length ≤ c1) (h : impl_list_float64___sizes.f k a0 l1 = some (r1, r2, r3, r4, r5, r6, r7, r8)) :
  Calls Tryz.prog 126 #[.string a0, .slice A1 l1.length c1, .func (.func 127) #[] #[]] w fun e w' => ∃ v7_ : Value, e = .returned (.agg #[.string r1, .int .i64 r2, .bool r3, .int .i64 r4, .int .u64 r5, .float .f64 r6, .string r7, v7_]) ∧ Kd.R k35 35 w' w.heap.size (fun _ => True) v7_ r8 ∧ Below w.heap.size w w' := by
 have hu35 := Tryz.underlying35
 have HR1 := Aside0.mk hr1
 have HC1 := Aside0.mk hc1
 clear hr1 hc1
 have HB := Aside0.mk (Below.refl w.heap.size w)
 have H : (impl_list_float64___sizes.l0 k l1 (l1.length : Int) 0 a0 6 false 0 0 0 (⟨#[]⟩ : ByteArray) ([] : List (S35))) = some (r1, r2, r3, r4, r5, r6, r7, r8) := h
 clear h
 have H' := Aside0.mk H
 clear H
 go_enter Tryz.func126, Tryz.ntmps126
 go_wp2_with (first | ((with_reducible refine gate_dst (N := 6) rfl ?_); refine box_event ?hg (N := 6) ?hd (cs := #[.string (⟨#[]⟩ : ByteArray), .int .i64 0, .bool false, .int .i64 0, .int .u64 0, .float .f64 0, .string (⟨#[]⟩ : ByteArray), .slice none 0 0]) (t := 35) ?hr ?_; (case hd => rfl); (case hg => rfl); (case hr => first | (go_simp; done) | (go_simp; rfl)); intro gb104 hg w4 hbox hb; have n0_ := Aside0.mk (below_step belH hb); have n1_ := Aside0.mk (hbox); have n2_ := Aside0.mk ((by rw [hg]; exact (below_size belH) : w.heap.size ≤ gb104)); have n3_ := Aside0.mk ((by rw [hg]; exact (below_size belH) : w.heap.size ≤ gb104)); clear HB; have HB := n0_; have BK104 := n1_; have GW104 := n2_; have GE104 := n3_; clear n0_ n1_ n2_ n3_; clear hb hbox hg) | ((with_reducible refine gate_dst (N := 7) rfl ?_); refine box_event ?hg (N := 7) ?hd (cs := #[.string (⟨#[]⟩ : ByteArray), .int .i64 0, .bool false, .int .i64 0, .int .u64 0, .float .f64 0, .string (⟨#[]⟩ : ByteArray), .slice none 0 0]) (t := 35) ?hr ?_; (case hd => rfl); (case hg => rfl); (case hr => first | (go_simp; done) | (go_simp; rfl)); intro gb105 hg w5 hbox hb; have n0_ := Aside0.mk (blk_below (g := gb104) (o := .cells #[.string (⟨#[]⟩ : ByteArray), .int .i64 0, .bool false, .int .i64 0, .int .u64 0, .float .f64 0, .string (⟨#[]⟩ : ByteArray), .slice none 0 0] 35 (0, 0)) (by refine bY ?_; exact BK104.out) hb); have n1_ := Aside0.mk (below_step belS hb); have n2_ := Aside0.mk (hbox); have n3_ := Aside0.mk ((by rw [hg]; exact (below_size belS) : w.heap.size ≤ gb105)); have n4_ := Aside0.mk ((by rw [hg]; exact (below_size belS) : w.heap.size ≤ gb105)); have n5_ := Aside0.mk ((by rw [hg]; exact Nat.ne_of_lt (blk_lt (g := gb104) (o := .cells #[.string (⟨#[]⟩ : ByteArray), .int .i64 0, .bool false, .int .i64 0, .int .u64 0, .float .f64 0, .string (⟨#[]⟩ : ByteArray), .slice none 0 0] 35 (0, 0)) (by refine bY ?_; exact BK104.out)) : gb104 ≠ gb105)); have n6_ := Aside0.mk ((by rw [hg]; exact Nat.ne_of_gt (blk_lt (g := gb104) (o := .cells #[.string (⟨#[]⟩ : ByteArray), .int .i64 0, .bool false, .int .i64 0, .int .u64 0, .float .f64 0, .string (⟨#[]⟩ : ByteArray), .slice none 0 0] 35 (0, 0)) (by refine bY ?_; exact BK104.out)) : gb105 ≠ gb104)); clear BK104; clear HB; have BK104 := n0_; have HB := n1_; have BK105 := n2_; have GW105 := n3_; have GE105 := n4_; have NB104_105 := n5_; have NB105_104 := n6_; clear n0_ n1_ n2_ n3_ n4_ n5_ n6_; clear hb hbox hg; have hnb6 := NB105_104.out; have hnc6 := NB104_105.out; obtain ⟨hcz7_0, hcz7_1, hcz7_2, hcz7_3, hcz7_4, hcz7_5, hcz7_6, hcz7_7, hfz7_0, hfz7_1, hfz7_2, hfz7_3, hfz7_4, hfz7_5, hfz7_6, hfz7_7⟩ := rows8 (w := w5) BK105))
 go_loopg [14] k (fun kq v14 w' => ∃ (x14_1 : Int) (x106007_1 : List (S35)) (u106007 : Value), v14 = .int .i64 x14_1 ∧ Aside0 (impl_list_float64___sizes.l0 kq l1 (l1.length : Int) x14_1 a0 6 false 0 0 0 (⟨#[]⟩ : ByteArray) x106007_1 = some (r1, r2, r3, r4, r5, r6, r7, r8)) ∧ Aside0 (kq ≤ k) ∧ Aside0 (Kd.R k35 35 w' w.heap.size (fun k_ => k_ ≠ gb104 ∧ k_ ≠ gb105) u106007 x106007_1) ∧ Aside0 (w'.heap[gb104]? = some (.cells #[.string (⟨#[]⟩ : ByteArray), .int .i64 0, .bool false, .int .i64 0, .int .u64 0, .float .f64 0, .string (⟨#[]⟩ : ByteArray), (.slice none 0 0)] 35 (0, 0))) ∧ Aside0 (w'.heap[gb105]? = some (.cells #[.string a0, .int .i64 6, .bool false, .int .i64 0, .int .u64 0, .float .f64 0, .string (⟨#[]⟩ : ByteArray), u106007] 35 (0, 0))) ∧ Aside0 (Below w.heap.size w w'))
 case atStart => exact ⟨(0), (([] : List (S35))), (.slice none 0 0), (by first | rfl | (simp; done) | (simp [*]; done) | (simp [bne_nil]; done) | (simp [bne_nil, *]; done)), H', ⟨Nat.le_refl _⟩, ⟨by first | exact Kd.R_nil _ _ _ _ _ | exact Kd.N_nil _ _ _ _ _ | exact Kd.V_nil _ _ _ _ _ | exact Kd.Q_nil _ _ _ _ _ | exact Kd.S_nil _ _ _ _ _⟩, ⟨by refine bY ?_; refine blk_far ?_ NB104_105.out _; refine bY ?_; refine blk_far ?_ NB104_105.out _; refine bY ?_; refine blk_far ?_ NB104_105.out _; refine bY ?_; refine blk_far ?_ NB104_105.out _; refine bY ?_; refine blk_far ?_ NB104_105.out _; refine bY ?_; refine blk_far ?_ NB104_105.out _; refine bY ?_; refine blk_far ?_ NB104_105.out _; refine bY ?_; refine blk_far ?_ NB104_105.out _; refine bY ?_; exact BK104.out⟩, ⟨by refine bY ?_; exact blk_put8 BK105.out⟩, ⟨by repeat (first | (with_reducible first | exact HB.out | apply below_alloc | apply pw_below_drewN | apply below_drew1 | refine below_set ?_ GE104.out | refine below_set ?_ GE105.out) | exact HB.out)⟩⟩
 case round =>
  clear H'
  try clear c1
  try clear p2
  try clear c6
  try clear hcz7_0
  try clear hcz7_1
  try clear hcz7_2
  try clear hcz7_3
  try clear hcz7_4
  try clear hcz7_5
  try clear hcz7_6
  try clear hcz7_7
  try clear hfz7_0
  try clear hfz7_1
  try clear hfz7_2
  try clear hfz7_3
  try clear hfz7_4
  try clear hfz7_5
  try clear hfz7_6
  try clear hfz7_7
  obtain ⟨x14_1, x106007_1, u106007, rfl, HA, HK1, HO_106007, BK104, BK105, HB⟩ := hrel
  cases gk with
  | zero => exact absurd HA.out (by simp [impl_list_float64___sizes.l0])
  | succ k1 =>
   have H := HA.out
   clear HA
   simp only [impl_list_float64___sizes.l0] at H
   by_cases c8 : x14_1 < (l1.length : Int)
   ·rw [if_pos c8] at H
    have c8b0 : decide (x14_1 < (l1.length : Int)) = true := decide_eq_true c8
    clear c8
    by_cases c9 : 0 ≤ x14_1
    ·rw [if_pos c9] at H
     have c9b0 : decide (0 ≤ x14_1) = true := decide_eq_true c9
     clear c9
     by_cases c10 : x14_1 < (l1.length : Int)
     ·rw [if_pos c10] at H
      have c10b0 : decide (x14_1 < (l1.length : Int)) = true := decide_eq_true c10
      clear c10
      replace H := Option.bind_eq_some_iff.mp H
      obtain ⟨⟨t107, t108, t109, t110, t111, t112, t113, t114⟩, A110, H⟩ := H
      have A11 := Aside0.mk A110
      clear A110
      by_cases c12 : x106007_1.length < 1466015503701
      ·rw [if_pos c12] at H
       have LMc12 := Aside0.mk c12
       clear c12
       obtain ⟨y117, hy117⟩ : ∃ y_ : List (S35), y_ = (x106007_1 ++ [(⟨t107, t108, t109, t110, t111, t112, t113, t114⟩ : S35)]) := ⟨_, rfl⟩
       replace H : (impl_list_float64___sizes.l0 k1 l1 (l1.length : Int) (wrap64 (x14_1 + 1)) a0 6 false 0 0 0 (⟨#[]⟩ : ByteArray) y117) = some (r1, r2, r3, r4, r5, r6, r7, r8) := by first | (rw [hy117]; with_reducible exact H) | (have H2_ := (Option.bind_some _ _).symm.trans H; rw [hy117]; with_reducible exact H2_) | (have H2_ := (Option.bind_some _ _).symm.trans H; with_reducible exact H2_) | with_reducible exact H | (rw [hy117]; exact H) | exact H
       have Ny117 := Aside0.mk hy117
       clear hy117
       have H' := Aside0.mk H
       clear H
       have p106 : 0 ≤ (x14_1 : Int) := of_decide_eq_true (by first | (with_reducible assumption) | assumption)
       have q106 : x14_1 < (l1.length : Int) := of_decide_eq_true (by first | (with_reducible assumption) | assumption)
       obtain ⟨ad106, e106, hx106_0⟩ := Kd.at_flt HR1.out x14_1 p106 q106
       cases e106
       replace hx106_0 := (HB.out.cell (World.block_lt_of_cell? w _ hx106_0)).trans hx106_0
       replace p106 := eq_true p106
       replace q106 := eq_true q106
       try go_wp2
       have n0_ := Aside0.mk (Kd.R_drew HO_106007.out)
       have n1_ := Aside0.mk (blk_drew BK104.out)
       have n2_ := Aside0.mk (blk_drew BK105.out)
       have n3_ := Aside0.mk (below_drew1 HB.out)
       clear HO_106007
       clear BK104
       clear BK105
       clear HB
       have HO_106007 := n0_
       have BK104 := n1_
       have BK105 := n2_
       have HB := n3_
       clear n0_ n1_ n2_ n3_
       refine start_ (n := 9) (S := fun w' => w'.cell? ⟨gb105, 0, none⟩ = some (.string a0) ∧ w'.cell? ⟨gb105, 1, none⟩ = some (.int .i64 6) ∧ w'.cell? ⟨gb105, 2, none⟩ = some (.bool false) ∧ w'.cell? ⟨gb105, 3, none⟩ = some (.int .i64 0) ∧ w'.cell? ⟨gb105, 4, none⟩ = some (.int .u64 0) ∧ w'.cell? ⟨gb105, 5, none⟩ = some (.float .f64 0) ∧ w'.cell? ⟨gb105, 6, none⟩ = some (.string (⟨#[]⟩ : ByteArray)) ∧ w'.cell? ⟨gb105, 7, none⟩ = some (u106007)) (ds := [8]) (tfA 0 9) (by kernel_rfl) rfl rfl ⟨(blk_cell BK105.out 0).trans rfl, (blk_cell BK105.out 1).trans rfl, (blk_cell BK105.out 2).trans rfl, (blk_cell BK105.out 3).trans rfl, (blk_cell BK105.out 4).trans rfl, (blk_cell BK105.out 5).trans rfl, (blk_cell BK105.out 6).trans rfl, (blk_cell BK105.out 7).trans rfl⟩ (fun hHeld => ?_); refine with_tabW impl_list_float64___sizes.tab5 impl_list_float64___sizes.bits5 (fun HT_ HW_ => ?_)
       generalize wr.drew = w13 at HO_106007 BK104 BK105 HB hHeld ⊢
       refine pure_ (i := 0) (N := some 18) (v := ?_) (a' := ?_) (tfA 1 8) rfl rfl (any_of HT_.out (by kernel_rfl)) (fun _ _ _ h => h) (Or.inl ⟨by rfl, ?_⟩) ?_ ?_
       rotate_left
       ·intro w'
        go_simp
        with_reducible rfl
       rotate_left
       ·simp only [Act.put, sA, s0, s1, i64_w, i32_w]
        rfl
       refine pure_ (i := 2) (N := some 20) (v := ?_) (a' := ?_) (bnA 9 5) rfl rfl (any_of HT_.out (by kernel_rfl)) (fun _ _ _ h => h) (Or.inl ⟨by rfl, ?_⟩) ?_ ?_
       rotate_left
       ·intro w'
        go_simp
        with_reducible rfl
       rotate_left
       ·simp only [Act.put, sA, s0, s1, i64_w, i32_w]
        rfl
       refine pure_ (i := 3) (N := some 21) (v := ?_) (a' := ?_) (bnA 9 13) rfl rfl (any_of HT_.out (by kernel_rfl)) (fun _ _ _ h => h) (Or.inl ⟨by rfl, ?_⟩) ?_ ?_
       rotate_left
       ·intro w'
        go_simp
        with_reducible rfl
       rotate_left
       ·simp only [Act.put, sA, s0, s1, i64_w, i32_w]
        rfl
       refine take_ (i := 1) (N := some 19) (v := ?_) (a' := ?_) (tfA 4 5) rfl rfl (take_ofW HT_.out HW_.out (by kernel_rfl)) (fun _ _ _ h => h) (Or.inl ⟨by rfl, ?_⟩) hHeld ?_ ?_
       rotate_left
       ·rintro w' ⟨s0, s1, s2, s3, s4, s5, s6, s7⟩
        go_simp
        with_reducible rfl
       rotate_left
       ·simp only [Act.put, sA, s0, s1, i64_w, i32_w]
        rfl
       refine one_ (i := 4) (N := some 22) (tfA 5 4) rfl rfl (one_of HT_.out (by kernel_rfl)) (by decide) (fun K hK => ?_)
       refine goesV_ Tryz.func127 (by kernel_rfl) rfl #[.float .f64 (rdOf 0 l1 x14_1)] (by rfl) rfl rfl (by (try simp only [List.map_toArray, List.map_cons, List.map_nil]); first | done | rfl | (simp only [List.length_drop, List.length_take]; rfl)) ?_
       with_reducible refine (impl_procfsBuddyInfo_1.calls (rdOf 0 l1 x14_1) t107 t108 t109 t110 t111 t112 t113 t114 _ A11.out).mono ?_
       rintro e w14 ⟨v115, rfl, ho0, hb⟩
       refine ⟨_, rfl, ?_⟩
       have n0_ := Aside0.mk (Kd.R_elder' (by (with_reducible repeat (first | apply Kd.R_alloc | apply Kd.R_drewN | apply Kd.R_drew)); exact HO_106007.out) (Kd.R_base ho0) hb)
       have n1_ := Aside0.mk (Kd.R_lower (Kd.R_newB (Kd.R_newB (Kd.R_new' ho0 (Kd.R_lt (by (with_reducible repeat (first | apply Kd.R_alloc | apply Kd.R_drewN | apply Kd.R_drew)); exact HO_106007.out))) (g := gb104) (o := .cells #[.string (⟨#[]⟩ : ByteArray), .int .i64 0, .bool false, .int .i64 0, .int .u64 0, .float .f64 0, .string (⟨#[]⟩ : ByteArray), .slice none 0 0] 35 (0, 0)) (by refine bY ?_; exact BK104.out)) (g := gb105) (o := .cells #[.string a0, .int .i64 6, .bool false, .int .i64 0, .int .u64 0, .float .f64 0, .string (⟨#[]⟩ : ByteArray), u106007] 35 (0, 0)) (by refine bY ?_; exact BK105.out)) (below_size belS))
       have n2_ := Aside0.mk (blk_below (g := gb104) (o := .cells #[.string (⟨#[]⟩ : ByteArray), .int .i64 0, .bool false, .int .i64 0, .int .u64 0, .float .f64 0, .string (⟨#[]⟩ : ByteArray), .slice none 0 0] 35 (0, 0)) (by refine bY ?_; exact BK104.out) hb)
       have n3_ := Aside0.mk (blk_below (g := gb105) (o := .cells #[.string a0, .int .i64 6, .bool false, .int .i64 0, .int .u64 0, .float .f64 0, .string (⟨#[]⟩ : ByteArray), u106007] 35 (0, 0)) (by refine bY ?_; exact BK105.out) hb)
       have n4_ := Aside0.mk (below_step belS hb)
       clear HO_106007
       clear BK104
       clear BK105
       clear HB
       have HO_106007 := n0_
       have HO116 := n1_
       have BK104 := n2_
       have BK105 := n3_
       have HB := n4_
       clear n0_ n1_ n2_ n3_ n4_
       (try clear hb)
       (try clear hb2)
       (try clear hk)
       (try clear hi)
       (try clear ho0)
       obtain ⟨Ao16, co16, eo16⟩ := Kd.R_slice HO116.out
       (first | subst eo16 | (injection eo16 with f1_ f2_ f3_; have f4_ := f1_.symm; have f5_ := f3_.symm; clear f1_ f2_ f3_; subst f4_; subst f5_))
       refine hK.out _ _ ⟨(blk_cell BK105.out 0).trans rfl, (blk_cell BK105.out 1).trans rfl, (blk_cell BK105.out 2).trans rfl, (blk_cell BK105.out 3).trans rfl, (blk_cell BK105.out 4).trans rfl, (blk_cell BK105.out 5).trans rfl, (blk_cell BK105.out 6).trans rfl, (blk_cell BK105.out 7).trans rfl⟩ (fun hHeld => ?_)
       clear hK K
       refine norm_ (a' := ?_) ?_ ?_
       rotate_left
       ·show Act.put _ (some 22) _ = _
        simp only [Act.put, sA, s0, s1, i64_w, i32_w]
        rfl
       refine one_ (i := 5) (N := some 23) (tfA 6 3) rfl rfl (one_of HT_.out (by kernel_rfl)) (by decide) (fun K hK => ?_)
       refine value_ (w1 := ?_) (v := ?_) (by rfl) rfl ?_ ?_
       rotate_left 2
       ·go_simp
        constructor
        ·rfl
        ·rfl
       refine hK.out _ _ ⟨(blk_cell (blk_alloc BK105.out _) 0).trans rfl, (blk_cell (blk_alloc BK105.out _) 1).trans rfl, (blk_cell (blk_alloc BK105.out _) 2).trans rfl, (blk_cell (blk_alloc BK105.out _) 3).trans rfl, (blk_cell (blk_alloc BK105.out _) 4).trans rfl, (blk_cell (blk_alloc BK105.out _) 5).trans rfl, (blk_cell (blk_alloc BK105.out _) 6).trans rfl, (blk_cell (blk_alloc BK105.out _) 7).trans rfl⟩ (fun hHeld => ?_)
       clear hK K
       refine norm_ (a' := ?_) ?_ ?_
       rotate_left
       ·show Act.put _ (some 23) _ = _
        simp only [Act.put, sA, s0, s1, i64_w, i32_w]
        rfl
       refine one_ (i := 6) (N := some 24) (tfA 7 2) rfl rfl (one_of HT_.out (by kernel_rfl)) (by decide) (fun K hK => ?_)
       refine Kd.R_append_step k35 (w0 := w) w.heap.size (by rfl) (.tmp 19) (.tmp 23) 33 35 (.agg #[(.string ⟨#[]⟩), (.int .i64 0), (.bool false), (.int .i64 0), (.int .u64 0), (.float .f64 0), (.string ⟨#[]⟩), (.slice none 0 0)]) 96 rfl Tryz.underlying33 info35 rfl (by decide) (by omega) u106007 x106007_1 (⟨t107, t108, t109, t110, t111, t112, t113, t114⟩ : S35) [.string t107, .int .i64 t108, .bool t109, .int .i64 t110, .int .u64 t111, .float .f64 t112, .string t113, .slice Ao16 t114.length co16] (fun k_ => k_ ≠ gb104 ∧ k_ ≠ gb105) (fun k_ => ((fun k_ => k_ ≠ gb104 ∧ k_ ≠ gb105)) k_ ∧ some k_ ≠ (u106007 : Value).ownBlock) rfl rfl ?aP (fun _ hk => hk) ?aF ?aO ?aB ?aS ?aL ?_
       (case aP => exact k35_mkM _ _ _ (⟨t107, t108, t109, t110, t111, t112, t113, t114⟩ : S35) (Kd.R_mono (HO116.out) (fun k_ hk => ⟨⟨hk.1.2, hk.2⟩, hk.1.1.2⟩)))
       (case aB => exact belS)
       (case aF => exact (fun k_ hk => ⟨Kd.freshB (g := gb104) (o := .cells #[.string (⟨#[]⟩ : ByteArray), .int .i64 0, .bool false, .int .i64 0, .int .u64 0, .float .f64 0, .string (⟨#[]⟩ : ByteArray), .slice none 0 0] 35 (0, 0)) (by refine bY ?_; exact BK104.out) k_ hk, Kd.freshB (g := gb105) (o := .cells #[.string a0, .int .i64 6, .bool false, .int .i64 0, .int .u64 0, .float .f64 0, .string (⟨#[]⟩ : ByteArray), u106007] 35 (0, 0)) (by refine bY ?_; exact BK105.out) k_ hk⟩))
       (case aO => exact (by (with_reducible repeat (first | apply Kd.R_alloc | apply Kd.R_drewN | apply Kd.R_drew)); exact Kd.R_mono HO_106007.out (fun _ hk => ⟨hk.1.1, hk.1.2⟩)))
       (case aS => exact (below_size belS))
       (case aL => have := LMc12.out; omega)
       intro v118 w15 ho hb hg hat
       rw [← Ny117.out] at ho
       have n0_ := Aside0.mk (blk_grown (g := gb104) (o := .cells #[.string (⟨#[]⟩ : ByteArray), .int .i64 0, .bool false, .int .i64 0, .int .u64 0, .float .f64 0, .string (⟨#[]⟩ : ByteArray), .slice none 0 0] 35 (0, 0)) (by refine bY ?_; exact BK104.out) hg (Kd.R_away HO_106007.out (fun _ hk => hk.1.1)))
       have n1_ := Aside0.mk (blk_grown (g := gb105) (o := .cells #[.string a0, .int .i64 6, .bool false, .int .i64 0, .int .u64 0, .float .f64 0, .string (⟨#[]⟩ : ByteArray), u106007] 35 (0, 0)) (by refine bY ?_; exact BK105.out) hg (Kd.R_away HO_106007.out (fun _ hk => hk.1.2)))
       have n2_ := Aside0.mk (hb)
       have n3_ := Aside0.mk (ho)
       clear BK104
       clear BK105
       clear HB
       clear HO_106007
       clear HO116
       have BK104 := n0_
       have BK105 := n1_
       have HB := n2_
       have HO119 := n3_
       clear n0_ n1_ n2_ n3_
       clear ho hb hg hat
       obtain ⟨Ao17, co17, eo17⟩ := Kd.R_slice HO119.out
       (first | subst eo17 | (injection eo17 with f1_ f2_ f3_; have f4_ := f1_.symm; have f5_ := f3_.symm; clear f1_ f2_ f3_; subst f4_; subst f5_))
       refine hK.out _ _ ⟨(blk_cell BK105.out 0).trans rfl, (blk_cell BK105.out 1).trans rfl, (blk_cell BK105.out 2).trans rfl, (blk_cell BK105.out 3).trans rfl, (blk_cell BK105.out 4).trans rfl, (blk_cell BK105.out 5).trans rfl, (blk_cell BK105.out 6).trans rfl, (blk_cell BK105.out 7).trans rfl⟩ (fun hHeld => ?_)
       clear hK K
       refine norm_ (a' := ?_) ?_ ?_
       rotate_left
       ·show Act.put _ (some 24) _ = _
        simp only [Act.put, sA, s0, s1, i64_w, i32_w]
        rfl
       refine pure_ (i := 7) (N := some 25) (v := ?_) (a' := ?_) (tfA 8 1) rfl rfl (any_of HT_.out (by kernel_rfl)) (fun _ _ _ h => h) (Or.inl ⟨by rfl, ?_⟩) ?_ ?_
       rotate_left
       ·intro w'
        go_simp
        with_reducible rfl
       rotate_left
       ·simp only [Act.put, sA, s0, s1, i64_w, i32_w]
        rfl
       refine last_ (i := 8) (N := none) (tfA 9 0) rfl rfl (one_of HT_.out (by kernel_rfl)) (by decide) (fun K hK => ?_)
       have hs18 : w15.cell? ⟨gb105, 7, none⟩ = some (u106007) := (blk_cell BK105.out 7).trans rfl
       have hfs18 := blk_frozen BK105.out 7
       have hns18_0 := NB104_105.out
       have hms18_0 := NB105_104.out
       refine skip_ (w1 := ?_) (by rfl) rfl ?_ ?_
       rotate_left
       ·go_simp
        rfl
       refine hK.out _ _ ?_
       clear hK K
       refine done_ (done_of HT_.out (by kernel_rfl)) ?_
       try go_wp2
       go_roundg k1
       case measure => have := HK1.out; omega
       case rel => exact ⟨(wrap64 (x14_1 + 1)), (y117), (.slice Ao17 y117.length co17), (by first | rfl | (simp; done) | (simp [*]; done) | (simp [bne_nil]; done) | (simp [bne_nil, *]; done)), H', ⟨by have := HK1.out; omega⟩, ⟨by (with_reducible repeat (first | apply Kd.R_alloc | apply Kd.R_drewN | apply Kd.R_drew)); exact Kd.R_mono (Kd.R_far (p := ⟨gb105, 7, none⟩) (Kd.R_mono HO119.out (fun k_ hk => (⟨hk, hk.2⟩ : _ ∧ k_ ≠ gb105))) (fun _ hk => hk.2) (.slice Ao17 y117.length co17)) (fun _ hk => ⟨hk.1.1, hk.1.2⟩)⟩, ⟨by refine bY ?_; refine blk_far ?_ NB104_105.out _; refine bY ?_; exact BK104.out⟩, ⟨by refine bY ?_; refine blk_put (cs := #[.string a0, .int .i64 6, .bool false, .int .i64 0, .int .u64 0, .float .f64 0, .string (⟨#[]⟩ : ByteArray), u106007]) ?_ 7 _ rfl; refine bY ?_; exact BK105.out⟩, ⟨by repeat (first | (with_reducible first | exact HB.out | apply below_alloc | apply pw_below_drewN | apply below_drew1 | refine below_set ?_ GE104.out | refine below_set ?_ GE105.out) | exact HB.out)⟩⟩
      ·rw [if_neg c12] at H
       exact absurd H (by simp)
     ·rw [if_neg c10] at H
      exact absurd H (by simp)
    ·rw [if_neg c9] at H
     exact absurd H (by simp)
   ·rw [if_neg c8] at H
    have c8b0 : decide (x14_1 < (l1.length : Int)) = false := decide_eq_false c8
    clear c8
    simp only [Option.some.injEq, Prod.mk.injEq] at H
    obtain ⟨rfl, rfl, rfl, rfl, rfl, rfl, rfl, rfl⟩ := H
    have hnb19 := NB105_104.out
    have hnc19 := NB104_105.out
    obtain ⟨hcz20_0, hcz20_1, hcz20_2, hcz20_3, hcz20_4, hcz20_5, hcz20_6, hcz20_7, hfz20_0, hfz20_1, hfz20_2, hfz20_3, hfz20_4, hfz20_5, hfz20_6, hfz20_7⟩ := rows8 (w := wr) BK105
    obtain ⟨hcz21_0, hcz21_1, hcz21_2, hcz21_3, hcz21_4, hcz21_5, hcz21_6, hcz21_7, hfz21_0, hfz21_1, hfz21_2, hfz21_3, hfz21_4, hfz21_5, hfz21_6, hfz21_7⟩ := rows8 (w := wr) BK104
    obtain ⟨Ao22, co22, eo22⟩ := Kd.R_slice HO_106007.out
    subst eo22
    go_wp2
    refine bodyPost_ret (results_cell_row rfl _ _ gb104 35 #[.string a0, .int .i64 6, .bool false, .int .i64 0, .int .u64 0, .float .f64 0, .string (⟨#[]⟩ : ByteArray), .slice Ao22 x106007_1.length co22] (0, 0) _ rfl (by refine bY ?_; exact blk_put8 BK104.out) Tryz.underlying35 rfl (by kernel_rfl)) rfl ?_
    exact ⟨_, by first | rfl | (simp [errW_none, errW_some] <;> rfl) | (simp [*, errW_none, errW_some] <;> rfl), by (with_reducible repeat (first | apply Kd.R_alloc | apply Kd.R_drewN | apply Kd.R_drew)); exact Kd.R_mono (Kd.R_far8 (g := gb104) (Kd.R_mono HO_106007.out (fun k_ hk => (⟨hk, hk.1⟩ : _ ∧ k_ ≠ gb104))) (fun _ hk => hk.2) (.string a0) (.int .i64 6) (.bool false) (.int .i64 0) (.int .u64 0) (.float .f64 0) (.string (⟨#[]⟩ : ByteArray)) (.slice Ao22 x106007_1.length co22)) (fun _ hk => trivial), by repeat (first | (with_reducible first | exact HB.out | apply below_alloc | apply pw_below_drewN | apply below_drew1 | refine below_set ?_ GE104.out | refine below_set ?_ GE105.out) | exact HB.out)⟩

/-! ### impl_procfsBuddyInfo: function 65 -/
def impl_procfsBuddyInfo.f (k : Nat) (a0 : ByteArray) (a1_0 : ByteArray) (a1_1 : ByteArray) (l1_2 : List Nat) : Option (ByteArray × Int × Bool × Int × Int × Nat × ByteArray × (List (S35))) := if ([] : List (S35)).length < 1466015503701 then ((some (([] : List (S35)) ++ [(⟨(⟨#[78, 111, 100, 101]⟩ : ByteArray), 5, false, 0, 0, 0, a1_0, ([] : List (S35))⟩ : S35)] : List (S35))).bind fun y123 => (if y123.length < 1466015503701 then ((some (y123 ++ [(⟨(⟨#[90, 111, 110, 101]⟩ : ByteArray), 5, false, 0, 0, 0, a1_1, ([] : List (S35))⟩ : S35)] : List (S35))).bind fun y126 => ((impl_list_float64___sizes.f k (⟨#[83, 105, 122, 101, 115]⟩ : ByteArray) l1_2).bind fun bt129 => (if y126.length < 1466015503701 then (some (a0, 8, false, 0, 0, 0, (⟨#[]⟩ : ByteArray), (y126 ++ [(⟨bt129.1, bt129.2.1, bt129.2.2.1, bt129.2.2.2.1, bt129.2.2.2.2.1, bt129.2.2.2.2.2.1, bt129.2.2.2.2.2.2.1, bt129.2.2.2.2.2.2.2⟩ : S35)]))) else (none)))) else (none))) else (none)
theorem impl_procfsBuddyInfo.mono : ∀ a0 a1 a2 a3 k, LeO (impl_procfsBuddyInfo.f k a0 a1 a2 a3) (impl_procfsBuddyInfo.f (k + 1) a0 a1 a2 a3) := by
 intro a0 a1 a2 a3 k
 unfold impl_procfsBuddyInfo.f
 repeat' first
   | (with_reducible exact impl_list_float64___sizes.mono _ _ _)
   | (with_reducible exact LeO.refl _)
   | (with_reducible exact LeO.none _)
   | (with_reducible refine LeO.ite ?_ ?_)
   | (with_reducible refine LeO.bind ?_ (fun _ => ?_))
   | exact impl_list_float64___sizes.mono _ _ _
   | exact LeO.none _
   | refine LeO.ite ?_ ?_
   | refine LeO.bind ?_ (fun _ => ?_)
def impl_procfsBuddyInfo.T4 : Bool × List (List Nat × List Nat) := (true, [([], []), ([0], [0]), ([], []), ([2], [2]), ([3], [3]), ([4], [4]), ([1, 5, 4], [1, 5]), ([0, 1, 2, 3, 4, 5, 6], []), ([7, 6, 6, 0, 1, 2, 3, 4, 5, 6], [6, 7])])
def impl_procfsBuddyInfo.B4 : List Nat := [0, 1, 0, 4, 12, 28, 63, 127, 255]
theorem impl_procfsBuddyInfo.tab4 : rtab .any (opsOf Tryz.f65 4) = impl_procfsBuddyInfo.T4 := by kernel_rfl
theorem impl_procfsBuddyInfo.bits4 : waitsOk impl_procfsBuddyInfo.T4.2 impl_procfsBuddyInfo.B4 = true := by kernel_rfl
set_option maxHeartbeats 8000000 in
set_option maxRecDepth 100000 in
theorem impl_procfsBuddyInfo.calls (k : Nat) (a0 : ByteArray) (a1_0 : ByteArray) (a1_1 : ByteArray) (A1_2 : Option Addr) (c1_2 : Nat) (l1_2 : List Nat) (r1 : ByteArray) (r2 : Int) (r3 : Bool) (r4 : Int) (r5 : Int) (r6 : Nat) (r7 : ByteArray) (r8 : List (S35)) (w : World) (hr1_2 : Kd.C Kd.flt w A1_2 l1_2.length l1_2) (hc1_2 : l1_2.length ≤ c1_2) (h : impl_procfsBuddyInfo.f k a0 a1_0 a1_1 l1_2 = some (r1, r2, r3, r4, r5, r6, r7, r8)) :
  Calls Tryz.prog 65 #[.string a0, .agg #[.string a1_0, .string a1_1, .slice A1_2 l1_2.length c1_2]] w fun e w' => ∃ v7_ : Value, e = .returned (.agg #[.string r1, .int .i64 r2, .bool r3, .int .i64 r4, .int .u64 r5, .float .f64 r6, .string r7, v7_]) ∧ Kd.R k35 35 w' w.heap.size (fun _ => True) v7_ r8 ∧ Below w.heap.size w w' := by
 have hu79 := Tryz.underlying79
 have hu35 := Tryz.underlying35
 have HR1_2 := Aside0.mk hr1_2
 have HC1_2 := Aside0.mk hc1_2
 clear hr1_2 hc1_2
 have HB := Aside0.mk (Below.refl w.heap.size w)
 have H : (if ([] : List (S35)).length < 1466015503701 then ((some (([] : List (S35)) ++ [(⟨(⟨#[78, 111, 100, 101]⟩ : ByteArray), 5, false, 0, 0, 0, a1_0, ([] : List (S35))⟩ : S35)] : List (S35))).bind fun y123 => (if y123.length < 1466015503701 then ((some (y123 ++ [(⟨(⟨#[90, 111, 110, 101]⟩ : ByteArray), 5, false, 0, 0, 0, a1_1, ([] : List (S35))⟩ : S35)] : List (S35))).bind fun y126 => ((impl_list_float64___sizes.f k (⟨#[83, 105, 122, 101, 115]⟩ : ByteArray) l1_2).bind fun bt129 => (if y126.length < 1466015503701 then (some (a0, 8, false, 0, 0, 0, (⟨#[]⟩ : ByteArray), (y126 ++ [(⟨bt129.1, bt129.2.1, bt129.2.2.1, bt129.2.2.2.1, bt129.2.2.2.2.1, bt129.2.2.2.2.2.1, bt129.2.2.2.2.2.2.1, bt129.2.2.2.2.2.2.2⟩ : S35)]))) else (none)))) else (none))) else (none)) = some (r1, r2, r3, r4, r5, r6, r7, r8) := h
 clear h
 by_cases c3 : ([] : List (S35)).length < 1466015503701
 ·rw [if_pos c3] at H
  have LMc3 := Aside0.mk c3
  clear c3
  obtain ⟨y123, hy123⟩ : ∃ y_ : List (S35), y_ = (([] : List (S35)) ++ [(⟨(⟨#[78, 111, 100, 101]⟩ : ByteArray), 5, false, 0, 0, 0, a1_0, ([] : List (S35))⟩ : S35)]) := ⟨_, rfl⟩
  replace H : (if y123.length < 1466015503701 then ((some (y123 ++ [(⟨(⟨#[90, 111, 110, 101]⟩ : ByteArray), 5, false, 0, 0, 0, a1_1, ([] : List (S35))⟩ : S35)] : List (S35))).bind fun y126 => ((impl_list_float64___sizes.f k (⟨#[83, 105, 122, 101, 115]⟩ : ByteArray) l1_2).bind fun bt129 => (if y126.length < 1466015503701 then (some (a0, 8, false, 0, 0, 0, (⟨#[]⟩ : ByteArray), (y126 ++ [(⟨bt129.1, bt129.2.1, bt129.2.2.1, bt129.2.2.2.1, bt129.2.2.2.2.1, bt129.2.2.2.2.2.1, bt129.2.2.2.2.2.2.1, bt129.2.2.2.2.2.2.2⟩ : S35)]))) else (none)))) else (none)) = some (r1, r2, r3, r4, r5, r6, r7, r8) := by first | (rw [hy123]; with_reducible exact H) | (have H2_ := (Option.bind_some _ _).symm.trans H; rw [hy123]; with_reducible exact H2_) | (have H2_ := (Option.bind_some _ _).symm.trans H; with_reducible exact H2_) | with_reducible exact H | (rw [hy123]; exact H) | exact H
  have Ny123 := Aside0.mk hy123
  clear hy123
  by_cases c4 : y123.length < 1466015503701
  ·rw [if_pos c4] at H
   have LMc4 := Aside0.mk c4
   clear c4
   obtain ⟨y126, hy126⟩ : ∃ y_ : List (S35), y_ = (y123 ++ [(⟨(⟨#[90, 111, 110, 101]⟩ : ByteArray), 5, false, 0, 0, 0, a1_1, ([] : List (S35))⟩ : S35)]) := ⟨_, rfl⟩
   replace H : ((impl_list_float64___sizes.f k (⟨#[83, 105, 122, 101, 115]⟩ : ByteArray) l1_2).bind fun bt129 => (if y126.length < 1466015503701 then (some (a0, 8, false, 0, 0, 0, (⟨#[]⟩ : ByteArray), (y126 ++ [(⟨bt129.1, bt129.2.1, bt129.2.2.1, bt129.2.2.2.1, bt129.2.2.2.2.1, bt129.2.2.2.2.2.1, bt129.2.2.2.2.2.2.1, bt129.2.2.2.2.2.2.2⟩ : S35)]))) else (none))) = some (r1, r2, r3, r4, r5, r6, r7, r8) := by first | (rw [hy126]; with_reducible exact H) | (have H2_ := (Option.bind_some _ _).symm.trans H; rw [hy126]; with_reducible exact H2_) | (have H2_ := (Option.bind_some _ _).symm.trans H; with_reducible exact H2_) | with_reducible exact H | (rw [hy126]; exact H) | exact H
   have Ny126 := Aside0.mk hy126
   clear hy126
   replace H := Option.bind_eq_some_iff.mp H
   obtain ⟨⟨t129, t130, t131, t132, t133, t134, t135, t136⟩, A50, H⟩ := H
   have A5 := Aside0.mk A50
   clear A50
   by_cases c6 : y126.length < 1466015503701
   ·rw [if_pos c6] at H
    have LMc6 := Aside0.mk c6
    clear c6
    obtain ⟨y139, hy139⟩ : ∃ y_ : List (S35), y_ = (y126 ++ [(⟨t129, t130, t131, t132, t133, t134, t135, t136⟩ : S35)]) := ⟨_, rfl⟩
    replace H : (some (a0, 8, false, 0, 0, 0, (⟨#[]⟩ : ByteArray), y139)) = some (r1, r2, r3, r4, r5, r6, r7, r8) := by first | (rw [hy139]; with_reducible exact H) | (have H2_ := (Option.bind_some _ _).symm.trans H; rw [hy139]; with_reducible exact H2_) | (have H2_ := (Option.bind_some _ _).symm.trans H; with_reducible exact H2_) | with_reducible exact H | (rw [hy139]; exact H) | exact H
    have Ny139 := Aside0.mk hy139
    clear hy139
    simp only [Option.some.injEq, Prod.mk.injEq] at H
    obtain ⟨rfl, rfl, rfl, rfl, rfl, rfl, rfl, rfl⟩ := H
    go_enter Tryz.func65, Tryz.ntmps65
    try go_wp2_with (first | ((with_reducible refine gate_dst (N := 3) rfl ?_); refine box_event ?hg (N := 3) ?hd (cs := #[.string a1_0, .string a1_1, .slice A1_2 l1_2.length c1_2]) (t := 79) ?hr ?_; (case hd => rfl); (case hg => rfl); (case hr => first | (go_simp; done) | (go_simp; rfl)); intro gb120 hg w7 hbox hb; have n0_ := Aside0.mk (below_step belH hb); have n1_ := Aside0.mk (hbox); have n2_ := Aside0.mk ((by rw [hg]; exact (below_size belH) : w.heap.size ≤ gb120)); have n3_ := Aside0.mk ((by rw [hg]; exact (below_size belH) : w.heap.size ≤ gb120)); clear HB; have HB := n0_; have BK120 := n1_; have GW120 := n2_; have GE120 := n3_; clear n0_ n1_ n2_ n3_; clear hb hbox hg) | ((with_reducible refine gate_dst (N := 4) rfl ?_); refine box_event ?hg (N := 4) ?hd (cs := #[.string (⟨#[]⟩ : ByteArray), .int .i64 0, .bool false, .int .i64 0, .int .u64 0, .float .f64 0, .string (⟨#[]⟩ : ByteArray), .slice none 0 0]) (t := 35) ?hr ?_; (case hd => rfl); (case hg => rfl); (case hr => first | (go_simp; done) | (go_simp; rfl)); intro gb121 hg w8 hbox hb; have n0_ := Aside0.mk (blk_below (g := gb120) (o := .cells #[.string a1_0, .string a1_1, .slice A1_2 l1_2.length c1_2] 79 (0, 0)) (by refine bY ?_; exact BK120.out) hb); have n1_ := Aside0.mk (below_step belS hb); have n2_ := Aside0.mk (hbox); have n3_ := Aside0.mk ((by rw [hg]; exact (below_size belS) : w.heap.size ≤ gb121)); have n4_ := Aside0.mk ((by rw [hg]; exact (below_size belS) : w.heap.size ≤ gb121)); have n5_ := Aside0.mk ((by rw [hg]; exact Nat.ne_of_lt (blk_lt (g := gb120) (o := .cells #[.string a1_0, .string a1_1, .slice A1_2 l1_2.length c1_2] 79 (0, 0)) (by refine bY ?_; exact BK120.out)) : gb120 ≠ gb121)); have n6_ := Aside0.mk ((by rw [hg]; exact Nat.ne_of_gt (blk_lt (g := gb120) (o := .cells #[.string a1_0, .string a1_1, .slice A1_2 l1_2.length c1_2] 79 (0, 0)) (by refine bY ?_; exact BK120.out)) : gb121 ≠ gb120)); clear BK120; clear HB; have BK120 := n0_; have HB := n1_; have BK121 := n2_; have GW121 := n3_; have GE121 := n4_; have NB120_121 := n5_; have NB121_120 := n6_; clear n0_ n1_ n2_ n3_ n4_ n5_ n6_; clear hb hbox hg) | ((with_reducible refine gate_dst (N := 5) rfl ?_); refine box_event ?hg (N := 5) ?hd (cs := #[.string (⟨#[]⟩ : ByteArray), .int .i64 0, .bool false, .int .i64 0, .int .u64 0, .float .f64 0, .string (⟨#[]⟩ : ByteArray), .slice none 0 0]) (t := 35) ?hr ?_; (case hd => rfl); (case hg => rfl); (case hr => first | (go_simp; done) | (go_simp; rfl)); intro gb122 hg w9 hbox hb; have n0_ := Aside0.mk (blk_below (g := gb120) (o := .cells #[.string a1_0, .string a1_1, .slice A1_2 l1_2.length c1_2] 79 (0, 0)) (by refine bY ?_; exact BK120.out) hb); have n1_ := Aside0.mk (blk_below (g := gb121) (o := .cells #[.string (⟨#[]⟩ : ByteArray), .int .i64 0, .bool false, .int .i64 0, .int .u64 0, .float .f64 0, .string (⟨#[]⟩ : ByteArray), .slice none 0 0] 35 (0, 0)) (by refine bY ?_; exact BK121.out) hb); have n2_ := Aside0.mk (below_step belS hb); have n3_ := Aside0.mk (hbox); have n4_ := Aside0.mk ((by rw [hg]; exact (below_size belS) : w.heap.size ≤ gb122)); have n5_ := Aside0.mk ((by rw [hg]; exact (below_size belS) : w.heap.size ≤ gb122)); have n6_ := Aside0.mk ((by rw [hg]; exact Nat.ne_of_lt (blk_lt (g := gb120) (o := .cells #[.string a1_0, .string a1_1, .slice A1_2 l1_2.length c1_2] 79 (0, 0)) (by refine bY ?_; exact BK120.out)) : gb120 ≠ gb122)); have n7_ := Aside0.mk ((by rw [hg]; exact Nat.ne_of_gt (blk_lt (g := gb120) (o := .cells #[.string a1_0, .string a1_1, .slice A1_2 l1_2.length c1_2] 79 (0, 0)) (by refine bY ?_; exact BK120.out)) : gb122 ≠ gb120)); have n8_ := Aside0.mk ((by rw [hg]; exact Nat.ne_of_lt (blk_lt (g := gb121) (o := .cells #[.string (⟨#[]⟩ : ByteArray), .int .i64 0, .bool false, .int .i64 0, .int .u64 0, .float .f64 0, .string (⟨#[]⟩ : ByteArray), .slice none 0 0] 35 (0, 0)) (by refine bY ?_; exact BK121.out)) : gb121 ≠ gb122)); have n9_ := Aside0.mk ((by rw [hg]; exact Nat.ne_of_gt (blk_lt (g := gb121) (o := .cells #[.string (⟨#[]⟩ : ByteArray), .int .i64 0, .bool false, .int .i64 0, .int .u64 0, .float .f64 0, .string (⟨#[]⟩ : ByteArray), .slice none 0 0] 35 (0, 0)) (by refine bY ?_; exact BK121.out)) : gb122 ≠ gb121)); clear BK120; clear BK121; clear HB; have BK120 := n0_; have BK121 := n1_; have HB := n2_; have BK122 := n3_; have GW122 := n4_; have GE122 := n5_; have NB120_122 := n6_; have NB122_120 := n7_; have NB121_122 := n8_; have NB122_121 := n9_; clear n0_ n1_ n2_ n3_ n4_ n5_ n6_ n7_ n8_ n9_; clear hb hbox hg; have hnb10 := NB122_120.out; have hnc10 := NB120_122.out; have hnb11 := NB122_121.out; have hnc11 := NB121_122.out; obtain ⟨hcz12_0, hcz12_1, hcz12_2, hcz12_3, hcz12_4, hcz12_5, hcz12_6, hcz12_7, hfz12_0, hfz12_1, hfz12_2, hfz12_3, hfz12_4, hfz12_5, hfz12_6, hfz12_7⟩ := rows8 (w := w9) BK122; have hnb13 := NB120_121.out; have hnc13 := NB121_120.out; obtain ⟨hcz14_0, hcz14_1, hcz14_2, hfz14_0, hfz14_1, hfz14_2⟩ := rows3 (w := w9) BK120) | ((with_reducible refine gate_builtin (b := .append) (xs := #[.tmp 9, .tmp 13]) rfl ?_); at_builtin; refine Kd.R_append k35 (w0 := w) w.heap.size rfl (.tmp 9) (.tmp 13) 33 35 (.agg #[(.string ⟨#[]⟩), (.int .i64 0), (.bool false), (.int .i64 0), (.int .u64 0), (.float .f64 0), (.string ⟨#[]⟩), (.slice none 0 0)]) 96 rfl Tryz.underlying33 info35 rfl (by decide) (by omega) (.slice none 0 0) ([] : List (S35)) (⟨(⟨#[78, 111, 100, 101]⟩ : ByteArray), 5, false, 0, 0, 0, a1_0, ([] : List (S35))⟩ : S35) [.string (⟨#[78, 111, 100, 101]⟩ : ByteArray), .int .i64 5, .bool false, .int .i64 0, .int .u64 0, .float .f64 0, .string a1_0, .slice none 0 0] (fun k_ => k_ ≠ gb121 ∧ k_ ≠ gb122) (fun k_ => ((fun k_ => k_ ≠ gb121 ∧ k_ ≠ gb122)) k_ ∧ some k_ ≠ (.slice none 0 0 : Value).ownBlock) rfl (by first | (go_simp; done) | (go_simp; rfl)) ?aP (fun _ hk => hk) ?aF ?aO ?aB ?aS ?aL ?_; (case aP => exact k35_mkM _ _ _ (⟨(⟨#[78, 111, 100, 101]⟩ : ByteArray), 5, false, 0, 0, 0, a1_0, ([] : List (S35))⟩ : S35) (Kd.R_nil _ _ _ _ _)); (case aB => exact belS); (case aF => exact (fun k_ hk => ⟨Kd.freshB (g := gb121) (o := .cells #[.string (⟨#[]⟩ : ByteArray), .int .i64 0, .bool false, .int .i64 0, .int .u64 0, .float .f64 0, .string (⟨#[]⟩ : ByteArray), .slice none 0 0] 35 (0, 0)) (by refine bY ?_; refine blk_far ?_ NB121_122.out _; refine bY ?_; refine blk_far ?_ NB121_122.out _; refine bY ?_; refine blk_far ?_ NB121_122.out _; refine bY ?_; refine blk_far ?_ NB121_122.out _; refine bY ?_; refine blk_far ?_ NB121_122.out _; refine bY ?_; refine blk_far ?_ NB121_122.out _; refine bY ?_; refine blk_far ?_ NB121_122.out _; refine bY ?_; refine blk_far ?_ NB121_122.out _; refine bY ?_; exact BK121.out) k_ hk, Kd.freshB (g := gb122) (o := .cells #[.string a0, .int .i64 8, .bool false, .int .i64 0, .int .u64 0, .float .f64 0, .string (⟨#[]⟩ : ByteArray), .slice none 0 0] 35 (0, 0)) (by refine bY ?_; exact blk_put8 BK122.out) k_ hk⟩)); (case aO => exact ((Kd.R_nil _ _ _ _ (fun k_ => k_ ≠ gb121 ∧ k_ ≠ gb122)))); (case aS => exact (below_size belS)); (case aL => have := LMc3.out; omega); intro v124 w15 ho hb hg hat; rw [← Ny123.out] at ho; have n0_ := Aside0.mk (blk_grown (g := gb120) (o := .cells #[.string a1_0, .string a1_1, .slice A1_2 l1_2.length c1_2] 79 (0, 0)) (by refine bY ?_; refine blk_far ?_ NB120_122.out _; refine bY ?_; refine blk_far ?_ NB120_122.out _; refine bY ?_; refine blk_far ?_ NB120_122.out _; refine bY ?_; refine blk_far ?_ NB120_122.out _; refine bY ?_; refine blk_far ?_ NB120_122.out _; refine bY ?_; refine blk_far ?_ NB120_122.out _; refine bY ?_; refine blk_far ?_ NB120_122.out _; refine bY ?_; refine blk_far ?_ NB120_122.out _; refine bY ?_; exact BK120.out) hg (by simp [Value.ownBlock])); have n1_ := Aside0.mk (blk_grown (g := gb121) (o := .cells #[.string (⟨#[]⟩ : ByteArray), .int .i64 0, .bool false, .int .i64 0, .int .u64 0, .float .f64 0, .string (⟨#[]⟩ : ByteArray), .slice none 0 0] 35 (0, 0)) (by refine bY ?_; refine blk_far ?_ NB121_122.out _; refine bY ?_; refine blk_far ?_ NB121_122.out _; refine bY ?_; refine blk_far ?_ NB121_122.out _; refine bY ?_; refine blk_far ?_ NB121_122.out _; refine bY ?_; refine blk_far ?_ NB121_122.out _; refine bY ?_; refine blk_far ?_ NB121_122.out _; refine bY ?_; refine blk_far ?_ NB121_122.out _; refine bY ?_; refine blk_far ?_ NB121_122.out _; refine bY ?_; exact BK121.out) hg (by simp [Value.ownBlock])); have n2_ := Aside0.mk (blk_grown (g := gb122) (o := .cells #[.string a0, .int .i64 8, .bool false, .int .i64 0, .int .u64 0, .float .f64 0, .string (⟨#[]⟩ : ByteArray), .slice none 0 0] 35 (0, 0)) (by refine bY ?_; exact blk_put8 BK122.out) hg (by simp [Value.ownBlock])); have n3_ := Aside0.mk (hb); have n4_ := Aside0.mk (ho); clear BK120; clear BK121; clear BK122; clear HB; have BK120 := n0_; have BK121 := n1_; have BK122 := n2_; have HB := n3_; have HO125 := n4_; clear n0_ n1_ n2_ n3_ n4_; clear ho hb hg hat; obtain ⟨Ao16, co16, eo16⟩ := Kd.R_slice HO125.out; subst eo16; obtain ⟨hcz17_0, hcz17_1, hcz17_2, hcz17_3, hcz17_4, hcz17_5, hcz17_6, hcz17_7, hfz17_0, hfz17_1, hfz17_2, hfz17_3, hfz17_4, hfz17_5, hfz17_6, hfz17_7⟩ := rows8 (w := w15) BK122; obtain ⟨hcz18_0, hcz18_1, hcz18_2, hfz18_0, hfz18_1, hfz18_2⟩ := rows3 (w := w15) BK120) | ((with_reducible refine gate_builtin (b := .append) (xs := #[.tmp 17, .tmp 21]) rfl ?_); at_builtin; refine Kd.R_append k35 (w0 := w) w.heap.size rfl (.tmp 17) (.tmp 21) 33 35 (.agg #[(.string ⟨#[]⟩), (.int .i64 0), (.bool false), (.int .i64 0), (.int .u64 0), (.float .f64 0), (.string ⟨#[]⟩), (.slice none 0 0)]) 96 rfl Tryz.underlying33 info35 rfl (by decide) (by omega) (.slice Ao16 y123.length co16) y123 (⟨(⟨#[90, 111, 110, 101]⟩ : ByteArray), 5, false, 0, 0, 0, a1_1, ([] : List (S35))⟩ : S35) [.string (⟨#[90, 111, 110, 101]⟩ : ByteArray), .int .i64 5, .bool false, .int .i64 0, .int .u64 0, .float .f64 0, .string a1_1, .slice none 0 0] (fun k_ => k_ ≠ gb121 ∧ k_ ≠ gb122) (fun k_ => ((fun k_ => k_ ≠ gb121 ∧ k_ ≠ gb122)) k_ ∧ some k_ ≠ (.slice Ao16 y123.length co16 : Value).ownBlock) rfl (by first | (go_simp; done) | (go_simp; rfl)) ?aP (fun _ hk => hk) ?aF ?aO ?aB ?aS ?aL ?_; (case aP => exact k35_mkM _ _ _ (⟨(⟨#[90, 111, 110, 101]⟩ : ByteArray), 5, false, 0, 0, 0, a1_1, ([] : List (S35))⟩ : S35) (Kd.R_nil _ _ _ _ _)); (case aB => exact belS); (case aF => exact (fun k_ hk => ⟨Kd.freshB (g := gb121) (o := .cells #[.string (⟨#[]⟩ : ByteArray), .int .i64 0, .bool false, .int .i64 0, .int .u64 0, .float .f64 0, .string (⟨#[]⟩ : ByteArray), .slice none 0 0] 35 (0, 0)) (by refine bY ?_; refine blk_far ?_ NB121_122.out _; refine bY ?_; exact BK121.out) k_ hk, Kd.freshB (g := gb122) (o := .cells #[.string a0, .int .i64 8, .bool false, .int .i64 0, .int .u64 0, .float .f64 0, .string (⟨#[]⟩ : ByteArray), .slice Ao16 y123.length co16] 35 (0, 0)) (by refine bY ?_; refine blk_put (cs := #[.string a0, .int .i64 8, .bool false, .int .i64 0, .int .u64 0, .float .f64 0, .string (⟨#[]⟩ : ByteArray), .slice none 0 0]) ?_ 7 _ rfl; refine bY ?_; exact BK122.out) k_ hk⟩)); (case aO => exact (by (with_reducible repeat (first | apply Kd.R_alloc | apply Kd.R_drewN | apply Kd.R_drew)); exact Kd.R_mono (Kd.R_far (p := ⟨gb122, 7, none⟩) (Kd.R_mono HO125.out (fun k_ hk => (⟨hk, hk.2⟩ : _ ∧ k_ ≠ gb122))) (fun _ hk => hk.2) (.slice Ao16 y123.length co16)) (fun _ hk => ⟨hk.1.1, hk.1.2⟩))); (case aS => exact (below_size belS)); (case aL => have := LMc4.out; omega); intro v127 w19 ho hb hg hat; rw [← Ny126.out] at ho; have n0_ := Aside0.mk (blk_grown (g := gb120) (o := .cells #[.string a1_0, .string a1_1, .slice A1_2 l1_2.length c1_2] 79 (0, 0)) (by refine bY ?_; refine blk_far ?_ NB120_122.out _; refine bY ?_; exact BK120.out) hg (Kd.R_ne HO125.out BK120.out (by decide))); have n1_ := Aside0.mk (blk_grown (g := gb121) (o := .cells #[.string (⟨#[]⟩ : ByteArray), .int .i64 0, .bool false, .int .i64 0, .int .u64 0, .float .f64 0, .string (⟨#[]⟩ : ByteArray), .slice none 0 0] 35 (0, 0)) (by refine bY ?_; refine blk_far ?_ NB121_122.out _; refine bY ?_; exact BK121.out) hg (Kd.R_away HO125.out (fun _ hk => hk.1))); have n2_ := Aside0.mk (blk_grown (g := gb122) (o := .cells #[.string a0, .int .i64 8, .bool false, .int .i64 0, .int .u64 0, .float .f64 0, .string (⟨#[]⟩ : ByteArray), .slice Ao16 y123.length co16] 35 (0, 0)) (by refine bY ?_; refine blk_put (cs := #[.string a0, .int .i64 8, .bool false, .int .i64 0, .int .u64 0, .float .f64 0, .string (⟨#[]⟩ : ByteArray), .slice none 0 0]) ?_ 7 _ rfl; refine bY ?_; exact BK122.out) hg (Kd.R_away HO125.out (fun _ hk => hk.2))); have n3_ := Aside0.mk (hb); have n4_ := Aside0.mk (ho); clear BK120; clear BK121; clear BK122; clear HB; clear HO125; have BK120 := n0_; have BK121 := n1_; have BK122 := n2_; have HB := n3_; have HO128 := n4_; clear n0_ n1_ n2_ n3_ n4_; clear ho hb hg hat; obtain ⟨Ao20, co20, eo20⟩ := Kd.R_slice HO128.out; subst eo20; obtain ⟨hcz21_0, hcz21_1, hcz21_2, hcz21_3, hcz21_4, hcz21_5, hcz21_6, hcz21_7, hfz21_0, hfz21_1, hfz21_2, hfz21_3, hfz21_4, hfz21_5, hfz21_6, hfz21_7⟩ := rows8 (w := w19) BK122))
    have n0_ : Aside0 (Kd.R k35 35 (w19.setCell ⟨gb122, 7, none⟩ (.slice Ao20 y126.length co20)) w.heap.size (fun k_ => k_ ≠ gb121 ∧ k_ ≠ gb122) (.slice Ao20 y126.length co20) y126) := ⟨by (with_reducible repeat (first | apply Kd.R_alloc | apply Kd.R_drewN | apply Kd.R_drew)); exact Kd.R_mono (Kd.R_far (p := ⟨gb122, 7, none⟩) (Kd.R_mono HO128.out (fun k_ hk => (⟨hk, hk.2⟩ : _ ∧ k_ ≠ gb122))) (fun _ hk => hk.2) (.slice Ao20 y126.length co20)) (fun _ hk => ⟨hk.1.1, hk.1.2⟩)⟩
    have n1_ : Aside0 ((w19.setCell ⟨gb122, 7, none⟩ (.slice Ao20 y126.length co20)).heap[gb120]? = some (.cells #[.string a1_0, .string a1_1, .slice A1_2 l1_2.length c1_2] 79 (0, 0))) := ⟨by refine bY ?_; refine blk_far ?_ NB120_122.out _; refine bY ?_; exact BK120.out⟩
    have n2_ : Aside0 ((w19.setCell ⟨gb122, 7, none⟩ (.slice Ao20 y126.length co20)).heap[gb121]? = some (.cells #[.string (⟨#[]⟩ : ByteArray), .int .i64 0, .bool false, .int .i64 0, .int .u64 0, .float .f64 0, .string (⟨#[]⟩ : ByteArray), .slice none 0 0] 35 (0, 0))) := ⟨by refine bY ?_; refine blk_far ?_ NB121_122.out _; refine bY ?_; exact BK121.out⟩
    have n3_ : Aside0 ((w19.setCell ⟨gb122, 7, none⟩ (.slice Ao20 y126.length co20)).heap[gb122]? = some (.cells #[.string a0, .int .i64 8, .bool false, .int .i64 0, .int .u64 0, .float .f64 0, .string (⟨#[]⟩ : ByteArray), .slice Ao20 y126.length co20] 35 (0, 0))) := ⟨by refine bY ?_; refine blk_put (cs := #[.string a0, .int .i64 8, .bool false, .int .i64 0, .int .u64 0, .float .f64 0, .string (⟨#[]⟩ : ByteArray), .slice Ao16 y123.length co16]) ?_ 7 _ rfl; refine bY ?_; exact BK122.out⟩
    have n4_ : Aside0 (Below w.heap.size w (w19.setCell ⟨gb122, 7, none⟩ (.slice Ao20 y126.length co20))) := ⟨by repeat (first | (with_reducible first | exact HB.out | apply below_alloc | apply pw_below_drewN | apply below_drew1 | refine below_set ?_ GE120.out | refine below_set ?_ GE121.out | refine below_set ?_ GE122.out) | exact HB.out)⟩
    (try clear HO128)
    (try clear BK120)
    (try clear BK121)
    (try clear BK122)
    (try clear HB)
    generalize (w19.setCell ⟨gb122, 7, none⟩ (.slice Ao20 y126.length co20)) = w22 at n0_ n1_ n2_ n3_ n4_ ⊢
    have HO128 := n0_
    have BK120 := n1_
    have BK121 := n2_
    have BK122 := n3_
    have HB := n4_
    clear n0_ n1_ n2_ n3_ n4_
    have n0_ := Aside0.mk (Kd.R_drew HO128.out)
    have n1_ := Aside0.mk (blk_drew BK120.out)
    have n2_ := Aside0.mk (blk_drew BK121.out)
    have n3_ := Aside0.mk (blk_drew BK122.out)
    have n4_ := Aside0.mk (below_drew1 HB.out)
    clear HO128
    clear BK120
    clear BK121
    clear BK122
    clear HB
    have HO128 := n0_
    have BK120 := n1_
    have BK121 := n2_
    have BK122 := n3_
    have HB := n4_
    clear n0_ n1_ n2_ n3_ n4_
    refine start_ (n := 9) (S := fun w' => w'.cell? ⟨gb122, 0, none⟩ = some (.string a0) ∧ w'.cell? ⟨gb122, 1, none⟩ = some (.int .i64 8) ∧ w'.cell? ⟨gb122, 2, none⟩ = some (.bool false) ∧ w'.cell? ⟨gb122, 3, none⟩ = some (.int .i64 0) ∧ w'.cell? ⟨gb122, 4, none⟩ = some (.int .u64 0) ∧ w'.cell? ⟨gb122, 5, none⟩ = some (.float .f64 0) ∧ w'.cell? ⟨gb122, 6, none⟩ = some (.string (⟨#[]⟩ : ByteArray)) ∧ w'.cell? ⟨gb122, 7, none⟩ = some (.slice Ao20 y126.length co20) ∧ w'.cell? ⟨gb120, 0, none⟩ = some (.string a1_0) ∧ w'.cell? ⟨gb120, 1, none⟩ = some (.string a1_1) ∧ w'.cell? ⟨gb120, 2, none⟩ = some (.slice A1_2 l1_2.length c1_2)) (ds := [8]) (tfA 0 9) (by kernel_rfl) rfl rfl ⟨(blk_cell BK122.out 0).trans rfl, (blk_cell BK122.out 1).trans rfl, (blk_cell BK122.out 2).trans rfl, (blk_cell BK122.out 3).trans rfl, (blk_cell BK122.out 4).trans rfl, (blk_cell BK122.out 5).trans rfl, (blk_cell BK122.out 6).trans rfl, (blk_cell BK122.out 7).trans rfl, (blk_cell BK120.out 0).trans rfl, (blk_cell BK120.out 1).trans rfl, (blk_cell BK120.out 2).trans rfl⟩ (fun hHeld => ?_); refine with_tabW impl_procfsBuddyInfo.tab4 impl_procfsBuddyInfo.bits4 (fun HT_ HW_ => ?_)
    generalize w22.drew = w23 at HO128 BK120 BK121 BK122 HB hHeld ⊢
    refine pure_ (i := 0) (N := some 24) (v := ?_) (a' := ?_) (tfA 1 8) rfl rfl (any_of HT_.out (by kernel_rfl)) (fun _ _ _ h => h) (Or.inl ⟨by rfl, ?_⟩) ?_ ?_
    rotate_left
    ·intro w'
     go_simp
     with_reducible rfl
    rotate_left
    ·simp only [Act.put, sA, s0, s1, i64_w, i32_w]
     rfl
    refine pure_ (i := 2) (N := some 26) (v := ?_) (a' := ?_) (bnA 9 5) rfl rfl (any_of HT_.out (by kernel_rfl)) (fun _ _ _ h => h) (Or.inl ⟨by rfl, ?_⟩) ?_ ?_
    rotate_left
    ·intro w'
     go_simp
     with_reducible rfl
    rotate_left
    ·simp only [Act.put, sA, s0, s1, i64_w, i32_w]
     rfl
    refine take_ (i := 1) (N := some 25) (v := ?_) (a' := ?_) (tfA 3 6) rfl rfl (take_ofW HT_.out HW_.out (by kernel_rfl)) (fun _ _ _ h => h) (Or.inl ⟨by rfl, ?_⟩) hHeld ?_ ?_
    rotate_left
    ·rintro w' ⟨s0, s1, s2, s3, s4, s5, s6, s7, s8, s9, s10⟩
     go_simp
     with_reducible rfl
    rotate_left
    ·simp only [Act.put, sA, s0, s1, i64_w, i32_w]
     rfl
    refine take_ (i := 3) (N := some 27) (v := ?_) (a' := ?_) (tfA 4 5) rfl rfl (take_ofW HT_.out HW_.out (by kernel_rfl)) (fun _ _ _ h => h) (Or.inl ⟨by rfl, ?_⟩) hHeld ?_ ?_
    rotate_left
    ·rintro w' ⟨s0, s1, s2, s3, s4, s5, s6, s7, s8, s9, s10⟩
     go_simp
     with_reducible rfl
    rotate_left
    ·simp only [Act.put, sA, s0, s1, i64_w, i32_w]
     rfl
    refine one_ (i := 4) (N := some 28) (tfA 5 4) rfl rfl (one_of HT_.out (by kernel_rfl)) (by decide) (fun K hK => ?_)
    refine goes_ Tryz.func126 (by kernel_rfl) rfl #[.string (⟨#[83, 105, 122, 101, 115]⟩ : ByteArray), .slice A1_2 l1_2.length c1_2, .func (.func 127) #[] #[]] (by rfl) rfl rfl (by (try simp only [List.map_toArray, List.map_cons, List.map_nil]); first | done | rfl | (simp only [List.length_drop, List.length_take]; rfl)) ?_
    with_reducible refine (impl_list_float64___sizes.calls k (⟨#[83, 105, 122, 101, 115]⟩ : ByteArray) _ _ l1_2  t129 t130 t131 t132 t133 t134 t135 t136 _ ?side1 ?side2 A5.out).mono ?_
    (case side1 => repeat (first | exact (Kd.C_below HR1_2.out HB.out) | (with_reducible refine Kd.C_alloc ?_ _) | (with_reducible refine Kd.C_drewN ?_ _) | (with_reducible refine Kd.C_drew ?_)))
    (case side2 => exact HC1_2.out)
    rintro e w24 ⟨v137, rfl, ho0, hb⟩
    refine ⟨_, rfl, ?_⟩
    have n0_ := Aside0.mk (Kd.R_elder' (by (with_reducible repeat (first | apply Kd.R_alloc | apply Kd.R_drewN | apply Kd.R_drew)); exact HO128.out) (Kd.R_base ho0) hb)
    have n1_ := Aside0.mk (Kd.R_lower (Kd.R_newB (Kd.R_newB (Kd.R_new' ho0 (Kd.R_lt (by (with_reducible repeat (first | apply Kd.R_alloc | apply Kd.R_drewN | apply Kd.R_drew)); exact HO128.out))) (g := gb121) (o := .cells #[.string (⟨#[]⟩ : ByteArray), .int .i64 0, .bool false, .int .i64 0, .int .u64 0, .float .f64 0, .string (⟨#[]⟩ : ByteArray), .slice none 0 0] 35 (0, 0)) (by refine bY ?_; exact BK121.out)) (g := gb122) (o := .cells #[.string a0, .int .i64 8, .bool false, .int .i64 0, .int .u64 0, .float .f64 0, .string (⟨#[]⟩ : ByteArray), .slice Ao20 y126.length co20] 35 (0, 0)) (by refine bY ?_; exact BK122.out)) (below_size belS))
    have n2_ := Aside0.mk (blk_below (g := gb120) (o := .cells #[.string a1_0, .string a1_1, .slice A1_2 l1_2.length c1_2] 79 (0, 0)) (by refine bY ?_; exact BK120.out) hb)
    have n3_ := Aside0.mk (blk_below (g := gb121) (o := .cells #[.string (⟨#[]⟩ : ByteArray), .int .i64 0, .bool false, .int .i64 0, .int .u64 0, .float .f64 0, .string (⟨#[]⟩ : ByteArray), .slice none 0 0] 35 (0, 0)) (by refine bY ?_; exact BK121.out) hb)
    have n4_ := Aside0.mk (blk_below (g := gb122) (o := .cells #[.string a0, .int .i64 8, .bool false, .int .i64 0, .int .u64 0, .float .f64 0, .string (⟨#[]⟩ : ByteArray), .slice Ao20 y126.length co20] 35 (0, 0)) (by refine bY ?_; exact BK122.out) hb)
    have n5_ := Aside0.mk (below_step belS hb)
    clear HO128
    clear BK120
    clear BK121
    clear BK122
    clear HB
    have HO128 := n0_
    have HO138 := n1_
    have BK120 := n2_
    have BK121 := n3_
    have BK122 := n4_
    have HB := n5_
    clear n0_ n1_ n2_ n3_ n4_ n5_
    (try clear hb)
    (try clear hb2)
    (try clear hk)
    (try clear hi)
    (try clear ho0)
    obtain ⟨Ao26, co26, eo26⟩ := Kd.R_slice HO138.out
    (first | subst eo26 | (injection eo26 with f1_ f2_ f3_; have f4_ := f1_.symm; have f5_ := f3_.symm; clear f1_ f2_ f3_; subst f4_; subst f5_))
    refine hK.out _ _ ⟨(blk_cell BK122.out 0).trans rfl, (blk_cell BK122.out 1).trans rfl, (blk_cell BK122.out 2).trans rfl, (blk_cell BK122.out 3).trans rfl, (blk_cell BK122.out 4).trans rfl, (blk_cell BK122.out 5).trans rfl, (blk_cell BK122.out 6).trans rfl, (blk_cell BK122.out 7).trans rfl, (blk_cell BK120.out 0).trans rfl, (blk_cell BK120.out 1).trans rfl, (blk_cell BK120.out 2).trans rfl⟩ (fun hHeld => ?_)
    clear hK K
    refine norm_ (a' := ?_) ?_ ?_
    rotate_left
    ·show Act.put _ (some 28) _ = _
     simp only [Act.put, sA, s0, s1, i64_w, i32_w]
     rfl
    refine one_ (i := 5) (N := some 29) (tfA 6 3) rfl rfl (one_of HT_.out (by kernel_rfl)) (by decide) (fun K hK => ?_)
    refine value_ (w1 := ?_) (v := ?_) (by rfl) rfl ?_ ?_
    rotate_left 2
    ·go_simp
     constructor
     ·rfl
     ·rfl
    refine hK.out _ _ ⟨(blk_cell (blk_alloc BK122.out _) 0).trans rfl, (blk_cell (blk_alloc BK122.out _) 1).trans rfl, (blk_cell (blk_alloc BK122.out _) 2).trans rfl, (blk_cell (blk_alloc BK122.out _) 3).trans rfl, (blk_cell (blk_alloc BK122.out _) 4).trans rfl, (blk_cell (blk_alloc BK122.out _) 5).trans rfl, (blk_cell (blk_alloc BK122.out _) 6).trans rfl, (blk_cell (blk_alloc BK122.out _) 7).trans rfl, (blk_cell (blk_alloc BK120.out _) 0).trans rfl, (blk_cell (blk_alloc BK120.out _) 1).trans rfl, (blk_cell (blk_alloc BK120.out _) 2).trans rfl⟩ (fun hHeld => ?_)
    clear hK K
    refine norm_ (a' := ?_) ?_ ?_
    rotate_left
    ·show Act.put _ (some 29) _ = _
     simp only [Act.put, sA, s0, s1, i64_w, i32_w]
     rfl
    refine one_ (i := 6) (N := some 30) (tfA 7 2) rfl rfl (one_of HT_.out (by kernel_rfl)) (by decide) (fun K hK => ?_)
    refine Kd.R_append_step k35 (w0 := w) w.heap.size (by rfl) (.tmp 25) (.tmp 29) 33 35 (.agg #[(.string ⟨#[]⟩), (.int .i64 0), (.bool false), (.int .i64 0), (.int .u64 0), (.float .f64 0), (.string ⟨#[]⟩), (.slice none 0 0)]) 96 rfl Tryz.underlying33 info35 rfl (by decide) (by omega) (.slice Ao20 y126.length co20) y126 (⟨t129, t130, t131, t132, t133, t134, t135, t136⟩ : S35) [.string t129, .int .i64 t130, .bool t131, .int .i64 t132, .int .u64 t133, .float .f64 t134, .string t135, .slice Ao26 t136.length co26] (fun k_ => k_ ≠ gb121 ∧ k_ ≠ gb122) (fun k_ => ((fun k_ => k_ ≠ gb121 ∧ k_ ≠ gb122)) k_ ∧ some k_ ≠ (.slice Ao20 y126.length co20 : Value).ownBlock) rfl rfl ?aP (fun _ hk => hk) ?aF ?aO ?aB ?aS ?aL ?_
    (case aP => exact k35_mkM _ _ _ (⟨t129, t130, t131, t132, t133, t134, t135, t136⟩ : S35) (Kd.R_mono (HO138.out) (fun k_ hk => ⟨⟨hk.1.2, hk.2⟩, hk.1.1.2⟩)))
    (case aB => exact belS)
    (case aF => exact (fun k_ hk => ⟨Kd.freshB (g := gb121) (o := .cells #[.string (⟨#[]⟩ : ByteArray), .int .i64 0, .bool false, .int .i64 0, .int .u64 0, .float .f64 0, .string (⟨#[]⟩ : ByteArray), .slice none 0 0] 35 (0, 0)) (by refine bY ?_; exact BK121.out) k_ hk, Kd.freshB (g := gb122) (o := .cells #[.string a0, .int .i64 8, .bool false, .int .i64 0, .int .u64 0, .float .f64 0, .string (⟨#[]⟩ : ByteArray), .slice Ao20 y126.length co20] 35 (0, 0)) (by refine bY ?_; exact BK122.out) k_ hk⟩))
    (case aO => exact (by (with_reducible repeat (first | apply Kd.R_alloc | apply Kd.R_drewN | apply Kd.R_drew)); exact Kd.R_mono HO128.out (fun _ hk => ⟨hk.1.1, hk.1.2⟩)))
    (case aS => exact (below_size belS))
    (case aL => have := LMc6.out; omega)
    intro v140 w25 ho hb hg hat
    rw [← Ny139.out] at ho
    have n0_ := Aside0.mk (blk_grown (g := gb120) (o := .cells #[.string a1_0, .string a1_1, .slice A1_2 l1_2.length c1_2] 79 (0, 0)) (by refine bY ?_; exact BK120.out) hg (Kd.R_ne HO128.out BK120.out (by decide)))
    have n1_ := Aside0.mk (blk_grown (g := gb121) (o := .cells #[.string (⟨#[]⟩ : ByteArray), .int .i64 0, .bool false, .int .i64 0, .int .u64 0, .float .f64 0, .string (⟨#[]⟩ : ByteArray), .slice none 0 0] 35 (0, 0)) (by refine bY ?_; exact BK121.out) hg (Kd.R_away HO128.out (fun _ hk => hk.1.1)))
    have n2_ := Aside0.mk (blk_grown (g := gb122) (o := .cells #[.string a0, .int .i64 8, .bool false, .int .i64 0, .int .u64 0, .float .f64 0, .string (⟨#[]⟩ : ByteArray), .slice Ao20 y126.length co20] 35 (0, 0)) (by refine bY ?_; exact BK122.out) hg (Kd.R_away HO128.out (fun _ hk => hk.1.2)))
    have n3_ := Aside0.mk (hb)
    have n4_ := Aside0.mk (ho)
    clear BK120
    clear BK121
    clear BK122
    clear HB
    clear HO128
    clear HO138
    have BK120 := n0_
    have BK121 := n1_
    have BK122 := n2_
    have HB := n3_
    have HO141 := n4_
    clear n0_ n1_ n2_ n3_ n4_
    clear ho hb hg hat
    obtain ⟨Ao27, co27, eo27⟩ := Kd.R_slice HO141.out
    (first | subst eo27 | (injection eo27 with f1_ f2_ f3_; have f4_ := f1_.symm; have f5_ := f3_.symm; clear f1_ f2_ f3_; subst f4_; subst f5_))
    refine hK.out _ _ ⟨(blk_cell BK122.out 0).trans rfl, (blk_cell BK122.out 1).trans rfl, (blk_cell BK122.out 2).trans rfl, (blk_cell BK122.out 3).trans rfl, (blk_cell BK122.out 4).trans rfl, (blk_cell BK122.out 5).trans rfl, (blk_cell BK122.out 6).trans rfl, (blk_cell BK122.out 7).trans rfl, (blk_cell BK120.out 0).trans rfl, (blk_cell BK120.out 1).trans rfl, (blk_cell BK120.out 2).trans rfl⟩ (fun hHeld => ?_)
    clear hK K
    refine norm_ (a' := ?_) ?_ ?_
    rotate_left
    ·show Act.put _ (some 30) _ = _
     simp only [Act.put, sA, s0, s1, i64_w, i32_w]
     rfl
    refine pure_ (i := 7) (N := some 31) (v := ?_) (a' := ?_) (tfA 8 1) rfl rfl (any_of HT_.out (by kernel_rfl)) (fun _ _ _ h => h) (Or.inl ⟨by rfl, ?_⟩) ?_ ?_
    rotate_left
    ·intro w'
     go_simp
     with_reducible rfl
    rotate_left
    ·simp only [Act.put, sA, s0, s1, i64_w, i32_w]
     rfl
    refine last_ (i := 8) (N := none) (tfA 9 0) rfl rfl (one_of HT_.out (by kernel_rfl)) (by decide) (fun K hK => ?_)
    have hs28 : w25.cell? ⟨gb122, 7, none⟩ = some (.slice Ao20 y126.length co20) := (blk_cell BK122.out 7).trans rfl
    have hfs28 := blk_frozen BK122.out 7
    have hns28_0 := NB120_122.out
    have hns28_1 := NB121_122.out
    have hms28_0 := NB122_120.out
    have hms28_1 := NB122_121.out
    refine skip_ (w1 := ?_) (by rfl) rfl ?_ ?_
    rotate_left
    ·go_simp
     rfl
    refine hK.out _ _ ?_
    clear hK K
    refine done_ (done_of HT_.out (by kernel_rfl)) ?_
    obtain ⟨hcz29_0, hcz29_1, hcz29_2, hcz29_3, hcz29_4, hcz29_5, hcz29_6, hcz29_7, hfz29_0, hfz29_1, hfz29_2, hfz29_3, hfz29_4, hfz29_5, hfz29_6, hfz29_7⟩ := rows8 (w := w25) BK122
    obtain ⟨hcz30_0, hcz30_1, hcz30_2, hcz30_3, hcz30_4, hcz30_5, hcz30_6, hcz30_7, hfz30_0, hfz30_1, hfz30_2, hfz30_3, hfz30_4, hfz30_5, hfz30_6, hfz30_7⟩ := rows8 (w := w25) BK121
    try go_wp2
    refine bodyPost_ret (results_cell_row rfl _ _ gb121 35 #[.string a0, .int .i64 8, .bool false, .int .i64 0, .int .u64 0, .float .f64 0, .string (⟨#[]⟩ : ByteArray), .slice Ao27 y139.length co27] (0, 0) _ rfl (by refine bY ?_; refine blk_put (cs := #[.string a0, .int .i64 8, .bool false, .int .i64 0, .int .u64 0, .float .f64 0, .string (⟨#[]⟩ : ByteArray), .slice none 0 0]) ?_ 7 _ rfl; refine bY ?_; refine blk_put (cs := #[.string a0, .int .i64 8, .bool false, .int .i64 0, .int .u64 0, .float .f64 0, .string (⟨#[]⟩ : ByteArray), .slice none 0 0]) ?_ 6 _ rfl; refine bY ?_; refine blk_put (cs := #[.string a0, .int .i64 8, .bool false, .int .i64 0, .int .u64 0, .float .f64 0, .string (⟨#[]⟩ : ByteArray), .slice none 0 0]) ?_ 5 _ rfl; refine bY ?_; refine blk_put (cs := #[.string a0, .int .i64 8, .bool false, .int .i64 0, .int .u64 0, .float .f64 0, .string (⟨#[]⟩ : ByteArray), .slice none 0 0]) ?_ 4 _ rfl; refine bY ?_; refine blk_put (cs := #[.string a0, .int .i64 8, .bool false, .int .i64 0, .int .u64 0, .float .f64 0, .string (⟨#[]⟩ : ByteArray), .slice none 0 0]) ?_ 3 _ rfl; refine bY ?_; refine blk_put (cs := #[.string a0, .int .i64 8, .bool false, .int .i64 0, .int .u64 0, .float .f64 0, .string (⟨#[]⟩ : ByteArray), .slice none 0 0]) ?_ 2 _ rfl; refine bY ?_; refine blk_put (cs := #[.string a0, .int .i64 0, .bool false, .int .i64 0, .int .u64 0, .float .f64 0, .string (⟨#[]⟩ : ByteArray), .slice none 0 0]) ?_ 1 _ rfl; refine bY ?_; refine blk_put (cs := #[.string (⟨#[]⟩ : ByteArray), .int .i64 0, .bool false, .int .i64 0, .int .u64 0, .float .f64 0, .string (⟨#[]⟩ : ByteArray), .slice none 0 0]) ?_ 0 _ rfl; refine bY ?_; refine blk_far ?_ NB121_122.out _; refine bY ?_; exact BK121.out) Tryz.underlying35 rfl (by kernel_rfl)) rfl ?_
    exact ⟨_, by first | rfl | (simp [errW_none, errW_some] <;> rfl) | (simp [*, errW_none, errW_some] <;> rfl), by (with_reducible repeat (first | apply Kd.R_alloc | apply Kd.R_drewN | apply Kd.R_drew)); exact Kd.R_mono (Kd.R_far8 (g := gb121) (Kd.R_far (p := ⟨gb122, 7, none⟩) (Kd.R_mono (Kd.R_mono HO141.out (fun k_ hk => (⟨hk, hk.2⟩ : _ ∧ k_ ≠ gb122))) (fun k_ hk => (⟨hk, hk.1.1⟩ : _ ∧ k_ ≠ gb121))) (fun _ hk => hk.1.2) (.slice Ao27 y139.length co27)) (fun _ hk => hk.2) (.string a0) (.int .i64 8) (.bool false) (.int .i64 0) (.int .u64 0) (.float .f64 0) (.string (⟨#[]⟩ : ByteArray)) (.slice Ao27 y139.length co27)) (fun _ hk => trivial), by repeat (first | (with_reducible first | exact HB.out | apply below_alloc | apply pw_below_drewN | apply below_drew1 | refine below_set ?_ GE120.out | refine below_set ?_ GE121.out | refine below_set ?_ GE122.out) | exact HB.out)⟩
   ·rw [if_neg c6] at H
    exact absurd H (by simp)
  ·rw [if_neg c4] at H
   exact absurd H (by simp)
 ·rw [if_neg c3] at H
  exact absurd H (by simp)

/-! ### impl_Buddyinfo_1_1: function 64 -/
def impl_Buddyinfo_1_1.f (k : Nat) (a0_0 : ByteArray) (a0_1 : ByteArray) (l0_2 : List Nat) : Option (ByteArray × Int × Bool × Int × Int × Nat × ByteArray × (List (S35))) := (impl_procfsBuddyInfo.f k (⟨#[]⟩ : ByteArray) a0_0 a0_1 l0_2).bind fun bt144 => (some (bt144.1, bt144.2.1, bt144.2.2.1, bt144.2.2.2.1, bt144.2.2.2.2.1, bt144.2.2.2.2.2.1, bt144.2.2.2.2.2.2.1, bt144.2.2.2.2.2.2.2))
theorem impl_Buddyinfo_1_1.mono : ∀ a0 a1 a2 k, LeO (impl_Buddyinfo_1_1.f k a0 a1 a2) (impl_Buddyinfo_1_1.f (k + 1) a0 a1 a2) := by
 intro a0 a1 a2 k
 unfold impl_Buddyinfo_1_1.f
 repeat' first
   | (with_reducible exact impl_procfsBuddyInfo.mono _ _ _ _ _)
   | (with_reducible exact LeO.refl _)
   | (with_reducible exact LeO.none _)
   | (with_reducible refine LeO.ite ?_ ?_)
   | (with_reducible refine LeO.bind ?_ (fun _ => ?_))
   | exact impl_procfsBuddyInfo.mono _ _ _ _ _
   | exact LeO.none _
   | refine LeO.ite ?_ ?_
   | refine LeO.bind ?_ (fun _ => ?_)
set_option maxHeartbeats 8000000 in
set_option maxRecDepth 100000 in
theorem impl_Buddyinfo_1_1.calls (k : Nat) (a0_0 : ByteArray) (a0_1 : ByteArray) (A0_2 : Option Addr) (c0_2 : Nat) (l0_2 : List Nat) (r1 : ByteArray) (r2 : Int) (r3 : Bool) (r4 : Int) (r5 : Int) (r6 : Nat) (r7 : ByteArray) (r8 : List (S35)) (w : World) (hr0_2 : Kd.C Kd.flt w A0_2 l0_2.length l0_2) (hc0_2 : l0_2.length ≤ c0_2) (h : impl_Buddyinfo_1_1.f k a0_0 a0_1 l0_2 = some (r1, r2, r3, r4, r5, r6, r7, r8)) :
  Calls Tryz.prog 64 #[.agg #[.string a0_0, .string a0_1, .slice A0_2 l0_2.length c0_2]] w fun e w' => ∃ v7_ : Value, e = .returned (.agg #[.string r1, .int .i64 r2, .bool r3, .int .i64 r4, .int .u64 r5, .float .f64 r6, .string r7, v7_]) ∧ Kd.R k35 35 w' w.heap.size (fun _ => True) v7_ r8 ∧ Below w.heap.size w w' := by
 have hu79 := Tryz.underlying79
 have hu35 := Tryz.underlying35
 have HR0_2 := Aside0.mk hr0_2
 have HC0_2 := Aside0.mk hc0_2
 clear hr0_2 hc0_2
 have HB := Aside0.mk (Below.refl w.heap.size w)
 have H : ((impl_procfsBuddyInfo.f k (⟨#[]⟩ : ByteArray) a0_0 a0_1 l0_2).bind fun bt144 => (some (bt144.1, bt144.2.1, bt144.2.2.1, bt144.2.2.2.1, bt144.2.2.2.2.1, bt144.2.2.2.2.2.1, bt144.2.2.2.2.2.2.1, bt144.2.2.2.2.2.2.2))) = some (r1, r2, r3, r4, r5, r6, r7, r8) := h
 clear h
 replace H := Option.bind_eq_some_iff.mp H
 obtain ⟨⟨t144, t145, t146, t147, t148, t149, t150, t151⟩, A20, H⟩ := H
 have A2 := Aside0.mk A20
 clear A20
 simp only [Option.some.injEq, Prod.mk.injEq] at H
 obtain ⟨rfl, rfl, rfl, rfl, rfl, rfl, rfl, rfl⟩ := H
 go_enter Tryz.func64, Tryz.ntmps64
 go_wp2_with (first | ((with_reducible refine gate_dst (N := 1) rfl ?_); refine box_event ?hg (N := 1) ?hd (cs := #[.string a0_0, .string a0_1, .slice A0_2 l0_2.length c0_2]) (t := 79) ?hr ?_; (case hd => rfl); (case hg => rfl); (case hr => first | (go_simp; done) | (go_simp; rfl)); intro gb142 hg w3 hbox hb; have n0_ := Aside0.mk (below_step belH hb); have n1_ := Aside0.mk (hbox); have n2_ := Aside0.mk ((by rw [hg]; exact (below_size belH) : w.heap.size ≤ gb142)); have n3_ := Aside0.mk ((by rw [hg]; exact (below_size belH) : w.heap.size ≤ gb142)); clear HB; have HB := n0_; have BK142 := n1_; have GW142 := n2_; have GE142 := n3_; clear n0_ n1_ n2_ n3_; clear hb hbox hg) | ((with_reducible refine gate_dst (N := 2) rfl ?_); refine box_event ?hg (N := 2) ?hd (cs := #[.string (⟨#[]⟩ : ByteArray), .int .i64 0, .bool false, .int .i64 0, .int .u64 0, .float .f64 0, .string (⟨#[]⟩ : ByteArray), .slice none 0 0]) (t := 35) ?hr ?_; (case hd => rfl); (case hg => rfl); (case hr => first | (go_simp; done) | (go_simp; rfl)); intro gb143 hg w4 hbox hb; have n0_ := Aside0.mk (blk_below (g := gb142) (o := .cells #[.string a0_0, .string a0_1, .slice A0_2 l0_2.length c0_2] 79 (0, 0)) (by refine bY ?_; exact BK142.out) hb); have n1_ := Aside0.mk (below_step belS hb); have n2_ := Aside0.mk (hbox); have n3_ := Aside0.mk ((by rw [hg]; exact (below_size belS) : w.heap.size ≤ gb143)); have n4_ := Aside0.mk ((by rw [hg]; exact (below_size belS) : w.heap.size ≤ gb143)); have n5_ := Aside0.mk ((by rw [hg]; exact Nat.ne_of_lt (blk_lt (g := gb142) (o := .cells #[.string a0_0, .string a0_1, .slice A0_2 l0_2.length c0_2] 79 (0, 0)) (by refine bY ?_; exact BK142.out)) : gb142 ≠ gb143)); have n6_ := Aside0.mk ((by rw [hg]; exact Nat.ne_of_gt (blk_lt (g := gb142) (o := .cells #[.string a0_0, .string a0_1, .slice A0_2 l0_2.length c0_2] 79 (0, 0)) (by refine bY ?_; exact BK142.out)) : gb143 ≠ gb142)); clear BK142; clear HB; have BK142 := n0_; have HB := n1_; have BK143 := n2_; have GW143 := n3_; have GE143 := n4_; have NB142_143 := n5_; have NB143_142 := n6_; clear n0_ n1_ n2_ n3_ n4_ n5_ n6_; clear hb hbox hg; have hnb5 := NB142_143.out; have hnc5 := NB143_142.out; obtain ⟨hcz6_0, hcz6_1, hcz6_2, hfz6_0, hfz6_1, hfz6_2⟩ := rows3 (w := w4) BK142) | ((with_reducible refine gate_callee (f := 65) rfl ?_); refine goesL_ (some 4) rfl rfl Tryz.func65 (by kernel_rfl) rfl #[.string (⟨#[]⟩ : ByteArray), .agg #[.string a0_0, .string a0_1, .slice A0_2 l0_2.length c0_2]] rfl (by (try simp only [List.map_toArray, List.map_cons, List.map_nil]); first | done | rfl | (simp only [List.length_drop, List.length_take]; rfl)) ?_; (with_reducible refine (impl_procfsBuddyInfo.calls k (⟨#[]⟩ : ByteArray) a0_0 a0_1 _ _ l0_2 t144 t145 t146 t147 t148 t149 t150 t151 _ ?side1 ?side2 A2.out).mono ?_); (case side1 => repeat (first | exact (Kd.C_below HR0_2.out HB.out) | (with_reducible refine Kd.C_alloc ?_ _) | (with_reducible refine Kd.C_drewN ?_ _) | (with_reducible refine Kd.C_drew ?_))); (case side2 => exact HC0_2.out); rintro e w7 ⟨v152, rfl, ho0, hb⟩; refine ⟨_, rfl, ?_⟩; have n0_ := Aside0.mk (Kd.R_lower (Kd.R_newB ho0 (g := gb143) (o := .cells #[.string (⟨#[]⟩ : ByteArray), .int .i64 0, .bool false, .int .i64 0, .int .u64 0, .float .f64 0, .string (⟨#[]⟩ : ByteArray), .slice none 0 0] 35 (0, 0)) (by refine bY ?_; exact BK143.out)) (below_size belS)); have n1_ := Aside0.mk (blk_below (g := gb142) (o := .cells #[.string a0_0, .string a0_1, .slice A0_2 l0_2.length c0_2] 79 (0, 0)) (by refine bY ?_; exact BK142.out) hb); have n2_ := Aside0.mk (blk_below (g := gb143) (o := .cells #[.string (⟨#[]⟩ : ByteArray), .int .i64 0, .bool false, .int .i64 0, .int .u64 0, .float .f64 0, .string (⟨#[]⟩ : ByteArray), .slice none 0 0] 35 (0, 0)) (by refine bY ?_; exact BK143.out) hb); have n3_ := Aside0.mk (below_step belS hb); clear BK142; clear BK143; clear HB; have HO153 := n0_; have BK142 := n1_; have BK143 := n2_; have HB := n3_; clear n0_ n1_ n2_ n3_; (try clear hb); (try clear hb2); (try clear hk); (try clear hi); (try clear ho0); obtain ⟨hcz8_0, hcz8_1, hcz8_2, hcz8_3, hcz8_4, hcz8_5, hcz8_6, hcz8_7, hfz8_0, hfz8_1, hfz8_2, hfz8_3, hfz8_4, hfz8_5, hfz8_6, hfz8_7⟩ := rows8 (w := w7) BK143; obtain ⟨Ao9, co9, eo9⟩ := Kd.R_slice HO153.out; subst eo9))
 refine bodyPost_ret (results_cell_row rfl _ _ gb143 35 #[.string t144, .int .i64 t145, .bool t146, .int .i64 t147, .int .u64 t148, .float .f64 t149, .string t150, .slice Ao9 t151.length co9] (0, 0) _ rfl (by refine bY ?_; exact blk_put8 BK143.out) Tryz.underlying35 rfl (by kernel_rfl)) rfl ?_
 exact ⟨_, by first | rfl | (simp [errW_none, errW_some] <;> rfl) | (simp [*, errW_none, errW_some] <;> rfl), by (with_reducible repeat (first | apply Kd.R_alloc | apply Kd.R_drewN | apply Kd.R_drew)); exact Kd.R_mono (Kd.R_far8 (g := gb143) (Kd.R_mono HO153.out (fun k_ hk => (⟨hk, hk.2⟩ : _ ∧ k_ ≠ gb143))) (fun _ hk => hk.2) (.string t144) (.int .i64 t145) (.bool t146) (.int .i64 t147) (.int .u64 t148) (.float .f64 t149) (.string t150) (.slice Ao9 t151.length co9)) (fun _ hk => trivial), by repeat (first | (with_reducible first | exact HB.out | apply below_alloc | apply pw_below_drewN | apply below_drew1 | refine below_set ?_ GE142.out | refine below_set ?_ GE143.out) | exact HB.out)⟩

end Go.Proofs.YtdmpbaanonafbaaGreatDoor.B
