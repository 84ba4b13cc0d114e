-- written by a program of this session (wip/tools/pp.py)
import Derived.Test.YtokojamaigebaaaDoorU0
namespace Go.Proofs.YtokojamaigebaaaDoor.U
open Go.RowKit Go.Proofs.YtokojamaigebaaaDoorW.PrintWords Go.Proofs.YtokojamaigebaaaDoorW.PrintLast Go.Proofs.YtokojamaigebaaaDoor.GivIdx Go.Proofs.YtokojamaigebaaaDoorW.PrintMore
attribute [local go_sem] max2_int min2_int max_two min_two max_three min_three max_four min_four   -- for this text's walks alone
set_option linter.unusedVariables false
set_option linter.unusedSimpArgs false

/-! ### mountinfo_unescape: function 46 -/
def mountinfo_unescape.l0 : Nat → ByteArray → List Int → Int → Int → Option (ByteArray)
 | 0, _, _, _, _ => none
 | k + 1, x0, x3, x4, x5 => if x5 < (x0.size : Int) then (if 0 ≤ x5 then (if (bt x0 x5) = 92 then (if (wrap64 (x5 + 3)) < (x0.size : Int) then (if 0 ≤ (wrap64 (x5 + 1)) then (if (wrap64 (x5 + 1)) < (x0.size : Int) then (if (bt x0 (wrap64 (x5 + 1))) = 48 then (if 0 ≤ (wrap64 (x5 + 2)) then (if (wrap64 (x5 + 2)) < (x0.size : Int) then (if (bt x0 (wrap64 (x5 + 2))) ≥ 48 then (if (bt x0 (wrap64 (x5 + 2))) ≤ 55 then (if 0 ≤ (wrap64 (x5 + 3)) then (if (bt x0 (wrap64 (x5 + 3))) ≥ 48 then (if (bt x0 (wrap64 (x5 + 3))) ≤ 55 then (if 0 ≤ x4 then (if x4 < (x3.length : Int) then (mountinfo_unescape.l0 k x0 (x3.set (x4 : Int).toNat (Go.bits .or .u8 (Go.bits .or .u8 (((((bt x0 (wrap64 (x5 + 1))) - 48) % 256) * 64) % 256) (((((bt x0 (wrap64 (x5 + 2))) - 48) % 256) * 8) % 256)) (((bt x0 (wrap64 (x5 + 3))) - 48) % 256))) (wrap64 (x4 + 1)) (wrap64 ((wrap64 (x5 + 3)) + 1))) else (none)) else (none)) else (if 0 ≤ x4 then (if x4 < (x3.length : Int) then (mountinfo_unescape.l0 k x0 (x3.set (x4 : Int).toNat (bt x0 x5)) (wrap64 (x4 + 1)) (wrap64 (x5 + 1))) else (none)) else (none))) else (if 0 ≤ x4 then (if x4 < (x3.length : Int) then (mountinfo_unescape.l0 k x0 (x3.set (x4 : Int).toNat (bt x0 x5)) (wrap64 (x4 + 1)) (wrap64 (x5 + 1))) else (none)) else (none))) else (none)) else (if 0 ≤ x4 then (if x4 < (x3.length : Int) then (mountinfo_unescape.l0 k x0 (x3.set (x4 : Int).toNat (bt x0 x5)) (wrap64 (x4 + 1)) (wrap64 (x5 + 1))) else (none)) else (none))) else (if 0 ≤ x4 then (if x4 < (x3.length : Int) then (mountinfo_unescape.l0 k x0 (x3.set (x4 : Int).toNat (bt x0 x5)) (wrap64 (x4 + 1)) (wrap64 (x5 + 1))) else (none)) else (none))) else (none)) else (none)) else (if (bt x0 (wrap64 (x5 + 1))) = 49 then (if 0 ≤ (wrap64 (x5 + 2)) then (if (wrap64 (x5 + 2)) < (x0.size : Int) then (if (bt x0 (wrap64 (x5 + 2))) ≥ 48 then (if (bt x0 (wrap64 (x5 + 2))) ≤ 55 then (if 0 ≤ (wrap64 (x5 + 3)) then (if (bt x0 (wrap64 (x5 + 3))) ≥ 48 then (if (bt x0 (wrap64 (x5 + 3))) ≤ 55 then (if 0 ≤ x4 then (if x4 < (x3.length : Int) then (mountinfo_unescape.l0 k x0 (x3.set (x4 : Int).toNat (Go.bits .or .u8 (Go.bits .or .u8 (((((bt x0 (wrap64 (x5 + 1))) - 48) % 256) * 64) % 256) (((((bt x0 (wrap64 (x5 + 2))) - 48) % 256) * 8) % 256)) (((bt x0 (wrap64 (x5 + 3))) - 48) % 256))) (wrap64 (x4 + 1)) (wrap64 ((wrap64 (x5 + 3)) + 1))) else (none)) else (none)) else (if 0 ≤ x4 then (if x4 < (x3.length : Int) then (mountinfo_unescape.l0 k x0 (x3.set (x4 : Int).toNat (bt x0 x5)) (wrap64 (x4 + 1)) (wrap64 (x5 + 1))) else (none)) else (none))) else (if 0 ≤ x4 then (if x4 < (x3.length : Int) then (mountinfo_unescape.l0 k x0 (x3.set (x4 : Int).toNat (bt x0 x5)) (wrap64 (x4 + 1)) (wrap64 (x5 + 1))) else (none)) else (none))) else (none)) else (if 0 ≤ x4 then (if x4 < (x3.length : Int) then (mountinfo_unescape.l0 k x0 (x3.set (x4 : Int).toNat (bt x0 x5)) (wrap64 (x4 + 1)) (wrap64 (x5 + 1))) else (none)) else (none))) else (if 0 ≤ x4 then (if x4 < (x3.length : Int) then (mountinfo_unescape.l0 k x0 (x3.set (x4 : Int).toNat (bt x0 x5)) (wrap64 (x4 + 1)) (wrap64 (x5 + 1))) else (none)) else (none))) else (none)) else (none)) else (if 0 ≤ x4 then (if x4 < (x3.length : Int) then (mountinfo_unescape.l0 k x0 (x3.set (x4 : Int).toNat (bt x0 x5)) (wrap64 (x4 + 1)) (wrap64 (x5 + 1))) else (none)) else (none)))) else (none)) else (none)) else (if 0 ≤ x4 then (if x4 < (x3.length : Int) then (mountinfo_unescape.l0 k x0 (x3.set (x4 : Int).toNat (bt x0 x5)) (wrap64 (x4 + 1)) (wrap64 (x5 + 1))) else (none)) else (none))) else (if 0 ≤ x4 then (if x4 < (x3.length : Int) then (mountinfo_unescape.l0 k x0 (x3.set (x4 : Int).toNat (bt x0 x5)) (wrap64 (x4 + 1)) (wrap64 (x5 + 1))) else (none)) else (none))) else (none)) else (if 0 ≤ x4 then (if x4 ≤ (x3.length : Int) then (some (strOfNums (x3.take (x4 : Int).toNat))) else (none)) else (none))
def mountinfo_unescape.f (k : Nat) (a0 : ByteArray) : Option (ByteArray) := (strings_IndexByte.f a0 92).bind fun t109 => (if t109 = (-1) then (some a0) else (if 0 ≤ (a0.size : Int) then (if ((a0.size : Int) : Int).toNat ≤ 281474976710656 then (mountinfo_unescape.l0 k a0 (List.replicate ((a0.size : Int) : Int).toNat 0) 0 0) else (none)) else (none)))
theorem mountinfo_unescape.mono_l : ∀ k, (∀ y0 y1 y2 y3, LeO (mountinfo_unescape.l0 k y0 y1 y2 y3) (mountinfo_unescape.l0 (k + 1) y0 y1 y2 y3))
 | 0 => fun _ _ _ _ r h => by simp [mountinfo_unescape.l0] at h
 | k + 1 => by
  have ih0 := mountinfo_unescape.mono_l k
  ·intro y0 y1 y2 y3
   unfold mountinfo_unescape.l0
   repeat' first
   | (with_reducible exact ih0 _ _ _ _)
   | (with_reducible exact LeO.refl _)
   | (with_reducible exact LeO.none _)
   | (with_reducible refine LeO.ite ?_ ?_)
   | (with_reducible refine LeO.bind ?_ (fun _ => ?_))
   | exact ih0 _ _ _ _
   | exact LeO.none _
   | refine LeO.ite ?_ ?_
   | refine LeO.bind ?_ (fun _ => ?_)
theorem mountinfo_unescape.mono : ∀ a0 k, LeO (mountinfo_unescape.f k a0) (mountinfo_unescape.f (k + 1) a0) := by
 intro a0 k
 have ih0 := mountinfo_unescape.mono_l k
 unfold mountinfo_unescape.f
 repeat' first
   | (with_reducible exact ih0 _ _ _ _)
   | (with_reducible exact LeO.refl _)
   | (with_reducible exact LeO.none _)
   | (with_reducible refine LeO.ite ?_ ?_)
   | (with_reducible refine LeO.bind ?_ (fun _ => ?_))
   | exact ih0 _ _ _ _
   | exact LeO.none _
   | refine LeO.ite ?_ ?_
   | refine LeO.bind ?_ (fun _ => ?_)
set_option maxHeartbeats 8000000 in
set_option maxRecDepth 100000 in
theorem mountinfo_unescape.calls (k : Nat) (a0 : ByteArray) (r : ByteArray) (w : World) (h : mountinfo_unescape.f k a0 = some r) :
  Calls Tryd.prog 46 #[.string a0] w fun e w' => e = .returned (.string r) ∧ Below w.heap.size w w' := by
 have HB := Aside0.mk (Below.refl w.heap.size w)
 have H : ((strings_IndexByte.f a0 92).bind fun t109 => (if t109 = (-1) then (some a0) else (if 0 ≤ (a0.size : Int) then (if ((a0.size : Int) : Int).toNat ≤ 281474976710656 then (mountinfo_unescape.l0 k a0 (List.replicate ((a0.size : Int) : Int).toNat 0) 0 0) else (none)) else (none)))) = some r := h
 clear h
 replace H := Option.bind_eq_some_iff.mp H
 obtain ⟨t109, A20, H⟩ := H
 have A2 := Aside0.mk A20
 clear A20
 by_cases c3 : t109 = (-1)
 ·rw [if_pos c3] at H
  have c3b0 : (t109 == (-1)) = true := beq_iff_eq.mpr c3
  have c3b1 : (t109 != (-1)) = false := bne_eq_false_iff_eq.mpr c3
  clear c3
  obtain rfl := Option.some.inj H
  go_enter Tryd.func46, Tryd.ntmps46
  go_wp2_with (first | ((with_reducible refine gate_callee (f := 54) rfl ?_); refine goesL_ (some 11) rfl rfl Tryd.func54 (by kernel_rfl) rfl #[.string a0, .int .u8 92] rfl (by (try simp only [List.map_toArray, List.map_cons, List.map_nil]); first | done | rfl | (simp only [List.length_drop, List.length_take]; rfl)) ?_; (with_reducible refine (strings_IndexByte.calls a0 92 t109 _ A2.out).mono ?_); rintro e w' ⟨rfl, ⟨nd, rfl⟩⟩; refine ⟨_, rfl, ?_⟩))
  go_ret
  exact ⟨by first | rfl | (simp [errW_none, errW_some] <;> rfl) | (simp [*, errW_none, errW_some] <;> rfl), by repeat (first | (with_reducible first | exact HB.out | apply below_alloc | apply pw_below_drewN | apply below_drew1) | exact HB.out)⟩
 ·rw [if_neg c3] at H
  have c3b0 : (t109 == (-1)) = false := beq_eq_false_iff_ne.mpr c3
  have c3b1 : (t109 != (-1)) = true := bne_iff_ne.mpr c3
  by_cases c4 : 0 ≤ (a0.size : Int)
  ·rw [if_pos c4] at H
   have c4b0 := eq_true c4
   have c4b1 : decide (0 ≤ (a0.size : Int)) = true := decide_eq_true c4
   clear c4
   by_cases c5 : ((a0.size : Int) : Int).toNat ≤ 281474976710656
   ·rw [if_pos c5] at H
    have c5b0 := eq_true c5
    have c5b1 : decide (((a0.size : Int) : Int).toNat ≤ 281474976710656) = true := decide_eq_true c5
    clear c5
    obtain ⟨y110, hy110⟩ : ∃ y_ : List Int, y_ = (List.replicate ((a0.size : Int) : Int).toNat 0) := ⟨_, rfl⟩
    replace H : (mountinfo_unescape.l0 k a0 y110 0 0) = some r := by first | (rw [hy110]; with_reducible exact H) | (have H2_ := (Option.bind_some _ _).symm.trans H; rw [hy110]; with_reducible exact H2_) | (have H2_ := (Option.bind_some _ _).symm.trans H; with_reducible exact H2_) | with_reducible exact H | (rw [hy110]; exact H) | exact H
    have Ny110 := Aside0.mk hy110
    clear hy110
    have H' := Aside0.mk H
    clear H
    go_enter Tryd.func46, Tryd.ntmps46
    go_wp2_with (first | ((with_reducible refine gate_callee (f := 54) rfl ?_); refine goesL_ (some 11) rfl rfl Tryd.func54 (by kernel_rfl) rfl #[.string a0, .int .u8 92] rfl (by (try simp only [List.map_toArray, List.map_cons, List.map_nil]); first | done | rfl | (simp only [List.length_drop, List.length_take]; rfl)) ?_; (with_reducible refine (strings_IndexByte.calls a0 92 t109 _ A2.out).mono ?_); rintro e w' ⟨rfl, ⟨nd, rfl⟩⟩; refine ⟨_, rfl, ?_⟩) | ((with_reducible refine gate_dst (N := 16) rfl ?_); (try (refine gate_guard (by rfl) ?_; dsimp only)); refine Kd.R_make (Kd.int .u8) _ 5 rfl (N := 16) rfl 82 _ _ rfl (a0.size : Int) rfl rfl Tryd.underlying82 (.int .u8 0) 1 info5 rfl (by decide) (by omega) 0 (ok := fun _ => True) (okp := fun _ => True) rfl (fun _ hk => hk) trivial (of_decide_eq_true (by first | (with_reducible assumption) | assumption)) (Nat.le_trans (Nat.mul_le_mul_right _ (of_decide_eq_true (by first | (with_reducible assumption) | assumption) : (a0.size : Int).toNat ≤ 281474976710656)) (by omega)) (Below.refl _ _) (Nat.le_refl _) ?_; intro v111 w6 ho7 hb hg_ hnew_; clear hg_ hnew_; (first | rw [← Ny110.out] at ho7 | (simp only [Int.reduceToNat] at ho7; rw [← Ny110.out] at ho7)); have n0_ := Aside0.mk (Kd.R_lower ho7 (below_size belH)); have n1_ := Aside0.mk (below_step belH hb); clear HB; have HO112 := n0_; have HB := n1_; clear n0_ n1_; clear hb ho7))
    go_loopg [4, 5] k (fun kq v4 v5 w' => ∃ (x3_1 : List Int) (x4_1 : Int) (x5_1 : Int), v4 = .int .i64 x4_1 ∧ v5 = .int .i64 x5_1 ∧ Aside0 (mountinfo_unescape.l0 kq a0 x3_1 x4_1 x5_1 = some r) ∧ Aside0 (kq ≤ k) ∧ Aside0 (Kd.R (Kd.int .u8) 5 w' w.heap.size (fun _ => True) v111 x3_1) ∧ Aside0 (Below w.heap.size w w'))
    case atStart => exact ⟨(y110), (0), (0), (by first | rfl | (simp; done) | (simp [*]; done) | (simp [bne_nil]; done) | (simp [bne_nil, *]; done)), (by first | rfl | (simp; done) | (simp [*]; done) | (simp [bne_nil]; done) | (simp [bne_nil, *]; done)), H', ⟨Nat.le_refl _⟩, ⟨by (with_reducible repeat (first | apply Kd.R_alloc | apply Kd.R_drewN | apply Kd.R_drew)); exact HO112.out⟩, ⟨by repeat (first | (with_reducible first | exact HB.out | apply below_alloc | apply pw_below_drewN | apply below_drew1) | exact HB.out)⟩⟩
    case round =>
     clear H'
     try clear p2
     try clear c3
     try clear c3b0
     try clear c3b1
     try clear c4
     try clear c4b0
     try clear c4b1
     try clear c5
     try clear c5b0
     try clear c5b1
     obtain ⟨x3_1, x4_1, x5_1, rfl, rfl, HA, HK1, HO_3, HB⟩ := hrel
     cases gk with
     | zero => exact absurd HA.out (by simp [mountinfo_unescape.l0])
     | succ k1 =>
      have H := HA.out
      clear HA
      simp only [mountinfo_unescape.l0] at H
      by_cases c8 : x5_1 < (a0.size : Int)
      ·rw [if_pos c8] at H
       have c8b0 : decide (x5_1 < (a0.size : Int)) = true := decide_eq_true c8
       clear c8
       by_cases c9 : 0 ≤ x5_1
       ·rw [if_pos c9] at H
        have c9b0 : decide (0 ≤ x5_1) = true := decide_eq_true c9
        clear c9
        by_cases c11 : (bt a0 x5_1) = 92
        ·rw [if_pos c11] at H
         have c11b0 : ((bt a0 x5_1) == 92) = true := beq_iff_eq.mpr c11
         have c11b1 : ((bt a0 x5_1) != 92) = false := bne_eq_false_iff_eq.mpr c11
         clear c11
         by_cases c12 : (wrap64 (x5_1 + 3)) < (a0.size : Int)
         ·rw [if_pos c12] at H
          have c12b0 : decide ((wrap64 (x5_1 + 3)) < (a0.size : Int)) = true := decide_eq_true c12
          clear c12
          obtain ⟨ji13, hji13⟩ : ∃ j_ : Int, (wrap64 (x5_1 + 1)) = j_ := ⟨_, rfl⟩
          replace H : (if 0 ≤ (ji13) then (if (ji13) < (a0.size : Int) then (if (bt a0 (ji13)) = 48 then (if 0 ≤ (wrap64 (x5_1 + 2)) then (if (wrap64 (x5_1 + 2)) < (a0.size : Int) then (if (bt a0 (wrap64 (x5_1 + 2))) ≥ 48 then (if (bt a0 (wrap64 (x5_1 + 2))) ≤ 55 then (if 0 ≤ (wrap64 (x5_1 + 3)) then (if (bt a0 (wrap64 (x5_1 + 3))) ≥ 48 then (if (bt a0 (wrap64 (x5_1 + 3))) ≤ 55 then (if 0 ≤ x4_1 then (if x4_1 < (x3_1.length : Int) then (mountinfo_unescape.l0 k1 a0 (x3_1.set (x4_1 : Int).toNat (Go.bits .or .u8 (Go.bits .or .u8 (((((bt a0 (ji13)) - 48) % 256) * 64) % 256) (((((bt a0 (wrap64 (x5_1 + 2))) - 48) % 256) * 8) % 256)) (((bt a0 (wrap64 (x5_1 + 3))) - 48) % 256))) (wrap64 (x4_1 + 1)) (wrap64 ((wrap64 (x5_1 + 3)) + 1))) else (none)) else (none)) else (if 0 ≤ x4_1 then (if x4_1 < (x3_1.length : Int) then (mountinfo_unescape.l0 k1 a0 (x3_1.set (x4_1 : Int).toNat (bt a0 x5_1)) (wrap64 (x4_1 + 1)) ji13) else (none)) else (none))) else (if 0 ≤ x4_1 then (if x4_1 < (x3_1.length : Int) then (mountinfo_unescape.l0 k1 a0 (x3_1.set (x4_1 : Int).toNat (bt a0 x5_1)) (wrap64 (x4_1 + 1)) ji13) else (none)) else (none))) else (none)) else (if 0 ≤ x4_1 then (if x4_1 < (x3_1.length : Int) then (mountinfo_unescape.l0 k1 a0 (x3_1.set (x4_1 : Int).toNat (bt a0 x5_1)) (wrap64 (x4_1 + 1)) ji13) else (none)) else (none))) else (if 0 ≤ x4_1 then (if x4_1 < (x3_1.length : Int) then (mountinfo_unescape.l0 k1 a0 (x3_1.set (x4_1 : Int).toNat (bt a0 x5_1)) (wrap64 (x4_1 + 1)) ji13) else (none)) else (none))) else (none)) else (none)) else (if (bt a0 (ji13)) = 49 then (if 0 ≤ (wrap64 (x5_1 + 2)) then (if (wrap64 (x5_1 + 2)) < (a0.size : Int) then (if (bt a0 (wrap64 (x5_1 + 2))) ≥ 48 then (if (bt a0 (wrap64 (x5_1 + 2))) ≤ 55 then (if 0 ≤ (wrap64 (x5_1 + 3)) then (if (bt a0 (wrap64 (x5_1 + 3))) ≥ 48 then (if (bt a0 (wrap64 (x5_1 + 3))) ≤ 55 then (if 0 ≤ x4_1 then (if x4_1 < (x3_1.length : Int) then (mountinfo_unescape.l0 k1 a0 (x3_1.set (x4_1 : Int).toNat (Go.bits .or .u8 (Go.bits .or .u8 (((((bt a0 (ji13)) - 48) % 256) * 64) % 256) (((((bt a0 (wrap64 (x5_1 + 2))) - 48) % 256) * 8) % 256)) (((bt a0 (wrap64 (x5_1 + 3))) - 48) % 256))) (wrap64 (x4_1 + 1)) (wrap64 ((wrap64 (x5_1 + 3)) + 1))) else (none)) else (none)) else (if 0 ≤ x4_1 then (if x4_1 < (x3_1.length : Int) then (mountinfo_unescape.l0 k1 a0 (x3_1.set (x4_1 : Int).toNat (bt a0 x5_1)) (wrap64 (x4_1 + 1)) ji13) else (none)) else (none))) else (if 0 ≤ x4_1 then (if x4_1 < (x3_1.length : Int) then (mountinfo_unescape.l0 k1 a0 (x3_1.set (x4_1 : Int).toNat (bt a0 x5_1)) (wrap64 (x4_1 + 1)) ji13) else (none)) else (none))) else (none)) else (if 0 ≤ x4_1 then (if x4_1 < (x3_1.length : Int) then (mountinfo_unescape.l0 k1 a0 (x3_1.set (x4_1 : Int).toNat (bt a0 x5_1)) (wrap64 (x4_1 + 1)) ji13) else (none)) else (none))) else (if 0 ≤ x4_1 then (if x4_1 < (x3_1.length : Int) then (mountinfo_unescape.l0 k1 a0 (x3_1.set (x4_1 : Int).toNat (bt a0 x5_1)) (wrap64 (x4_1 + 1)) ji13) else (none)) else (none))) else (none)) else (none)) else (if 0 ≤ x4_1 then (if x4_1 < (x3_1.length : Int) then (mountinfo_unescape.l0 k1 a0 (x3_1.set (x4_1 : Int).toNat (bt a0 x5_1)) (wrap64 (x4_1 + 1)) ji13) else (none)) else (none)))) else (none)) else (none)) = some r := by first | (rw [hji13] at H; exact H) | (simp only [hji13] at H ⊢; exact H)
          have hji13w : (IntKind.i64.wrap (x5_1 + 1)) = ji13 := (i64_w _).trans hji13
          by_cases c14 : 0 ≤ (ji13)
          ·rw [if_pos c14] at H
           have c14b0 : decide (0 ≤ (ji13)) = true := decide_eq_true c14
           clear c14
           by_cases c15 : (ji13) < (a0.size : Int)
           ·rw [if_pos c15] at H
            have c15b0 : decide ((ji13) < (a0.size : Int)) = true := decide_eq_true c15
            clear c15
            by_cases c17 : (bt a0 (ji13)) = 48
            ·rw [if_pos c17] at H
             have c17b0 : ((bt a0 (ji13)) == 48) = true := beq_iff_eq.mpr c17
             have c17b1 : ((bt a0 (ji13)) != 48) = false := bne_eq_false_iff_eq.mpr c17
             clear c17
             obtain ⟨ji18, hji18⟩ : ∃ j_ : Int, (wrap64 (x5_1 + 2)) = j_ := ⟨_, rfl⟩
             replace H : (if 0 ≤ (ji18) then (if (ji18) < (a0.size : Int) then (if (bt a0 (ji18)) ≥ 48 then (if (bt a0 (ji18)) ≤ 55 then (if 0 ≤ (wrap64 (x5_1 + 3)) then (if (bt a0 (wrap64 (x5_1 + 3))) ≥ 48 then (if (bt a0 (wrap64 (x5_1 + 3))) ≤ 55 then (if 0 ≤ x4_1 then (if x4_1 < (x3_1.length : Int) then (mountinfo_unescape.l0 k1 a0 (x3_1.set (x4_1 : Int).toNat (Go.bits .or .u8 (Go.bits .or .u8 (((((bt a0 (ji13)) - 48) % 256) * 64) % 256) (((((bt a0 (ji18)) - 48) % 256) * 8) % 256)) (((bt a0 (wrap64 (x5_1 + 3))) - 48) % 256))) (wrap64 (x4_1 + 1)) (wrap64 ((wrap64 (x5_1 + 3)) + 1))) else (none)) else (none)) else (if 0 ≤ x4_1 then (if x4_1 < (x3_1.length : Int) then (mountinfo_unescape.l0 k1 a0 (x3_1.set (x4_1 : Int).toNat (bt a0 x5_1)) (wrap64 (x4_1 + 1)) ji13) else (none)) else (none))) else (if 0 ≤ x4_1 then (if x4_1 < (x3_1.length : Int) then (mountinfo_unescape.l0 k1 a0 (x3_1.set (x4_1 : Int).toNat (bt a0 x5_1)) (wrap64 (x4_1 + 1)) ji13) else (none)) else (none))) else (none)) else (if 0 ≤ x4_1 then (if x4_1 < (x3_1.length : Int) then (mountinfo_unescape.l0 k1 a0 (x3_1.set (x4_1 : Int).toNat (bt a0 x5_1)) (wrap64 (x4_1 + 1)) ji13) else (none)) else (none))) else (if 0 ≤ x4_1 then (if x4_1 < (x3_1.length : Int) then (mountinfo_unescape.l0 k1 a0 (x3_1.set (x4_1 : Int).toNat (bt a0 x5_1)) (wrap64 (x4_1 + 1)) ji13) else (none)) else (none))) else (none)) else (none)) = some r := by first | (rw [hji18] at H; exact H) | (simp only [hji18] at H ⊢; exact H)
             have hji18w : (IntKind.i64.wrap (x5_1 + 2)) = ji18 := (i64_w _).trans hji18
             by_cases c19 : 0 ≤ (ji18)
             ·rw [if_pos c19] at H
              have c19b0 : decide (0 ≤ (ji18)) = true := decide_eq_true c19
              clear c19
              by_cases c20 : (ji18) < (a0.size : Int)
              ·rw [if_pos c20] at H
               have c20b0 : decide ((ji18) < (a0.size : Int)) = true := decide_eq_true c20
               clear c20
               by_cases c22 : (bt a0 (ji18)) ≥ 48
               ·rw [if_pos c22] at H
                have c22b0 : decide (48 ≤ (bt a0 (ji18))) = true := decide_eq_true c22
                clear c22
                by_cases c24 : (bt a0 (ji18)) ≤ 55
                ·rw [if_pos c24] at H
                 have c24b0 : decide ((bt a0 (ji18)) ≤ 55) = true := decide_eq_true c24
                 clear c24
                 obtain ⟨ji25, hji25⟩ : ∃ j_ : Int, (wrap64 (x5_1 + 3)) = j_ := ⟨_, rfl⟩
                 replace H : (if 0 ≤ (ji25) then (if (bt a0 (ji25)) ≥ 48 then (if (bt a0 (ji25)) ≤ 55 then (if 0 ≤ x4_1 then (if x4_1 < (x3_1.length : Int) then (mountinfo_unescape.l0 k1 a0 (x3_1.set (x4_1 : Int).toNat (Go.bits .or .u8 (Go.bits .or .u8 (((((bt a0 (ji13)) - 48) % 256) * 64) % 256) (((((bt a0 (ji18)) - 48) % 256) * 8) % 256)) (((bt a0 (ji25)) - 48) % 256))) (wrap64 (x4_1 + 1)) (wrap64 ((ji25) + 1))) else (none)) else (none)) else (if 0 ≤ x4_1 then (if x4_1 < (x3_1.length : Int) then (mountinfo_unescape.l0 k1 a0 (x3_1.set (x4_1 : Int).toNat (bt a0 x5_1)) (wrap64 (x4_1 + 1)) ji13) else (none)) else (none))) else (if 0 ≤ x4_1 then (if x4_1 < (x3_1.length : Int) then (mountinfo_unescape.l0 k1 a0 (x3_1.set (x4_1 : Int).toNat (bt a0 x5_1)) (wrap64 (x4_1 + 1)) ji13) else (none)) else (none))) else (none)) = some r := by first | (rw [hji25] at H; exact H) | (simp only [hji25] at H ⊢; exact H)
                 (try rw [hji25] at c12b0)
                 have hji25w : (IntKind.i64.wrap (x5_1 + 3)) = ji25 := (i64_w _).trans hji25
                 by_cases c26 : 0 ≤ (ji25)
                 ·rw [if_pos c26] at H
                  have c26b0 : decide (0 ≤ (ji25)) = true := decide_eq_true c26
                  clear c26
                  by_cases c28 : (bt a0 (ji25)) ≥ 48
                  ·rw [if_pos c28] at H
                   have c28b0 : decide (48 ≤ (bt a0 (ji25))) = true := decide_eq_true c28
                   clear c28
                   by_cases c30 : (bt a0 (ji25)) ≤ 55
                   ·rw [if_pos c30] at H
                    have c30b0 : decide ((bt a0 (ji25)) ≤ 55) = true := decide_eq_true c30
                    clear c30
                    by_cases c34 : 0 ≤ x4_1
                    ·rw [if_pos c34] at H
                     have c34b0 : decide (0 ≤ x4_1) = true := decide_eq_true c34
                     clear c34
                     by_cases c35 : x4_1 < (x3_1.length : Int)
                     ·rw [if_pos c35] at H
                      have c35b0 : decide (x4_1 < (x3_1.length : Int)) = true := decide_eq_true c35
                      clear c35
                      obtain ⟨y113, hy113⟩ : ∃ y_ : List Int, y_ = (x3_1.set (x4_1 : Int).toNat (Go.bits .or .u8 (Go.bits .or .u8 (((((bt a0 (ji13)) - 48) % 256) * 64) % 256) (((((bt a0 (ji18)) - 48) % 256) * 8) % 256)) (((bt a0 (ji25)) - 48) % 256))) := ⟨_, rfl⟩
                      replace H : (mountinfo_unescape.l0 k1 a0 y113 (wrap64 (x4_1 + 1)) (wrap64 ((ji25) + 1))) = some r := by first | (rw [hy113]; with_reducible exact H) | (have H2_ := (Option.bind_some _ _).symm.trans H; rw [hy113]; with_reducible exact H2_) | (have H2_ := (Option.bind_some _ _).symm.trans H; with_reducible exact H2_) | with_reducible exact H | (rw [hy113]; exact H) | exact H
                      have Ny113 := Aside0.mk hy113
                      clear hy113
                      have H' := Aside0.mk H
                      clear H
                      have p10 : 0 ≤ (x5_1 : Int) := of_decide_eq_true (by first | (with_reducible assumption) | assumption)
                      have q10 : x5_1 < (a0.size : Int) := of_decide_eq_true (by first | (with_reducible assumption) | assumption)
                      have hx10 := bt_at a0 x5_1
                      replace p10 := eq_true p10
                      replace q10 := eq_true q10
                      have p16 : 0 ≤ ((ji13) : Int) := of_decide_eq_true (by first | (with_reducible assumption) | assumption)
                      have q16 : (ji13) < (a0.size : Int) := of_decide_eq_true (by first | (with_reducible assumption) | assumption)
                      have hx16 := bt_at a0 (ji13)
                      replace p16 := eq_true p16
                      replace q16 := eq_true q16
                      have p21 : 0 ≤ ((ji18) : Int) := of_decide_eq_true (by first | (with_reducible assumption) | assumption)
                      have q21 : (ji18) < (a0.size : Int) := of_decide_eq_true (by first | (with_reducible assumption) | assumption)
                      have hx21 := bt_at a0 (ji18)
                      replace p21 := eq_true p21
                      replace q21 := eq_true q21
                      have p23 : 0 ≤ ((ji18) : Int) := of_decide_eq_true (by first | (with_reducible assumption) | assumption)
                      have q23 : (ji18) < (a0.size : Int) := of_decide_eq_true (by first | (with_reducible assumption) | assumption)
                      have hx23 := bt_at a0 (ji18)
                      replace p23 := eq_true p23
                      replace q23 := eq_true q23
                      have p27 : 0 ≤ ((ji25) : Int) := of_decide_eq_true (by first | (with_reducible assumption) | assumption)
                      have q27 : (ji25) < (a0.size : Int) := of_decide_eq_true (by first | (with_reducible assumption) | assumption)
                      have hx27 := bt_at a0 (ji25)
                      replace p27 := eq_true p27
                      replace q27 := eq_true q27
                      have p29 : 0 ≤ ((ji25) : Int) := of_decide_eq_true (by first | (with_reducible assumption) | assumption)
                      have q29 : (ji25) < (a0.size : Int) := of_decide_eq_true (by first | (with_reducible assumption) | assumption)
                      have hx29 := bt_at a0 (ji25)
                      replace p29 := eq_true p29
                      replace q29 := eq_true q29
                      have p31 : 0 ≤ ((ji13) : Int) := of_decide_eq_true (by first | (with_reducible assumption) | assumption)
                      have q31 : (ji13) < (a0.size : Int) := of_decide_eq_true (by first | (with_reducible assumption) | assumption)
                      have hx31 := bt_at a0 (ji13)
                      replace p31 := eq_true p31
                      replace q31 := eq_true q31
                      have p32 : 0 ≤ ((ji18) : Int) := of_decide_eq_true (by first | (with_reducible assumption) | assumption)
                      have q32 : (ji18) < (a0.size : Int) := of_decide_eq_true (by first | (with_reducible assumption) | assumption)
                      have hx32 := bt_at a0 (ji18)
                      replace p32 := eq_true p32
                      replace q32 := eq_true q32
                      have p33 : 0 ≤ ((ji25) : Int) := of_decide_eq_true (by first | (with_reducible assumption) | assumption)
                      have q33 : (ji25) < (a0.size : Int) := of_decide_eq_true (by first | (with_reducible assumption) | assumption)
                      have hx33 := bt_at a0 (ji25)
                      replace p33 := eq_true p33
                      replace q33 := eq_true q33
                      have p36 : 0 ≤ (x4_1 : Int) := of_decide_eq_true (by first | (with_reducible assumption) | assumption)
                      have q36 : (x4_1 : Int) < ((x3_1.length : Int) : Int) := of_decide_eq_true (by first | (with_reducible assumption) | assumption)
                      obtain ⟨go36, co36, eo36, gb36, gl36, cl36, HG36⟩ := Kd.R_form HO_3.out (by omega)
                      (first | cases eo36 | (injection eo36 with ea_ en_ ec_; (first | subst ea_ | (injection ea_ with ea_; subst ea_)); subst ec_; clear en_))
                      have GB36 := Aside0.mk gb36
                      have GG36 := Aside0.mk HG36
                      clear gb36 gl36 HG36
                      obtain ⟨hx36_0, hf36_0⟩ := Kd.R_celln 0 HO_3.out (x4_1 : Int) p36 q36
                      replace p36 := eq_true p36
                      replace q36 := eq_true q36
                      have HP37 := Kd.R_putg HO_3.out (x4_1 : Int) (Go.bits .or .u8 (Go.bits .or .u8 (((((bt a0 (ji13)) - 48) % 256) * 64) % 256) (((((bt a0 (ji18)) - 48) % 256) * 8) % 256)) (((bt a0 (ji25)) - 48) % 256))
                      go_wp2_with (first | ((with_reducible refine gate_store (t := 5) (p := 104) rfl ?_); refine store_event (t := 5) (p := 104) (v := ?vo_w38) (w1 := (wr.setCell ⟨go36, (x4_1 : Int).toNat, none⟩ (.int .u8 (Go.bits .or .u8 (Go.bits .or .u8 (((((bt a0 (ji13)) - 48) % 256) * 64) % 256) (((((bt a0 (ji18)) - 48) % 256) * 8) % 256)) (((bt a0 (ji25)) - 48) % 256))))) ?hg ?ho ?hn ?hr ?_; (case ho => rfl); (case hg => rfl); (case hn => rfl); (case hr => first | (go_simp; done) | (go_simp; rfl)); intro w38 hw; have hg : wr.grownBy w38 (some go36) := (by rw [hw]; exact HP37.2); have hp_ : Kd.R (Kd.int .u8) 5 w38 w.heap.size (fun _ => True) (.slice (some ⟨go36, 0, none⟩) x3_1.length co36) y113 := (by rw [hw, Ny113.out]; exact HP37.1); clear HP37; have n0_ := Aside0.mk (hp_); have n1_ := Aside0.mk ((by rw [hw]; exact below_set (HB.out) GB36.out : Below w.heap.size w w38)); clear HO_3; clear HB; have HO_3 := n0_; have HB := n1_; clear n0_ n1_; clear hg hw hp_))
                      go_roundg k1
                      case measure => have := HK1.out; omega
                      case rel => exact ⟨(y113), (wrap64 (x4_1 + 1)), (wrap64 ((ji25) + 1)), (by first | rfl | (simp; done) | (simp [*]; done) | (simp [bne_nil]; done) | (simp [bne_nil, *]; done)), (by first | rfl | (simp; done) | (simp only [← hji25] <;> (first | rfl | simp)) | (simp [*]; done)), H', ⟨by have := HK1.out; omega⟩, ⟨by (with_reducible repeat (first | apply Kd.R_alloc | apply Kd.R_drewN | apply Kd.R_drew)); exact HO_3.out⟩, ⟨by repeat (first | (with_reducible first | exact HB.out | apply below_alloc | apply pw_below_drewN | apply below_drew1) | exact HB.out)⟩⟩
                     ·rw [if_neg c35] at H
                      exact absurd H (by simp)
                    ·rw [if_neg c34] at H
                     exact absurd H (by simp)
                   ·rw [if_neg c30] at H
                    have c30b0 : decide ((bt a0 (ji25)) ≤ 55) = false := decide_eq_false c30
                    clear c30
                    by_cases c39 : 0 ≤ x4_1
                    ·rw [if_pos c39] at H
                     have c39b0 : decide (0 ≤ x4_1) = true := decide_eq_true c39
                     clear c39
                     by_cases c40 : x4_1 < (x3_1.length : Int)
                     ·rw [if_pos c40] at H
                      have c40b0 : decide (x4_1 < (x3_1.length : Int)) = true := decide_eq_true c40
                      clear c40
                      obtain ⟨y114, hy114⟩ : ∃ y_ : List Int, y_ = (x3_1.set (x4_1 : Int).toNat (bt a0 x5_1)) := ⟨_, rfl⟩
                      replace H : (mountinfo_unescape.l0 k1 a0 y114 (wrap64 (x4_1 + 1)) ji13) = some r := by first | (rw [hy114]; with_reducible exact H) | (have H2_ := (Option.bind_some _ _).symm.trans H; rw [hy114]; with_reducible exact H2_) | (have H2_ := (Option.bind_some _ _).symm.trans H; with_reducible exact H2_) | with_reducible exact H | (rw [hy114]; exact H) | exact H
                      have Ny114 := Aside0.mk hy114
                      clear hy114
                      have H' := Aside0.mk H
                      clear H
                      have p10 : 0 ≤ (x5_1 : Int) := of_decide_eq_true (by first | (with_reducible assumption) | assumption)
                      have q10 : x5_1 < (a0.size : Int) := of_decide_eq_true (by first | (with_reducible assumption) | assumption)
                      have hx10 := bt_at a0 x5_1
                      replace p10 := eq_true p10
                      replace q10 := eq_true q10
                      have p16 : 0 ≤ ((ji13) : Int) := of_decide_eq_true (by first | (with_reducible assumption) | assumption)
                      have q16 : (ji13) < (a0.size : Int) := of_decide_eq_true (by first | (with_reducible assumption) | assumption)
                      have hx16 := bt_at a0 (ji13)
                      replace p16 := eq_true p16
                      replace q16 := eq_true q16
                      have p21 : 0 ≤ ((ji18) : Int) := of_decide_eq_true (by first | (with_reducible assumption) | assumption)
                      have q21 : (ji18) < (a0.size : Int) := of_decide_eq_true (by first | (with_reducible assumption) | assumption)
                      have hx21 := bt_at a0 (ji18)
                      replace p21 := eq_true p21
                      replace q21 := eq_true q21
                      have p23 : 0 ≤ ((ji18) : Int) := of_decide_eq_true (by first | (with_reducible assumption) | assumption)
                      have q23 : (ji18) < (a0.size : Int) := of_decide_eq_true (by first | (with_reducible assumption) | assumption)
                      have hx23 := bt_at a0 (ji18)
                      replace p23 := eq_true p23
                      replace q23 := eq_true q23
                      have p27 : 0 ≤ ((ji25) : Int) := of_decide_eq_true (by first | (with_reducible assumption) | assumption)
                      have q27 : (ji25) < (a0.size : Int) := of_decide_eq_true (by first | (with_reducible assumption) | assumption)
                      have hx27 := bt_at a0 (ji25)
                      replace p27 := eq_true p27
                      replace q27 := eq_true q27
                      have p29 : 0 ≤ ((ji25) : Int) := of_decide_eq_true (by first | (with_reducible assumption) | assumption)
                      have q29 : (ji25) < (a0.size : Int) := of_decide_eq_true (by first | (with_reducible assumption) | assumption)
                      have hx29 := bt_at a0 (ji25)
                      replace p29 := eq_true p29
                      replace q29 := eq_true q29
                      have p41 : 0 ≤ (x4_1 : Int) := of_decide_eq_true (by first | (with_reducible assumption) | assumption)
                      have q41 : (x4_1 : Int) < ((x3_1.length : Int) : Int) := of_decide_eq_true (by first | (with_reducible assumption) | assumption)
                      obtain ⟨go41, co41, eo41, gb41, gl41, cl41, HG41⟩ := Kd.R_form HO_3.out (by omega)
                      (first | cases eo41 | (injection eo41 with ea_ en_ ec_; (first | subst ea_ | (injection ea_ with ea_; subst ea_)); subst ec_; clear en_))
                      have GB41 := Aside0.mk gb41
                      have GG41 := Aside0.mk HG41
                      clear gb41 gl41 HG41
                      obtain ⟨hx41_0, hf41_0⟩ := Kd.R_celln 0 HO_3.out (x4_1 : Int) p41 q41
                      replace p41 := eq_true p41
                      replace q41 := eq_true q41
                      have HP42 := Kd.R_putg HO_3.out (x4_1 : Int) (bt a0 x5_1)
                      go_wp2_with (first | ((with_reducible refine gate_store (t := 5) (p := 104) rfl ?_); refine store_event (t := 5) (p := 104) (v := ?vo_w43) (w1 := (wr.setCell ⟨go41, (x4_1 : Int).toNat, none⟩ (.int .u8 (bt a0 x5_1)))) ?hg ?ho ?hn ?hr ?_; (case ho => rfl); (case hg => rfl); (case hn => rfl); (case hr => first | (go_simp; done) | (go_simp; rfl)); intro w43 hw; have hg : wr.grownBy w43 (some go41) := (by rw [hw]; exact HP42.2); have hp_ : Kd.R (Kd.int .u8) 5 w43 w.heap.size (fun _ => True) (.slice (some ⟨go41, 0, none⟩) x3_1.length co41) y114 := (by rw [hw, Ny114.out]; exact HP42.1); clear HP42; have n0_ := Aside0.mk (hp_); have n1_ := Aside0.mk ((by rw [hw]; exact below_set (HB.out) GB41.out : Below w.heap.size w w43)); clear HO_3; clear HB; have HO_3 := n0_; have HB := n1_; clear n0_ n1_; clear hg hw hp_))
                      go_roundg k1
                      case measure => have := HK1.out; omega
                      case rel => exact ⟨(y114), (wrap64 (x4_1 + 1)), (ji13), (by first | rfl | (simp; done) | (simp [*]; done) | (simp [bne_nil]; done) | (simp [bne_nil, *]; done)), (by first | rfl | (simp; done) | (simp only [← hji13] <;> (first | rfl | simp)) | (simp [*]; done)), H', ⟨by have := HK1.out; omega⟩, ⟨by (with_reducible repeat (first | apply Kd.R_alloc | apply Kd.R_drewN | apply Kd.R_drew)); exact HO_3.out⟩, ⟨by repeat (first | (with_reducible first | exact HB.out | apply below_alloc | apply pw_below_drewN | apply below_drew1) | exact HB.out)⟩⟩
                     ·rw [if_neg c40] at H
                      exact absurd H (by simp)
                    ·rw [if_neg c39] at H
                     exact absurd H (by simp)
                  ·rw [if_neg c28] at H
                   have c28b0 : decide (48 ≤ (bt a0 (ji25))) = false := decide_eq_false c28
                   clear c28
                   by_cases c44 : 0 ≤ x4_1
                   ·rw [if_pos c44] at H
                    have c44b0 : decide (0 ≤ x4_1) = true := decide_eq_true c44
                    clear c44
                    by_cases c45 : x4_1 < (x3_1.length : Int)
                    ·rw [if_pos c45] at H
                     have c45b0 : decide (x4_1 < (x3_1.length : Int)) = true := decide_eq_true c45
                     clear c45
                     obtain ⟨y115, hy115⟩ : ∃ y_ : List Int, y_ = (x3_1.set (x4_1 : Int).toNat (bt a0 x5_1)) := ⟨_, rfl⟩
                     replace H : (mountinfo_unescape.l0 k1 a0 y115 (wrap64 (x4_1 + 1)) ji13) = some r := by first | (rw [hy115]; with_reducible exact H) | (have H2_ := (Option.bind_some _ _).symm.trans H; rw [hy115]; with_reducible exact H2_) | (have H2_ := (Option.bind_some _ _).symm.trans H; with_reducible exact H2_) | with_reducible exact H | (rw [hy115]; exact H) | exact H
                     have Ny115 := Aside0.mk hy115
                     clear hy115
                     have H' := Aside0.mk H
                     clear H
                     have p10 : 0 ≤ (x5_1 : Int) := of_decide_eq_true (by first | (with_reducible assumption) | assumption)
                     have q10 : x5_1 < (a0.size : Int) := of_decide_eq_true (by first | (with_reducible assumption) | assumption)
                     have hx10 := bt_at a0 x5_1
                     replace p10 := eq_true p10
                     replace q10 := eq_true q10
                     have p16 : 0 ≤ ((ji13) : Int) := of_decide_eq_true (by first | (with_reducible assumption) | assumption)
                     have q16 : (ji13) < (a0.size : Int) := of_decide_eq_true (by first | (with_reducible assumption) | assumption)
                     have hx16 := bt_at a0 (ji13)
                     replace p16 := eq_true p16
                     replace q16 := eq_true q16
                     have p21 : 0 ≤ ((ji18) : Int) := of_decide_eq_true (by first | (with_reducible assumption) | assumption)
                     have q21 : (ji18) < (a0.size : Int) := of_decide_eq_true (by first | (with_reducible assumption) | assumption)
                     have hx21 := bt_at a0 (ji18)
                     replace p21 := eq_true p21
                     replace q21 := eq_true q21
                     have p23 : 0 ≤ ((ji18) : Int) := of_decide_eq_true (by first | (with_reducible assumption) | assumption)
                     have q23 : (ji18) < (a0.size : Int) := of_decide_eq_true (by first | (with_reducible assumption) | assumption)
                     have hx23 := bt_at a0 (ji18)
                     replace p23 := eq_true p23
                     replace q23 := eq_true q23
                     have p27 : 0 ≤ ((ji25) : Int) := of_decide_eq_true (by first | (with_reducible assumption) | assumption)
                     have q27 : (ji25) < (a0.size : Int) := of_decide_eq_true (by first | (with_reducible assumption) | assumption)
                     have hx27 := bt_at a0 (ji25)
                     replace p27 := eq_true p27
                     replace q27 := eq_true q27
                     have p46 : 0 ≤ (x4_1 : Int) := of_decide_eq_true (by first | (with_reducible assumption) | assumption)
                     have q46 : (x4_1 : Int) < ((x3_1.length : Int) : Int) := of_decide_eq_true (by first | (with_reducible assumption) | assumption)
                     obtain ⟨go46, co46, eo46, gb46, gl46, cl46, HG46⟩ := Kd.R_form HO_3.out (by omega)
                     (first | cases eo46 | (injection eo46 with ea_ en_ ec_; (first | subst ea_ | (injection ea_ with ea_; subst ea_)); subst ec_; clear en_))
                     have GB46 := Aside0.mk gb46
                     have GG46 := Aside0.mk HG46
                     clear gb46 gl46 HG46
                     obtain ⟨hx46_0, hf46_0⟩ := Kd.R_celln 0 HO_3.out (x4_1 : Int) p46 q46
                     replace p46 := eq_true p46
                     replace q46 := eq_true q46
                     have HP47 := Kd.R_putg HO_3.out (x4_1 : Int) (bt a0 x5_1)
                     go_wp2_with (first | ((with_reducible refine gate_store (t := 5) (p := 104) rfl ?_); refine store_event (t := 5) (p := 104) (v := ?vo_w48) (w1 := (wr.setCell ⟨go46, (x4_1 : Int).toNat, none⟩ (.int .u8 (bt a0 x5_1)))) ?hg ?ho ?hn ?hr ?_; (case ho => rfl); (case hg => rfl); (case hn => rfl); (case hr => first | (go_simp; done) | (go_simp; rfl)); intro w48 hw; have hg : wr.grownBy w48 (some go46) := (by rw [hw]; exact HP47.2); have hp_ : Kd.R (Kd.int .u8) 5 w48 w.heap.size (fun _ => True) (.slice (some ⟨go46, 0, none⟩) x3_1.length co46) y115 := (by rw [hw, Ny115.out]; exact HP47.1); clear HP47; have n0_ := Aside0.mk (hp_); have n1_ := Aside0.mk ((by rw [hw]; exact below_set (HB.out) GB46.out : Below w.heap.size w w48)); clear HO_3; clear HB; have HO_3 := n0_; have HB := n1_; clear n0_ n1_; clear hg hw hp_))
                     go_roundg k1
                     case measure => have := HK1.out; omega
                     case rel => exact ⟨(y115), (wrap64 (x4_1 + 1)), (ji13), (by first | rfl | (simp; done) | (simp [*]; done) | (simp [bne_nil]; done) | (simp [bne_nil, *]; done)), (by first | rfl | (simp; done) | (simp only [← hji13] <;> (first | rfl | simp)) | (simp [*]; done)), H', ⟨by have := HK1.out; omega⟩, ⟨by (with_reducible repeat (first | apply Kd.R_alloc | apply Kd.R_drewN | apply Kd.R_drew)); exact HO_3.out⟩, ⟨by repeat (first | (with_reducible first | exact HB.out | apply below_alloc | apply pw_below_drewN | apply below_drew1) | exact HB.out)⟩⟩
                    ·rw [if_neg c45] at H
                     exact absurd H (by simp)
                   ·rw [if_neg c44] at H
                    exact absurd H (by simp)
                 ·rw [if_neg c26] at H
                  exact absurd H (by simp)
                ·rw [if_neg c24] at H
                 have c24b0 : decide ((bt a0 (ji18)) ≤ 55) = false := decide_eq_false c24
                 clear c24
                 by_cases c49 : 0 ≤ x4_1
                 ·rw [if_pos c49] at H
                  have c49b0 : decide (0 ≤ x4_1) = true := decide_eq_true c49
                  clear c49
                  by_cases c50 : x4_1 < (x3_1.length : Int)
                  ·rw [if_pos c50] at H
                   have c50b0 : decide (x4_1 < (x3_1.length : Int)) = true := decide_eq_true c50
                   clear c50
                   obtain ⟨y116, hy116⟩ : ∃ y_ : List Int, y_ = (x3_1.set (x4_1 : Int).toNat (bt a0 x5_1)) := ⟨_, rfl⟩
                   replace H : (mountinfo_unescape.l0 k1 a0 y116 (wrap64 (x4_1 + 1)) ji13) = some r := by first | (rw [hy116]; with_reducible exact H) | (have H2_ := (Option.bind_some _ _).symm.trans H; rw [hy116]; with_reducible exact H2_) | (have H2_ := (Option.bind_some _ _).symm.trans H; with_reducible exact H2_) | with_reducible exact H | (rw [hy116]; exact H) | exact H
                   have Ny116 := Aside0.mk hy116
                   clear hy116
                   have H' := Aside0.mk H
                   clear H
                   have p10 : 0 ≤ (x5_1 : Int) := of_decide_eq_true (by first | (with_reducible assumption) | assumption)
                   have q10 : x5_1 < (a0.size : Int) := of_decide_eq_true (by first | (with_reducible assumption) | assumption)
                   have hx10 := bt_at a0 x5_1
                   replace p10 := eq_true p10
                   replace q10 := eq_true q10
                   have p16 : 0 ≤ ((ji13) : Int) := of_decide_eq_true (by first | (with_reducible assumption) | assumption)
                   have q16 : (ji13) < (a0.size : Int) := of_decide_eq_true (by first | (with_reducible assumption) | assumption)
                   have hx16 := bt_at a0 (ji13)
                   replace p16 := eq_true p16
                   replace q16 := eq_true q16
                   have p21 : 0 ≤ ((ji18) : Int) := of_decide_eq_true (by first | (with_reducible assumption) | assumption)
                   have q21 : (ji18) < (a0.size : Int) := of_decide_eq_true (by first | (with_reducible assumption) | assumption)
                   have hx21 := bt_at a0 (ji18)
                   replace p21 := eq_true p21
                   replace q21 := eq_true q21
                   have p23 : 0 ≤ ((ji18) : Int) := of_decide_eq_true (by first | (with_reducible assumption) | assumption)
                   have q23 : (ji18) < (a0.size : Int) := of_decide_eq_true (by first | (with_reducible assumption) | assumption)
                   have hx23 := bt_at a0 (ji18)
                   replace p23 := eq_true p23
                   replace q23 := eq_true q23
                   have p51 : 0 ≤ (x4_1 : Int) := of_decide_eq_true (by first | (with_reducible assumption) | assumption)
                   have q51 : (x4_1 : Int) < ((x3_1.length : Int) : Int) := of_decide_eq_true (by first | (with_reducible assumption) | assumption)
                   obtain ⟨go51, co51, eo51, gb51, gl51, cl51, HG51⟩ := Kd.R_form HO_3.out (by omega)
                   (first | cases eo51 | (injection eo51 with ea_ en_ ec_; (first | subst ea_ | (injection ea_ with ea_; subst ea_)); subst ec_; clear en_))
                   have GB51 := Aside0.mk gb51
                   have GG51 := Aside0.mk HG51
                   clear gb51 gl51 HG51
                   obtain ⟨hx51_0, hf51_0⟩ := Kd.R_celln 0 HO_3.out (x4_1 : Int) p51 q51
                   replace p51 := eq_true p51
                   replace q51 := eq_true q51
                   have HP52 := Kd.R_putg HO_3.out (x4_1 : Int) (bt a0 x5_1)
                   go_wp2_with (first | ((with_reducible refine gate_store (t := 5) (p := 104) rfl ?_); refine store_event (t := 5) (p := 104) (v := ?vo_w53) (w1 := (wr.setCell ⟨go51, (x4_1 : Int).toNat, none⟩ (.int .u8 (bt a0 x5_1)))) ?hg ?ho ?hn ?hr ?_; (case ho => rfl); (case hg => rfl); (case hn => rfl); (case hr => first | (go_simp; done) | (go_simp; rfl)); intro w53 hw; have hg : wr.grownBy w53 (some go51) := (by rw [hw]; exact HP52.2); have hp_ : Kd.R (Kd.int .u8) 5 w53 w.heap.size (fun _ => True) (.slice (some ⟨go51, 0, none⟩) x3_1.length co51) y116 := (by rw [hw, Ny116.out]; exact HP52.1); clear HP52; have n0_ := Aside0.mk (hp_); have n1_ := Aside0.mk ((by rw [hw]; exact below_set (HB.out) GB51.out : Below w.heap.size w w53)); clear HO_3; clear HB; have HO_3 := n0_; have HB := n1_; clear n0_ n1_; clear hg hw hp_))
                   go_roundg k1
                   case measure => have := HK1.out; omega
                   case rel => exact ⟨(y116), (wrap64 (x4_1 + 1)), (ji13), (by first | rfl | (simp; done) | (simp [*]; done) | (simp [bne_nil]; done) | (simp [bne_nil, *]; done)), (by first | rfl | (simp; done) | (simp only [← hji13] <;> (first | rfl | simp)) | (simp [*]; done)), H', ⟨by have := HK1.out; omega⟩, ⟨by (with_reducible repeat (first | apply Kd.R_alloc | apply Kd.R_drewN | apply Kd.R_drew)); exact HO_3.out⟩, ⟨by repeat (first | (with_reducible first | exact HB.out | apply below_alloc | apply pw_below_drewN | apply below_drew1) | exact HB.out)⟩⟩
                  ·rw [if_neg c50] at H
                   exact absurd H (by simp)
                 ·rw [if_neg c49] at H
                  exact absurd H (by simp)
               ·rw [if_neg c22] at H
                have c22b0 : decide (48 ≤ (bt a0 (ji18))) = false := decide_eq_false c22
                clear c22
                by_cases c54 : 0 ≤ x4_1
                ·rw [if_pos c54] at H
                 have c54b0 : decide (0 ≤ x4_1) = true := decide_eq_true c54
                 clear c54
                 by_cases c55 : x4_1 < (x3_1.length : Int)
                 ·rw [if_pos c55] at H
                  have c55b0 : decide (x4_1 < (x3_1.length : Int)) = true := decide_eq_true c55
                  clear c55
                  obtain ⟨y117, hy117⟩ : ∃ y_ : List Int, y_ = (x3_1.set (x4_1 : Int).toNat (bt a0 x5_1)) := ⟨_, rfl⟩
                  replace H : (mountinfo_unescape.l0 k1 a0 y117 (wrap64 (x4_1 + 1)) ji13) = some r := by first | (rw [hy117]; with_reducible exact H) | (have H2_ := (Option.bind_some _ _).symm.trans H; rw [hy117]; with_reducible exact H2_) | (have H2_ := (Option.bind_some _ _).symm.trans H; with_reducible exact H2_) | with_reducible exact H | (rw [hy117]; exact H) | exact H
                  have Ny117 := Aside0.mk hy117
                  clear hy117
                  have H' := Aside0.mk H
                  clear H
                  have p10 : 0 ≤ (x5_1 : Int) := of_decide_eq_true (by first | (with_reducible assumption) | assumption)
                  have q10 : x5_1 < (a0.size : Int) := of_decide_eq_true (by first | (with_reducible assumption) | assumption)
                  have hx10 := bt_at a0 x5_1
                  replace p10 := eq_true p10
                  replace q10 := eq_true q10
                  have p16 : 0 ≤ ((ji13) : Int) := of_decide_eq_true (by first | (with_reducible assumption) | assumption)
                  have q16 : (ji13) < (a0.size : Int) := of_decide_eq_true (by first | (with_reducible assumption) | assumption)
                  have hx16 := bt_at a0 (ji13)
                  replace p16 := eq_true p16
                  replace q16 := eq_true q16
                  have p21 : 0 ≤ ((ji18) : Int) := of_decide_eq_true (by first | (with_reducible assumption) | assumption)
                  have q21 : (ji18) < (a0.size : Int) := of_decide_eq_true (by first | (with_reducible assumption) | assumption)
                  have hx21 := bt_at a0 (ji18)
                  replace p21 := eq_true p21
                  replace q21 := eq_true q21
                  have p56 : 0 ≤ (x4_1 : Int) := of_decide_eq_true (by first | (with_reducible assumption) | assumption)
                  have q56 : (x4_1 : Int) < ((x3_1.length : Int) : Int) := of_decide_eq_true (by first | (with_reducible assumption) | assumption)
                  obtain ⟨go56, co56, eo56, gb56, gl56, cl56, HG56⟩ := Kd.R_form HO_3.out (by omega)
                  (first | cases eo56 | (injection eo56 with ea_ en_ ec_; (first | subst ea_ | (injection ea_ with ea_; subst ea_)); subst ec_; clear en_))
                  have GB56 := Aside0.mk gb56
                  have GG56 := Aside0.mk HG56
                  clear gb56 gl56 HG56
                  obtain ⟨hx56_0, hf56_0⟩ := Kd.R_celln 0 HO_3.out (x4_1 : Int) p56 q56
                  replace p56 := eq_true p56
                  replace q56 := eq_true q56
                  have HP57 := Kd.R_putg HO_3.out (x4_1 : Int) (bt a0 x5_1)
                  go_wp2_with (first | ((with_reducible refine gate_store (t := 5) (p := 104) rfl ?_); refine store_event (t := 5) (p := 104) (v := ?vo_w58) (w1 := (wr.setCell ⟨go56, (x4_1 : Int).toNat, none⟩ (.int .u8 (bt a0 x5_1)))) ?hg ?ho ?hn ?hr ?_; (case ho => rfl); (case hg => rfl); (case hn => rfl); (case hr => first | (go_simp; done) | (go_simp; rfl)); intro w58 hw; have hg : wr.grownBy w58 (some go56) := (by rw [hw]; exact HP57.2); have hp_ : Kd.R (Kd.int .u8) 5 w58 w.heap.size (fun _ => True) (.slice (some ⟨go56, 0, none⟩) x3_1.length co56) y117 := (by rw [hw, Ny117.out]; exact HP57.1); clear HP57; have n0_ := Aside0.mk (hp_); have n1_ := Aside0.mk ((by rw [hw]; exact below_set (HB.out) GB56.out : Below w.heap.size w w58)); clear HO_3; clear HB; have HO_3 := n0_; have HB := n1_; clear n0_ n1_; clear hg hw hp_))
                  go_roundg k1
                  case measure => have := HK1.out; omega
                  case rel => exact ⟨(y117), (wrap64 (x4_1 + 1)), (ji13), (by first | rfl | (simp; done) | (simp [*]; done) | (simp [bne_nil]; done) | (simp [bne_nil, *]; done)), (by first | rfl | (simp; done) | (simp only [← hji13] <;> (first | rfl | simp)) | (simp [*]; done)), H', ⟨by have := HK1.out; omega⟩, ⟨by (with_reducible repeat (first | apply Kd.R_alloc | apply Kd.R_drewN | apply Kd.R_drew)); exact HO_3.out⟩, ⟨by repeat (first | (with_reducible first | exact HB.out | apply below_alloc | apply pw_below_drewN | apply below_drew1) | exact HB.out)⟩⟩
                 ·rw [if_neg c55] at H
                  exact absurd H (by simp)
                ·rw [if_neg c54] at H
                 exact absurd H (by simp)
              ·rw [if_neg c20] at H
               exact absurd H (by simp)
             ·rw [if_neg c19] at H
              exact absurd H (by simp)
            ·rw [if_neg c17] at H
             have c17b0 : ((bt a0 (ji13)) == 48) = false := beq_eq_false_iff_ne.mpr c17
             have c17b1 : ((bt a0 (ji13)) != 48) = true := bne_iff_ne.mpr c17
             by_cases c60 : (bt a0 (ji13)) = 49
             ·rw [if_pos c60] at H
              have c60b0 : ((bt a0 (ji13)) == 49) = true := beq_iff_eq.mpr c60
              have c60b1 : ((bt a0 (ji13)) != 49) = false := bne_eq_false_iff_eq.mpr c60
              clear c60
              obtain ⟨ji61, hji61⟩ : ∃ j_ : Int, (wrap64 (x5_1 + 2)) = j_ := ⟨_, rfl⟩
              replace H : (if 0 ≤ (ji61) then (if (ji61) < (a0.size : Int) then (if (bt a0 (ji61)) ≥ 48 then (if (bt a0 (ji61)) ≤ 55 then (if 0 ≤ (wrap64 (x5_1 + 3)) then (if (bt a0 (wrap64 (x5_1 + 3))) ≥ 48 then (if (bt a0 (wrap64 (x5_1 + 3))) ≤ 55 then (if 0 ≤ x4_1 then (if x4_1 < (x3_1.length : Int) then (mountinfo_unescape.l0 k1 a0 (x3_1.set (x4_1 : Int).toNat (Go.bits .or .u8 (Go.bits .or .u8 (((((bt a0 (ji13)) - 48) % 256) * 64) % 256) (((((bt a0 (ji61)) - 48) % 256) * 8) % 256)) (((bt a0 (wrap64 (x5_1 + 3))) - 48) % 256))) (wrap64 (x4_1 + 1)) (wrap64 ((wrap64 (x5_1 + 3)) + 1))) else (none)) else (none)) else (if 0 ≤ x4_1 then (if x4_1 < (x3_1.length : Int) then (mountinfo_unescape.l0 k1 a0 (x3_1.set (x4_1 : Int).toNat (bt a0 x5_1)) (wrap64 (x4_1 + 1)) ji13) else (none)) else (none))) else (if 0 ≤ x4_1 then (if x4_1 < (x3_1.length : Int) then (mountinfo_unescape.l0 k1 a0 (x3_1.set (x4_1 : Int).toNat (bt a0 x5_1)) (wrap64 (x4_1 + 1)) ji13) else (none)) else (none))) else (none)) else (if 0 ≤ x4_1 then (if x4_1 < (x3_1.length : Int) then (mountinfo_unescape.l0 k1 a0 (x3_1.set (x4_1 : Int).toNat (bt a0 x5_1)) (wrap64 (x4_1 + 1)) ji13) else (none)) else (none))) else (if 0 ≤ x4_1 then (if x4_1 < (x3_1.length : Int) then (mountinfo_unescape.l0 k1 a0 (x3_1.set (x4_1 : Int).toNat (bt a0 x5_1)) (wrap64 (x4_1 + 1)) ji13) else (none)) else (none))) else (none)) else (none)) = some r := by first | (rw [hji61] at H; exact H) | (simp only [hji61] at H ⊢; exact H)
              have hji61w : (IntKind.i64.wrap (x5_1 + 2)) = ji61 := (i64_w _).trans hji61
              by_cases c62 : 0 ≤ (ji61)
              ·rw [if_pos c62] at H
               have c62b0 : decide (0 ≤ (ji61)) = true := decide_eq_true c62
               clear c62
               by_cases c63 : (ji61) < (a0.size : Int)
               ·rw [if_pos c63] at H
                have c63b0 : decide ((ji61) < (a0.size : Int)) = true := decide_eq_true c63
                clear c63
                by_cases c65 : (bt a0 (ji61)) ≥ 48
                ·rw [if_pos c65] at H
                 have c65b0 : decide (48 ≤ (bt a0 (ji61))) = true := decide_eq_true c65
                 clear c65
                 by_cases c67 : (bt a0 (ji61)) ≤ 55
                 ·rw [if_pos c67] at H
                  have c67b0 : decide ((bt a0 (ji61)) ≤ 55) = true := decide_eq_true c67
                  clear c67
                  obtain ⟨ji68, hji68⟩ : ∃ j_ : Int, (wrap64 (x5_1 + 3)) = j_ := ⟨_, rfl⟩
                  replace H : (if 0 ≤ (ji68) then (if (bt a0 (ji68)) ≥ 48 then (if (bt a0 (ji68)) ≤ 55 then (if 0 ≤ x4_1 then (if x4_1 < (x3_1.length : Int) then (mountinfo_unescape.l0 k1 a0 (x3_1.set (x4_1 : Int).toNat (Go.bits .or .u8 (Go.bits .or .u8 (((((bt a0 (ji13)) - 48) % 256) * 64) % 256) (((((bt a0 (ji61)) - 48) % 256) * 8) % 256)) (((bt a0 (ji68)) - 48) % 256))) (wrap64 (x4_1 + 1)) (wrap64 ((ji68) + 1))) else (none)) else (none)) else (if 0 ≤ x4_1 then (if x4_1 < (x3_1.length : Int) then (mountinfo_unescape.l0 k1 a0 (x3_1.set (x4_1 : Int).toNat (bt a0 x5_1)) (wrap64 (x4_1 + 1)) ji13) else (none)) else (none))) else (if 0 ≤ x4_1 then (if x4_1 < (x3_1.length : Int) then (mountinfo_unescape.l0 k1 a0 (x3_1.set (x4_1 : Int).toNat (bt a0 x5_1)) (wrap64 (x4_1 + 1)) ji13) else (none)) else (none))) else (none)) = some r := by first | (rw [hji68] at H; exact H) | (simp only [hji68] at H ⊢; exact H)
                  (try rw [hji68] at c12b0)
                  have hji68w : (IntKind.i64.wrap (x5_1 + 3)) = ji68 := (i64_w _).trans hji68
                  by_cases c69 : 0 ≤ (ji68)
                  ·rw [if_pos c69] at H
                   have c69b0 : decide (0 ≤ (ji68)) = true := decide_eq_true c69
                   clear c69
                   by_cases c71 : (bt a0 (ji68)) ≥ 48
                   ·rw [if_pos c71] at H
                    have c71b0 : decide (48 ≤ (bt a0 (ji68))) = true := decide_eq_true c71
                    clear c71
                    by_cases c73 : (bt a0 (ji68)) ≤ 55
                    ·rw [if_pos c73] at H
                     have c73b0 : decide ((bt a0 (ji68)) ≤ 55) = true := decide_eq_true c73
                     clear c73
                     by_cases c77 : 0 ≤ x4_1
                     ·rw [if_pos c77] at H
                      have c77b0 : decide (0 ≤ x4_1) = true := decide_eq_true c77
                      clear c77
                      by_cases c78 : x4_1 < (x3_1.length : Int)
                      ·rw [if_pos c78] at H
                       have c78b0 : decide (x4_1 < (x3_1.length : Int)) = true := decide_eq_true c78
                       clear c78
                       obtain ⟨y118, hy118⟩ : ∃ y_ : List Int, y_ = (x3_1.set (x4_1 : Int).toNat (Go.bits .or .u8 (Go.bits .or .u8 (((((bt a0 (ji13)) - 48) % 256) * 64) % 256) (((((bt a0 (ji61)) - 48) % 256) * 8) % 256)) (((bt a0 (ji68)) - 48) % 256))) := ⟨_, rfl⟩
                       replace H : (mountinfo_unescape.l0 k1 a0 y118 (wrap64 (x4_1 + 1)) (wrap64 ((ji68) + 1))) = some r := by first | (rw [hy118]; with_reducible exact H) | (have H2_ := (Option.bind_some _ _).symm.trans H; rw [hy118]; with_reducible exact H2_) | (have H2_ := (Option.bind_some _ _).symm.trans H; with_reducible exact H2_) | with_reducible exact H | (rw [hy118]; exact H) | exact H
                       have Ny118 := Aside0.mk hy118
                       clear hy118
                       have H' := Aside0.mk H
                       clear H
                       have p10 : 0 ≤ (x5_1 : Int) := of_decide_eq_true (by first | (with_reducible assumption) | assumption)
                       have q10 : x5_1 < (a0.size : Int) := of_decide_eq_true (by first | (with_reducible assumption) | assumption)
                       have hx10 := bt_at a0 x5_1
                       replace p10 := eq_true p10
                       replace q10 := eq_true q10
                       have p16 : 0 ≤ ((ji13) : Int) := of_decide_eq_true (by first | (with_reducible assumption) | assumption)
                       have q16 : (ji13) < (a0.size : Int) := of_decide_eq_true (by first | (with_reducible assumption) | assumption)
                       have hx16 := bt_at a0 (ji13)
                       replace p16 := eq_true p16
                       replace q16 := eq_true q16
                       have p59 : 0 ≤ ((ji13) : Int) := of_decide_eq_true (by first | (with_reducible assumption) | assumption)
                       have q59 : (ji13) < (a0.size : Int) := of_decide_eq_true (by first | (with_reducible assumption) | assumption)
                       have hx59 := bt_at a0 (ji13)
                       replace p59 := eq_true p59
                       replace q59 := eq_true q59
                       have p64 : 0 ≤ ((ji61) : Int) := of_decide_eq_true (by first | (with_reducible assumption) | assumption)
                       have q64 : (ji61) < (a0.size : Int) := of_decide_eq_true (by first | (with_reducible assumption) | assumption)
                       have hx64 := bt_at a0 (ji61)
                       replace p64 := eq_true p64
                       replace q64 := eq_true q64
                       have p66 : 0 ≤ ((ji61) : Int) := of_decide_eq_true (by first | (with_reducible assumption) | assumption)
                       have q66 : (ji61) < (a0.size : Int) := of_decide_eq_true (by first | (with_reducible assumption) | assumption)
                       have hx66 := bt_at a0 (ji61)
                       replace p66 := eq_true p66
                       replace q66 := eq_true q66
                       have p70 : 0 ≤ ((ji68) : Int) := of_decide_eq_true (by first | (with_reducible assumption) | assumption)
                       have q70 : (ji68) < (a0.size : Int) := of_decide_eq_true (by first | (with_reducible assumption) | assumption)
                       have hx70 := bt_at a0 (ji68)
                       replace p70 := eq_true p70
                       replace q70 := eq_true q70
                       have p72 : 0 ≤ ((ji68) : Int) := of_decide_eq_true (by first | (with_reducible assumption) | assumption)
                       have q72 : (ji68) < (a0.size : Int) := of_decide_eq_true (by first | (with_reducible assumption) | assumption)
                       have hx72 := bt_at a0 (ji68)
                       replace p72 := eq_true p72
                       replace q72 := eq_true q72
                       have p74 : 0 ≤ ((ji13) : Int) := of_decide_eq_true (by first | (with_reducible assumption) | assumption)
                       have q74 : (ji13) < (a0.size : Int) := of_decide_eq_true (by first | (with_reducible assumption) | assumption)
                       have hx74 := bt_at a0 (ji13)
                       replace p74 := eq_true p74
                       replace q74 := eq_true q74
                       have p75 : 0 ≤ ((ji61) : Int) := of_decide_eq_true (by first | (with_reducible assumption) | assumption)
                       have q75 : (ji61) < (a0.size : Int) := of_decide_eq_true (by first | (with_reducible assumption) | assumption)
                       have hx75 := bt_at a0 (ji61)
                       replace p75 := eq_true p75
                       replace q75 := eq_true q75
                       have p76 : 0 ≤ ((ji68) : Int) := of_decide_eq_true (by first | (with_reducible assumption) | assumption)
                       have q76 : (ji68) < (a0.size : Int) := of_decide_eq_true (by first | (with_reducible assumption) | assumption)
                       have hx76 := bt_at a0 (ji68)
                       replace p76 := eq_true p76
                       replace q76 := eq_true q76
                       have p79 : 0 ≤ (x4_1 : Int) := of_decide_eq_true (by first | (with_reducible assumption) | assumption)
                       have q79 : (x4_1 : Int) < ((x3_1.length : Int) : Int) := of_decide_eq_true (by first | (with_reducible assumption) | assumption)
                       obtain ⟨go79, co79, eo79, gb79, gl79, cl79, HG79⟩ := Kd.R_form HO_3.out (by omega)
                       (first | cases eo79 | (injection eo79 with ea_ en_ ec_; (first | subst ea_ | (injection ea_ with ea_; subst ea_)); subst ec_; clear en_))
                       have GB79 := Aside0.mk gb79
                       have GG79 := Aside0.mk HG79
                       clear gb79 gl79 HG79
                       obtain ⟨hx79_0, hf79_0⟩ := Kd.R_celln 0 HO_3.out (x4_1 : Int) p79 q79
                       replace p79 := eq_true p79
                       replace q79 := eq_true q79
                       have HP80 := Kd.R_putg HO_3.out (x4_1 : Int) (Go.bits .or .u8 (Go.bits .or .u8 (((((bt a0 (ji13)) - 48) % 256) * 64) % 256) (((((bt a0 (ji61)) - 48) % 256) * 8) % 256)) (((bt a0 (ji68)) - 48) % 256))
                       go_wp2_with (first | ((with_reducible refine gate_store (t := 5) (p := 104) rfl ?_); refine store_event (t := 5) (p := 104) (v := ?vo_w81) (w1 := (wr.setCell ⟨go79, (x4_1 : Int).toNat, none⟩ (.int .u8 (Go.bits .or .u8 (Go.bits .or .u8 (((((bt a0 (ji13)) - 48) % 256) * 64) % 256) (((((bt a0 (ji61)) - 48) % 256) * 8) % 256)) (((bt a0 (ji68)) - 48) % 256))))) ?hg ?ho ?hn ?hr ?_; (case ho => rfl); (case hg => rfl); (case hn => rfl); (case hr => first | (go_simp; done) | (go_simp; rfl)); intro w81 hw; have hg : wr.grownBy w81 (some go79) := (by rw [hw]; exact HP80.2); have hp_ : Kd.R (Kd.int .u8) 5 w81 w.heap.size (fun _ => True) (.slice (some ⟨go79, 0, none⟩) x3_1.length co79) y118 := (by rw [hw, Ny118.out]; exact HP80.1); clear HP80; have n0_ := Aside0.mk (hp_); have n1_ := Aside0.mk ((by rw [hw]; exact below_set (HB.out) GB79.out : Below w.heap.size w w81)); clear HO_3; clear HB; have HO_3 := n0_; have HB := n1_; clear n0_ n1_; clear hg hw hp_))
                       go_roundg k1
                       case measure => have := HK1.out; omega
                       case rel => exact ⟨(y118), (wrap64 (x4_1 + 1)), (wrap64 ((ji68) + 1)), (by first | rfl | (simp; done) | (simp [*]; done) | (simp [bne_nil]; done) | (simp [bne_nil, *]; done)), (by first | rfl | (simp; done) | (simp only [← hji68] <;> (first | rfl | simp)) | (simp [*]; done)), H', ⟨by have := HK1.out; omega⟩, ⟨by (with_reducible repeat (first | apply Kd.R_alloc | apply Kd.R_drewN | apply Kd.R_drew)); exact HO_3.out⟩, ⟨by repeat (first | (with_reducible first | exact HB.out | apply below_alloc | apply pw_below_drewN | apply below_drew1) | exact HB.out)⟩⟩
                      ·rw [if_neg c78] at H
                       exact absurd H (by simp)
                     ·rw [if_neg c77] at H
                      exact absurd H (by simp)
                    ·rw [if_neg c73] at H
                     have c73b0 : decide ((bt a0 (ji68)) ≤ 55) = false := decide_eq_false c73
                     clear c73
                     by_cases c82 : 0 ≤ x4_1
                     ·rw [if_pos c82] at H
                      have c82b0 : decide (0 ≤ x4_1) = true := decide_eq_true c82
                      clear c82
                      by_cases c83 : x4_1 < (x3_1.length : Int)
                      ·rw [if_pos c83] at H
                       have c83b0 : decide (x4_1 < (x3_1.length : Int)) = true := decide_eq_true c83
                       clear c83
                       obtain ⟨y119, hy119⟩ : ∃ y_ : List Int, y_ = (x3_1.set (x4_1 : Int).toNat (bt a0 x5_1)) := ⟨_, rfl⟩
                       replace H : (mountinfo_unescape.l0 k1 a0 y119 (wrap64 (x4_1 + 1)) ji13) = some r := by first | (rw [hy119]; with_reducible exact H) | (have H2_ := (Option.bind_some _ _).symm.trans H; rw [hy119]; with_reducible exact H2_) | (have H2_ := (Option.bind_some _ _).symm.trans H; with_reducible exact H2_) | with_reducible exact H | (rw [hy119]; exact H) | exact H
                       have Ny119 := Aside0.mk hy119
                       clear hy119
                       have H' := Aside0.mk H
                       clear H
                       have p10 : 0 ≤ (x5_1 : Int) := of_decide_eq_true (by first | (with_reducible assumption) | assumption)
                       have q10 : x5_1 < (a0.size : Int) := of_decide_eq_true (by first | (with_reducible assumption) | assumption)
                       have hx10 := bt_at a0 x5_1
                       replace p10 := eq_true p10
                       replace q10 := eq_true q10
                       have p16 : 0 ≤ ((ji13) : Int) := of_decide_eq_true (by first | (with_reducible assumption) | assumption)
                       have q16 : (ji13) < (a0.size : Int) := of_decide_eq_true (by first | (with_reducible assumption) | assumption)
                       have hx16 := bt_at a0 (ji13)
                       replace p16 := eq_true p16
                       replace q16 := eq_true q16
                       have p59 : 0 ≤ ((ji13) : Int) := of_decide_eq_true (by first | (with_reducible assumption) | assumption)
                       have q59 : (ji13) < (a0.size : Int) := of_decide_eq_true (by first | (with_reducible assumption) | assumption)
                       have hx59 := bt_at a0 (ji13)
                       replace p59 := eq_true p59
                       replace q59 := eq_true q59
                       have p64 : 0 ≤ ((ji61) : Int) := of_decide_eq_true (by first | (with_reducible assumption) | assumption)
                       have q64 : (ji61) < (a0.size : Int) := of_decide_eq_true (by first | (with_reducible assumption) | assumption)
                       have hx64 := bt_at a0 (ji61)
                       replace p64 := eq_true p64
                       replace q64 := eq_true q64
                       have p66 : 0 ≤ ((ji61) : Int) := of_decide_eq_true (by first | (with_reducible assumption) | assumption)
                       have q66 : (ji61) < (a0.size : Int) := of_decide_eq_true (by first | (with_reducible assumption) | assumption)
                       have hx66 := bt_at a0 (ji61)
                       replace p66 := eq_true p66
                       replace q66 := eq_true q66
                       have p70 : 0 ≤ ((ji68) : Int) := of_decide_eq_true (by first | (with_reducible assumption) | assumption)
                       have q70 : (ji68) < (a0.size : Int) := of_decide_eq_true (by first | (with_reducible assumption) | assumption)
                       have hx70 := bt_at a0 (ji68)
                       replace p70 := eq_true p70
                       replace q70 := eq_true q70
                       have p72 : 0 ≤ ((ji68) : Int) := of_decide_eq_true (by first | (with_reducible assumption) | assumption)
                       have q72 : (ji68) < (a0.size : Int) := of_decide_eq_true (by first | (with_reducible assumption) | assumption)
                       have hx72 := bt_at a0 (ji68)
                       replace p72 := eq_true p72
                       replace q72 := eq_true q72
                       have p84 : 0 ≤ (x4_1 : Int) := of_decide_eq_true (by first | (with_reducible assumption) | assumption)
                       have q84 : (x4_1 : Int) < ((x3_1.length : Int) : Int) := of_decide_eq_true (by first | (with_reducible assumption) | assumption)
                       obtain ⟨go84, co84, eo84, gb84, gl84, cl84, HG84⟩ := Kd.R_form HO_3.out (by omega)
                       (first | cases eo84 | (injection eo84 with ea_ en_ ec_; (first | subst ea_ | (injection ea_ with ea_; subst ea_)); subst ec_; clear en_))
                       have GB84 := Aside0.mk gb84
                       have GG84 := Aside0.mk HG84
                       clear gb84 gl84 HG84
                       obtain ⟨hx84_0, hf84_0⟩ := Kd.R_celln 0 HO_3.out (x4_1 : Int) p84 q84
                       replace p84 := eq_true p84
                       replace q84 := eq_true q84
                       have HP85 := Kd.R_putg HO_3.out (x4_1 : Int) (bt a0 x5_1)
                       go_wp2_with (first | ((with_reducible refine gate_store (t := 5) (p := 104) rfl ?_); refine store_event (t := 5) (p := 104) (v := ?vo_w86) (w1 := (wr.setCell ⟨go84, (x4_1 : Int).toNat, none⟩ (.int .u8 (bt a0 x5_1)))) ?hg ?ho ?hn ?hr ?_; (case ho => rfl); (case hg => rfl); (case hn => rfl); (case hr => first | (go_simp; done) | (go_simp; rfl)); intro w86 hw; have hg : wr.grownBy w86 (some go84) := (by rw [hw]; exact HP85.2); have hp_ : Kd.R (Kd.int .u8) 5 w86 w.heap.size (fun _ => True) (.slice (some ⟨go84, 0, none⟩) x3_1.length co84) y119 := (by rw [hw, Ny119.out]; exact HP85.1); clear HP85; have n0_ := Aside0.mk (hp_); have n1_ := Aside0.mk ((by rw [hw]; exact below_set (HB.out) GB84.out : Below w.heap.size w w86)); clear HO_3; clear HB; have HO_3 := n0_; have HB := n1_; clear n0_ n1_; clear hg hw hp_))
                       go_roundg k1
                       case measure => have := HK1.out; omega
                       case rel => exact ⟨(y119), (wrap64 (x4_1 + 1)), (ji13), (by first | rfl | (simp; done) | (simp [*]; done) | (simp [bne_nil]; done) | (simp [bne_nil, *]; done)), (by first | rfl | (simp; done) | (simp only [← hji13] <;> (first | rfl | simp)) | (simp [*]; done)), H', ⟨by have := HK1.out; omega⟩, ⟨by (with_reducible repeat (first | apply Kd.R_alloc | apply Kd.R_drewN | apply Kd.R_drew)); exact HO_3.out⟩, ⟨by repeat (first | (with_reducible first | exact HB.out | apply below_alloc | apply pw_below_drewN | apply below_drew1) | exact HB.out)⟩⟩
                      ·rw [if_neg c83] at H
                       exact absurd H (by simp)
                     ·rw [if_neg c82] at H
                      exact absurd H (by simp)
                   ·rw [if_neg c71] at H
                    have c71b0 : decide (48 ≤ (bt a0 (ji68))) = false := decide_eq_false c71
                    clear c71
                    by_cases c87 : 0 ≤ x4_1
                    ·rw [if_pos c87] at H
                     have c87b0 : decide (0 ≤ x4_1) = true := decide_eq_true c87
                     clear c87
                     by_cases c88 : x4_1 < (x3_1.length : Int)
                     ·rw [if_pos c88] at H
                      have c88b0 : decide (x4_1 < (x3_1.length : Int)) = true := decide_eq_true c88
                      clear c88
                      obtain ⟨y120, hy120⟩ : ∃ y_ : List Int, y_ = (x3_1.set (x4_1 : Int).toNat (bt a0 x5_1)) := ⟨_, rfl⟩
                      replace H : (mountinfo_unescape.l0 k1 a0 y120 (wrap64 (x4_1 + 1)) ji13) = some r := by first | (rw [hy120]; with_reducible exact H) | (have H2_ := (Option.bind_some _ _).symm.trans H; rw [hy120]; with_reducible exact H2_) | (have H2_ := (Option.bind_some _ _).symm.trans H; with_reducible exact H2_) | with_reducible exact H | (rw [hy120]; exact H) | exact H
                      have Ny120 := Aside0.mk hy120
                      clear hy120
                      have H' := Aside0.mk H
                      clear H
                      have p10 : 0 ≤ (x5_1 : Int) := of_decide_eq_true (by first | (with_reducible assumption) | assumption)
                      have q10 : x5_1 < (a0.size : Int) := of_decide_eq_true (by first | (with_reducible assumption) | assumption)
                      have hx10 := bt_at a0 x5_1
                      replace p10 := eq_true p10
                      replace q10 := eq_true q10
                      have p16 : 0 ≤ ((ji13) : Int) := of_decide_eq_true (by first | (with_reducible assumption) | assumption)
                      have q16 : (ji13) < (a0.size : Int) := of_decide_eq_true (by first | (with_reducible assumption) | assumption)
                      have hx16 := bt_at a0 (ji13)
                      replace p16 := eq_true p16
                      replace q16 := eq_true q16
                      have p59 : 0 ≤ ((ji13) : Int) := of_decide_eq_true (by first | (with_reducible assumption) | assumption)
                      have q59 : (ji13) < (a0.size : Int) := of_decide_eq_true (by first | (with_reducible assumption) | assumption)
                      have hx59 := bt_at a0 (ji13)
                      replace p59 := eq_true p59
                      replace q59 := eq_true q59
                      have p64 : 0 ≤ ((ji61) : Int) := of_decide_eq_true (by first | (with_reducible assumption) | assumption)
                      have q64 : (ji61) < (a0.size : Int) := of_decide_eq_true (by first | (with_reducible assumption) | assumption)
                      have hx64 := bt_at a0 (ji61)
                      replace p64 := eq_true p64
                      replace q64 := eq_true q64
                      have p66 : 0 ≤ ((ji61) : Int) := of_decide_eq_true (by first | (with_reducible assumption) | assumption)
                      have q66 : (ji61) < (a0.size : Int) := of_decide_eq_true (by first | (with_reducible assumption) | assumption)
                      have hx66 := bt_at a0 (ji61)
                      replace p66 := eq_true p66
                      replace q66 := eq_true q66
                      have p70 : 0 ≤ ((ji68) : Int) := of_decide_eq_true (by first | (with_reducible assumption) | assumption)
                      have q70 : (ji68) < (a0.size : Int) := of_decide_eq_true (by first | (with_reducible assumption) | assumption)
                      have hx70 := bt_at a0 (ji68)
                      replace p70 := eq_true p70
                      replace q70 := eq_true q70
                      have p89 : 0 ≤ (x4_1 : Int) := of_decide_eq_true (by first | (with_reducible assumption) | assumption)
                      have q89 : (x4_1 : Int) < ((x3_1.length : Int) : Int) := of_decide_eq_true (by first | (with_reducible assumption) | assumption)
                      obtain ⟨go89, co89, eo89, gb89, gl89, cl89, HG89⟩ := Kd.R_form HO_3.out (by omega)
                      (first | cases eo89 | (injection eo89 with ea_ en_ ec_; (first | subst ea_ | (injection ea_ with ea_; subst ea_)); subst ec_; clear en_))
                      have GB89 := Aside0.mk gb89
                      have GG89 := Aside0.mk HG89
                      clear gb89 gl89 HG89
                      obtain ⟨hx89_0, hf89_0⟩ := Kd.R_celln 0 HO_3.out (x4_1 : Int) p89 q89
                      replace p89 := eq_true p89
                      replace q89 := eq_true q89
                      have HP90 := Kd.R_putg HO_3.out (x4_1 : Int) (bt a0 x5_1)
                      go_wp2_with (first | ((with_reducible refine gate_store (t := 5) (p := 104) rfl ?_); refine store_event (t := 5) (p := 104) (v := ?vo_w91) (w1 := (wr.setCell ⟨go89, (x4_1 : Int).toNat, none⟩ (.int .u8 (bt a0 x5_1)))) ?hg ?ho ?hn ?hr ?_; (case ho => rfl); (case hg => rfl); (case hn => rfl); (case hr => first | (go_simp; done) | (go_simp; rfl)); intro w91 hw; have hg : wr.grownBy w91 (some go89) := (by rw [hw]; exact HP90.2); have hp_ : Kd.R (Kd.int .u8) 5 w91 w.heap.size (fun _ => True) (.slice (some ⟨go89, 0, none⟩) x3_1.length co89) y120 := (by rw [hw, Ny120.out]; exact HP90.1); clear HP90; have n0_ := Aside0.mk (hp_); have n1_ := Aside0.mk ((by rw [hw]; exact below_set (HB.out) GB89.out : Below w.heap.size w w91)); clear HO_3; clear HB; have HO_3 := n0_; have HB := n1_; clear n0_ n1_; clear hg hw hp_))
                      go_roundg k1
                      case measure => have := HK1.out; omega
                      case rel => exact ⟨(y120), (wrap64 (x4_1 + 1)), (ji13), (by first | rfl | (simp; done) | (simp [*]; done) | (simp [bne_nil]; done) | (simp [bne_nil, *]; done)), (by first | rfl | (simp; done) | (simp only [← hji13] <;> (first | rfl | simp)) | (simp [*]; done)), H', ⟨by have := HK1.out; omega⟩, ⟨by (with_reducible repeat (first | apply Kd.R_alloc | apply Kd.R_drewN | apply Kd.R_drew)); exact HO_3.out⟩, ⟨by repeat (first | (with_reducible first | exact HB.out | apply below_alloc | apply pw_below_drewN | apply below_drew1) | exact HB.out)⟩⟩
                     ·rw [if_neg c88] at H
                      exact absurd H (by simp)
                    ·rw [if_neg c87] at H
                     exact absurd H (by simp)
                  ·rw [if_neg c69] at H
                   exact absurd H (by simp)
                 ·rw [if_neg c67] at H
                  have c67b0 : decide ((bt a0 (ji61)) ≤ 55) = false := decide_eq_false c67
                  clear c67
                  by_cases c92 : 0 ≤ x4_1
                  ·rw [if_pos c92] at H
                   have c92b0 : decide (0 ≤ x4_1) = true := decide_eq_true c92
                   clear c92
                   by_cases c93 : x4_1 < (x3_1.length : Int)
                   ·rw [if_pos c93] at H
                    have c93b0 : decide (x4_1 < (x3_1.length : Int)) = true := decide_eq_true c93
                    clear c93
                    obtain ⟨y121, hy121⟩ : ∃ y_ : List Int, y_ = (x3_1.set (x4_1 : Int).toNat (bt a0 x5_1)) := ⟨_, rfl⟩
                    replace H : (mountinfo_unescape.l0 k1 a0 y121 (wrap64 (x4_1 + 1)) ji13) = some r := by first | (rw [hy121]; with_reducible exact H) | (have H2_ := (Option.bind_some _ _).symm.trans H; rw [hy121]; with_reducible exact H2_) | (have H2_ := (Option.bind_some _ _).symm.trans H; with_reducible exact H2_) | with_reducible exact H | (rw [hy121]; exact H) | exact H
                    have Ny121 := Aside0.mk hy121
                    clear hy121
                    have H' := Aside0.mk H
                    clear H
                    have p10 : 0 ≤ (x5_1 : Int) := of_decide_eq_true (by first | (with_reducible assumption) | assumption)
                    have q10 : x5_1 < (a0.size : Int) := of_decide_eq_true (by first | (with_reducible assumption) | assumption)
                    have hx10 := bt_at a0 x5_1
                    replace p10 := eq_true p10
                    replace q10 := eq_true q10
                    have p16 : 0 ≤ ((ji13) : Int) := of_decide_eq_true (by first | (with_reducible assumption) | assumption)
                    have q16 : (ji13) < (a0.size : Int) := of_decide_eq_true (by first | (with_reducible assumption) | assumption)
                    have hx16 := bt_at a0 (ji13)
                    replace p16 := eq_true p16
                    replace q16 := eq_true q16
                    have p59 : 0 ≤ ((ji13) : Int) := of_decide_eq_true (by first | (with_reducible assumption) | assumption)
                    have q59 : (ji13) < (a0.size : Int) := of_decide_eq_true (by first | (with_reducible assumption) | assumption)
                    have hx59 := bt_at a0 (ji13)
                    replace p59 := eq_true p59
                    replace q59 := eq_true q59
                    have p64 : 0 ≤ ((ji61) : Int) := of_decide_eq_true (by first | (with_reducible assumption) | assumption)
                    have q64 : (ji61) < (a0.size : Int) := of_decide_eq_true (by first | (with_reducible assumption) | assumption)
                    have hx64 := bt_at a0 (ji61)
                    replace p64 := eq_true p64
                    replace q64 := eq_true q64
                    have p66 : 0 ≤ ((ji61) : Int) := of_decide_eq_true (by first | (with_reducible assumption) | assumption)
                    have q66 : (ji61) < (a0.size : Int) := of_decide_eq_true (by first | (with_reducible assumption) | assumption)
                    have hx66 := bt_at a0 (ji61)
                    replace p66 := eq_true p66
                    replace q66 := eq_true q66
                    have p94 : 0 ≤ (x4_1 : Int) := of_decide_eq_true (by first | (with_reducible assumption) | assumption)
                    have q94 : (x4_1 : Int) < ((x3_1.length : Int) : Int) := of_decide_eq_true (by first | (with_reducible assumption) | assumption)
                    obtain ⟨go94, co94, eo94, gb94, gl94, cl94, HG94⟩ := Kd.R_form HO_3.out (by omega)
                    (first | cases eo94 | (injection eo94 with ea_ en_ ec_; (first | subst ea_ | (injection ea_ with ea_; subst ea_)); subst ec_; clear en_))
                    have GB94 := Aside0.mk gb94
                    have GG94 := Aside0.mk HG94
                    clear gb94 gl94 HG94
                    obtain ⟨hx94_0, hf94_0⟩ := Kd.R_celln 0 HO_3.out (x4_1 : Int) p94 q94
                    replace p94 := eq_true p94
                    replace q94 := eq_true q94
                    have HP95 := Kd.R_putg HO_3.out (x4_1 : Int) (bt a0 x5_1)
                    go_wp2_with (first | ((with_reducible refine gate_store (t := 5) (p := 104) rfl ?_); refine store_event (t := 5) (p := 104) (v := ?vo_w96) (w1 := (wr.setCell ⟨go94, (x4_1 : Int).toNat, none⟩ (.int .u8 (bt a0 x5_1)))) ?hg ?ho ?hn ?hr ?_; (case ho => rfl); (case hg => rfl); (case hn => rfl); (case hr => first | (go_simp; done) | (go_simp; rfl)); intro w96 hw; have hg : wr.grownBy w96 (some go94) := (by rw [hw]; exact HP95.2); have hp_ : Kd.R (Kd.int .u8) 5 w96 w.heap.size (fun _ => True) (.slice (some ⟨go94, 0, none⟩) x3_1.length co94) y121 := (by rw [hw, Ny121.out]; exact HP95.1); clear HP95; have n0_ := Aside0.mk (hp_); have n1_ := Aside0.mk ((by rw [hw]; exact below_set (HB.out) GB94.out : Below w.heap.size w w96)); clear HO_3; clear HB; have HO_3 := n0_; have HB := n1_; clear n0_ n1_; clear hg hw hp_))
                    go_roundg k1
                    case measure => have := HK1.out; omega
                    case rel => exact ⟨(y121), (wrap64 (x4_1 + 1)), (ji13), (by first | rfl | (simp; done) | (simp [*]; done) | (simp [bne_nil]; done) | (simp [bne_nil, *]; done)), (by first | rfl | (simp; done) | (simp only [← hji13] <;> (first | rfl | simp)) | (simp [*]; done)), H', ⟨by have := HK1.out; omega⟩, ⟨by (with_reducible repeat (first | apply Kd.R_alloc | apply Kd.R_drewN | apply Kd.R_drew)); exact HO_3.out⟩, ⟨by repeat (first | (with_reducible first | exact HB.out | apply below_alloc | apply pw_below_drewN | apply below_drew1) | exact HB.out)⟩⟩
                   ·rw [if_neg c93] at H
                    exact absurd H (by simp)
                  ·rw [if_neg c92] at H
                   exact absurd H (by simp)
                ·rw [if_neg c65] at H
                 have c65b0 : decide (48 ≤ (bt a0 (ji61))) = false := decide_eq_false c65
                 clear c65
                 by_cases c97 : 0 ≤ x4_1
                 ·rw [if_pos c97] at H
                  have c97b0 : decide (0 ≤ x4_1) = true := decide_eq_true c97
                  clear c97
                  by_cases c98 : x4_1 < (x3_1.length : Int)
                  ·rw [if_pos c98] at H
                   have c98b0 : decide (x4_1 < (x3_1.length : Int)) = true := decide_eq_true c98
                   clear c98
                   obtain ⟨y122, hy122⟩ : ∃ y_ : List Int, y_ = (x3_1.set (x4_1 : Int).toNat (bt a0 x5_1)) := ⟨_, rfl⟩
                   replace H : (mountinfo_unescape.l0 k1 a0 y122 (wrap64 (x4_1 + 1)) ji13) = some r := by first | (rw [hy122]; with_reducible exact H) | (have H2_ := (Option.bind_some _ _).symm.trans H; rw [hy122]; with_reducible exact H2_) | (have H2_ := (Option.bind_some _ _).symm.trans H; with_reducible exact H2_) | with_reducible exact H | (rw [hy122]; exact H) | exact H
                   have Ny122 := Aside0.mk hy122
                   clear hy122
                   have H' := Aside0.mk H
                   clear H
                   have p10 : 0 ≤ (x5_1 : Int) := of_decide_eq_true (by first | (with_reducible assumption) | assumption)
                   have q10 : x5_1 < (a0.size : Int) := of_decide_eq_true (by first | (with_reducible assumption) | assumption)
                   have hx10 := bt_at a0 x5_1
                   replace p10 := eq_true p10
                   replace q10 := eq_true q10
                   have p16 : 0 ≤ ((ji13) : Int) := of_decide_eq_true (by first | (with_reducible assumption) | assumption)
                   have q16 : (ji13) < (a0.size : Int) := of_decide_eq_true (by first | (with_reducible assumption) | assumption)
                   have hx16 := bt_at a0 (ji13)
                   replace p16 := eq_true p16
                   replace q16 := eq_true q16
                   have p59 : 0 ≤ ((ji13) : Int) := of_decide_eq_true (by first | (with_reducible assumption) | assumption)
                   have q59 : (ji13) < (a0.size : Int) := of_decide_eq_true (by first | (with_reducible assumption) | assumption)
                   have hx59 := bt_at a0 (ji13)
                   replace p59 := eq_true p59
                   replace q59 := eq_true q59
                   have p64 : 0 ≤ ((ji61) : Int) := of_decide_eq_true (by first | (with_reducible assumption) | assumption)
                   have q64 : (ji61) < (a0.size : Int) := of_decide_eq_true (by first | (with_reducible assumption) | assumption)
                   have hx64 := bt_at a0 (ji61)
                   replace p64 := eq_true p64
                   replace q64 := eq_true q64
                   have p99 : 0 ≤ (x4_1 : Int) := of_decide_eq_true (by first | (with_reducible assumption) | assumption)
                   have q99 : (x4_1 : Int) < ((x3_1.length : Int) : Int) := of_decide_eq_true (by first | (with_reducible assumption) | assumption)
                   obtain ⟨go99, co99, eo99, gb99, gl99, cl99, HG99⟩ := Kd.R_form HO_3.out (by omega)
                   (first | cases eo99 | (injection eo99 with ea_ en_ ec_; (first | subst ea_ | (injection ea_ with ea_; subst ea_)); subst ec_; clear en_))
                   have GB99 := Aside0.mk gb99
                   have GG99 := Aside0.mk HG99
                   clear gb99 gl99 HG99
                   obtain ⟨hx99_0, hf99_0⟩ := Kd.R_celln 0 HO_3.out (x4_1 : Int) p99 q99
                   replace p99 := eq_true p99
                   replace q99 := eq_true q99
                   have HP100 := Kd.R_putg HO_3.out (x4_1 : Int) (bt a0 x5_1)
                   go_wp2_with (first | ((with_reducible refine gate_store (t := 5) (p := 104) rfl ?_); refine store_event (t := 5) (p := 104) (v := ?vo_w101) (w1 := (wr.setCell ⟨go99, (x4_1 : Int).toNat, none⟩ (.int .u8 (bt a0 x5_1)))) ?hg ?ho ?hn ?hr ?_; (case ho => rfl); (case hg => rfl); (case hn => rfl); (case hr => first | (go_simp; done) | (go_simp; rfl)); intro w101 hw; have hg : wr.grownBy w101 (some go99) := (by rw [hw]; exact HP100.2); have hp_ : Kd.R (Kd.int .u8) 5 w101 w.heap.size (fun _ => True) (.slice (some ⟨go99, 0, none⟩) x3_1.length co99) y122 := (by rw [hw, Ny122.out]; exact HP100.1); clear HP100; have n0_ := Aside0.mk (hp_); have n1_ := Aside0.mk ((by rw [hw]; exact below_set (HB.out) GB99.out : Below w.heap.size w w101)); clear HO_3; clear HB; have HO_3 := n0_; have HB := n1_; clear n0_ n1_; clear hg hw hp_))
                   go_roundg k1
                   case measure => have := HK1.out; omega
                   case rel => exact ⟨(y122), (wrap64 (x4_1 + 1)), (ji13), (by first | rfl | (simp; done) | (simp [*]; done) | (simp [bne_nil]; done) | (simp [bne_nil, *]; done)), (by first | rfl | (simp; done) | (simp only [← hji13] <;> (first | rfl | simp)) | (simp [*]; done)), H', ⟨by have := HK1.out; omega⟩, ⟨by (with_reducible repeat (first | apply Kd.R_alloc | apply Kd.R_drewN | apply Kd.R_drew)); exact HO_3.out⟩, ⟨by repeat (first | (with_reducible first | exact HB.out | apply below_alloc | apply pw_below_drewN | apply below_drew1) | exact HB.out)⟩⟩
                  ·rw [if_neg c98] at H
                   exact absurd H (by simp)
                 ·rw [if_neg c97] at H
                  exact absurd H (by simp)
               ·rw [if_neg c63] at H
                exact absurd H (by simp)
              ·rw [if_neg c62] at H
               exact absurd H (by simp)
             ·rw [if_neg c60] at H
              have c60b0 : ((bt a0 (ji13)) == 49) = false := beq_eq_false_iff_ne.mpr c60
              have c60b1 : ((bt a0 (ji13)) != 49) = true := bne_iff_ne.mpr c60
              by_cases c102 : 0 ≤ x4_1
              ·rw [if_pos c102] at H
               have c102b0 : decide (0 ≤ x4_1) = true := decide_eq_true c102
               clear c102
               by_cases c103 : x4_1 < (x3_1.length : Int)
               ·rw [if_pos c103] at H
                have c103b0 : decide (x4_1 < (x3_1.length : Int)) = true := decide_eq_true c103
                clear c103
                obtain ⟨y123, hy123⟩ : ∃ y_ : List Int, y_ = (x3_1.set (x4_1 : Int).toNat (bt a0 x5_1)) := ⟨_, rfl⟩
                replace H : (mountinfo_unescape.l0 k1 a0 y123 (wrap64 (x4_1 + 1)) ji13) = some r := by first | (rw [hy123]; with_reducible exact H) | (have H2_ := (Option.bind_some _ _).symm.trans H; rw [hy123]; with_reducible exact H2_) | (have H2_ := (Option.bind_some _ _).symm.trans H; with_reducible exact H2_) | with_reducible exact H | (rw [hy123]; exact H) | exact H
                have Ny123 := Aside0.mk hy123
                clear hy123
                have H' := Aside0.mk H
                clear H
                have p10 : 0 ≤ (x5_1 : Int) := of_decide_eq_true (by first | (with_reducible assumption) | assumption)
                have q10 : x5_1 < (a0.size : Int) := of_decide_eq_true (by first | (with_reducible assumption) | assumption)
                have hx10 := bt_at a0 x5_1
                replace p10 := eq_true p10
                replace q10 := eq_true q10
                have p16 : 0 ≤ ((ji13) : Int) := of_decide_eq_true (by first | (with_reducible assumption) | assumption)
                have q16 : (ji13) < (a0.size : Int) := of_decide_eq_true (by first | (with_reducible assumption) | assumption)
                have hx16 := bt_at a0 (ji13)
                replace p16 := eq_true p16
                replace q16 := eq_true q16
                have p59 : 0 ≤ ((ji13) : Int) := of_decide_eq_true (by first | (with_reducible assumption) | assumption)
                have q59 : (ji13) < (a0.size : Int) := of_decide_eq_true (by first | (with_reducible assumption) | assumption)
                have hx59 := bt_at a0 (ji13)
                replace p59 := eq_true p59
                replace q59 := eq_true q59
                have p104 : 0 ≤ (x4_1 : Int) := of_decide_eq_true (by first | (with_reducible assumption) | assumption)
                have q104 : (x4_1 : Int) < ((x3_1.length : Int) : Int) := of_decide_eq_true (by first | (with_reducible assumption) | assumption)
                obtain ⟨go104, co104, eo104, gb104, gl104, cl104, HG104⟩ := Kd.R_form HO_3.out (by omega)
                (first | cases eo104 | (injection eo104 with ea_ en_ ec_; (first | subst ea_ | (injection ea_ with ea_; subst ea_)); subst ec_; clear en_))
                have GB104 := Aside0.mk gb104
                have GG104 := Aside0.mk HG104
                clear gb104 gl104 HG104
                obtain ⟨hx104_0, hf104_0⟩ := Kd.R_celln 0 HO_3.out (x4_1 : Int) p104 q104
                replace p104 := eq_true p104
                replace q104 := eq_true q104
                have HP105 := Kd.R_putg HO_3.out (x4_1 : Int) (bt a0 x5_1)
                go_wp2_with (first | ((with_reducible refine gate_store (t := 5) (p := 104) rfl ?_); refine store_event (t := 5) (p := 104) (v := ?vo_w106) (w1 := (wr.setCell ⟨go104, (x4_1 : Int).toNat, none⟩ (.int .u8 (bt a0 x5_1)))) ?hg ?ho ?hn ?hr ?_; (case ho => rfl); (case hg => rfl); (case hn => rfl); (case hr => first | (go_simp; done) | (go_simp; rfl)); intro w106 hw; have hg : wr.grownBy w106 (some go104) := (by rw [hw]; exact HP105.2); have hp_ : Kd.R (Kd.int .u8) 5 w106 w.heap.size (fun _ => True) (.slice (some ⟨go104, 0, none⟩) x3_1.length co104) y123 := (by rw [hw, Ny123.out]; exact HP105.1); clear HP105; have n0_ := Aside0.mk (hp_); have n1_ := Aside0.mk ((by rw [hw]; exact below_set (HB.out) GB104.out : Below w.heap.size w w106)); clear HO_3; clear HB; have HO_3 := n0_; have HB := n1_; clear n0_ n1_; clear hg hw hp_))
                go_roundg k1
                case measure => have := HK1.out; omega
                case rel => exact ⟨(y123), (wrap64 (x4_1 + 1)), (ji13), (by first | rfl | (simp; done) | (simp [*]; done) | (simp [bne_nil]; done) | (simp [bne_nil, *]; done)), (by first | rfl | (simp; done) | (simp only [← hji13] <;> (first | rfl | simp)) | (simp [*]; done)), H', ⟨by have := HK1.out; omega⟩, ⟨by (with_reducible repeat (first | apply Kd.R_alloc | apply Kd.R_drewN | apply Kd.R_drew)); exact HO_3.out⟩, ⟨by repeat (first | (with_reducible first | exact HB.out | apply below_alloc | apply pw_below_drewN | apply below_drew1) | exact HB.out)⟩⟩
               ·rw [if_neg c103] at H
                exact absurd H (by simp)
              ·rw [if_neg c102] at H
               exact absurd H (by simp)
           ·rw [if_neg c15] at H
            exact absurd H (by simp)
          ·rw [if_neg c14] at H
           exact absurd H (by simp)
         ·rw [if_neg c12] at H
          have c12b0 : decide ((wrap64 (x5_1 + 3)) < (a0.size : Int)) = false := decide_eq_false c12
          clear c12
          by_cases c107 : 0 ≤ x4_1
          ·rw [if_pos c107] at H
           have c107b0 : decide (0 ≤ x4_1) = true := decide_eq_true c107
           clear c107
           by_cases c108 : x4_1 < (x3_1.length : Int)
           ·rw [if_pos c108] at H
            have c108b0 : decide (x4_1 < (x3_1.length : Int)) = true := decide_eq_true c108
            clear c108
            obtain ⟨y124, hy124⟩ : ∃ y_ : List Int, y_ = (x3_1.set (x4_1 : Int).toNat (bt a0 x5_1)) := ⟨_, rfl⟩
            replace H : (mountinfo_unescape.l0 k1 a0 y124 (wrap64 (x4_1 + 1)) (wrap64 (x5_1 + 1))) = some r := by first | (rw [hy124]; with_reducible exact H) | (have H2_ := (Option.bind_some _ _).symm.trans H; rw [hy124]; with_reducible exact H2_) | (have H2_ := (Option.bind_some _ _).symm.trans H; with_reducible exact H2_) | with_reducible exact H | (rw [hy124]; exact H) | exact H
            have Ny124 := Aside0.mk hy124
            clear hy124
            have H' := Aside0.mk H
            clear H
            have p10 : 0 ≤ (x5_1 : Int) := of_decide_eq_true (by first | (with_reducible assumption) | assumption)
            have q10 : x5_1 < (a0.size : Int) := of_decide_eq_true (by first | (with_reducible assumption) | assumption)
            have hx10 := bt_at a0 x5_1
            replace p10 := eq_true p10
            replace q10 := eq_true q10
            have p109 : 0 ≤ (x4_1 : Int) := of_decide_eq_true (by first | (with_reducible assumption) | assumption)
            have q109 : (x4_1 : Int) < ((x3_1.length : Int) : Int) := of_decide_eq_true (by first | (with_reducible assumption) | assumption)
            obtain ⟨go109, co109, eo109, gb109, gl109, cl109, HG109⟩ := Kd.R_form HO_3.out (by omega)
            (first | cases eo109 | (injection eo109 with ea_ en_ ec_; (first | subst ea_ | (injection ea_ with ea_; subst ea_)); subst ec_; clear en_))
            have GB109 := Aside0.mk gb109
            have GG109 := Aside0.mk HG109
            clear gb109 gl109 HG109
            obtain ⟨hx109_0, hf109_0⟩ := Kd.R_celln 0 HO_3.out (x4_1 : Int) p109 q109
            replace p109 := eq_true p109
            replace q109 := eq_true q109
            have HP110 := Kd.R_putg HO_3.out (x4_1 : Int) (bt a0 x5_1)
            go_wp2_with (first | ((with_reducible refine gate_store (t := 5) (p := 104) rfl ?_); refine store_event (t := 5) (p := 104) (v := ?vo_w111) (w1 := (wr.setCell ⟨go109, (x4_1 : Int).toNat, none⟩ (.int .u8 (bt a0 x5_1)))) ?hg ?ho ?hn ?hr ?_; (case ho => rfl); (case hg => rfl); (case hn => rfl); (case hr => first | (go_simp; done) | (go_simp; rfl)); intro w111 hw; have hg : wr.grownBy w111 (some go109) := (by rw [hw]; exact HP110.2); have hp_ : Kd.R (Kd.int .u8) 5 w111 w.heap.size (fun _ => True) (.slice (some ⟨go109, 0, none⟩) x3_1.length co109) y124 := (by rw [hw, Ny124.out]; exact HP110.1); clear HP110; have n0_ := Aside0.mk (hp_); have n1_ := Aside0.mk ((by rw [hw]; exact below_set (HB.out) GB109.out : Below w.heap.size w w111)); clear HO_3; clear HB; have HO_3 := n0_; have HB := n1_; clear n0_ n1_; clear hg hw hp_))
            go_roundg k1
            case measure => have := HK1.out; omega
            case rel => exact ⟨(y124), (wrap64 (x4_1 + 1)), (wrap64 (x5_1 + 1)), (by first | rfl | (simp; done) | (simp [*]; done) | (simp [bne_nil]; done) | (simp [bne_nil, *]; done)), (by first | rfl | (simp; done) | (simp [*]; done) | (simp [bne_nil]; done) | (simp [bne_nil, *]; done)), H', ⟨by have := HK1.out; omega⟩, ⟨by (with_reducible repeat (first | apply Kd.R_alloc | apply Kd.R_drewN | apply Kd.R_drew)); exact HO_3.out⟩, ⟨by repeat (first | (with_reducible first | exact HB.out | apply below_alloc | apply pw_below_drewN | apply below_drew1) | exact HB.out)⟩⟩
           ·rw [if_neg c108] at H
            exact absurd H (by simp)
          ·rw [if_neg c107] at H
           exact absurd H (by simp)
        ·rw [if_neg c11] at H
         have c11b0 : ((bt a0 x5_1) == 92) = false := beq_eq_false_iff_ne.mpr c11
         have c11b1 : ((bt a0 x5_1) != 92) = true := bne_iff_ne.mpr c11
         by_cases c112 : 0 ≤ x4_1
         ·rw [if_pos c112] at H
          have c112b0 : decide (0 ≤ x4_1) = true := decide_eq_true c112
          clear c112
          by_cases c113 : x4_1 < (x3_1.length : Int)
          ·rw [if_pos c113] at H
           have c113b0 : decide (x4_1 < (x3_1.length : Int)) = true := decide_eq_true c113
           clear c113
           obtain ⟨y125, hy125⟩ : ∃ y_ : List Int, y_ = (x3_1.set (x4_1 : Int).toNat (bt a0 x5_1)) := ⟨_, rfl⟩
           replace H : (mountinfo_unescape.l0 k1 a0 y125 (wrap64 (x4_1 + 1)) (wrap64 (x5_1 + 1))) = some r := by first | (rw [hy125]; with_reducible exact H) | (have H2_ := (Option.bind_some _ _).symm.trans H; rw [hy125]; with_reducible exact H2_) | (have H2_ := (Option.bind_some _ _).symm.trans H; with_reducible exact H2_) | with_reducible exact H | (rw [hy125]; exact H) | exact H
           have Ny125 := Aside0.mk hy125
           clear hy125
           have H' := Aside0.mk H
           clear H
           have p10 : 0 ≤ (x5_1 : Int) := of_decide_eq_true (by first | (with_reducible assumption) | assumption)
           have q10 : x5_1 < (a0.size : Int) := of_decide_eq_true (by first | (with_reducible assumption) | assumption)
           have hx10 := bt_at a0 x5_1
           replace p10 := eq_true p10
           replace q10 := eq_true q10
           have p114 : 0 ≤ (x4_1 : Int) := of_decide_eq_true (by first | (with_reducible assumption) | assumption)
           have q114 : (x4_1 : Int) < ((x3_1.length : Int) : Int) := of_decide_eq_true (by first | (with_reducible assumption) | assumption)
           obtain ⟨go114, co114, eo114, gb114, gl114, cl114, HG114⟩ := Kd.R_form HO_3.out (by omega)
           (first | cases eo114 | (injection eo114 with ea_ en_ ec_; (first | subst ea_ | (injection ea_ with ea_; subst ea_)); subst ec_; clear en_))
           have GB114 := Aside0.mk gb114
           have GG114 := Aside0.mk HG114
           clear gb114 gl114 HG114
           obtain ⟨hx114_0, hf114_0⟩ := Kd.R_celln 0 HO_3.out (x4_1 : Int) p114 q114
           replace p114 := eq_true p114
           replace q114 := eq_true q114
           have HP115 := Kd.R_putg HO_3.out (x4_1 : Int) (bt a0 x5_1)
           go_wp2_with (first | ((with_reducible refine gate_store (t := 5) (p := 104) rfl ?_); refine store_event (t := 5) (p := 104) (v := ?vo_w116) (w1 := (wr.setCell ⟨go114, (x4_1 : Int).toNat, none⟩ (.int .u8 (bt a0 x5_1)))) ?hg ?ho ?hn ?hr ?_; (case ho => rfl); (case hg => rfl); (case hn => rfl); (case hr => first | (go_simp; done) | (go_simp; rfl)); intro w116 hw; have hg : wr.grownBy w116 (some go114) := (by rw [hw]; exact HP115.2); have hp_ : Kd.R (Kd.int .u8) 5 w116 w.heap.size (fun _ => True) (.slice (some ⟨go114, 0, none⟩) x3_1.length co114) y125 := (by rw [hw, Ny125.out]; exact HP115.1); clear HP115; have n0_ := Aside0.mk (hp_); have n1_ := Aside0.mk ((by rw [hw]; exact below_set (HB.out) GB114.out : Below w.heap.size w w116)); clear HO_3; clear HB; have HO_3 := n0_; have HB := n1_; clear n0_ n1_; clear hg hw hp_))
           go_roundg k1
           case measure => have := HK1.out; omega
           case rel => exact ⟨(y125), (wrap64 (x4_1 + 1)), (wrap64 (x5_1 + 1)), (by first | rfl | (simp; done) | (simp [*]; done) | (simp [bne_nil]; done) | (simp [bne_nil, *]; done)), (by first | rfl | (simp; done) | (simp [*]; done) | (simp [bne_nil]; done) | (simp [bne_nil, *]; done)), H', ⟨by have := HK1.out; omega⟩, ⟨by (with_reducible repeat (first | apply Kd.R_alloc | apply Kd.R_drewN | apply Kd.R_drew)); exact HO_3.out⟩, ⟨by repeat (first | (with_reducible first | exact HB.out | apply below_alloc | apply pw_below_drewN | apply below_drew1) | exact HB.out)⟩⟩
          ·rw [if_neg c113] at H
           exact absurd H (by simp)
         ·rw [if_neg c112] at H
          exact absurd H (by simp)
       ·rw [if_neg c9] at H
        exact absurd H (by simp)
      ·rw [if_neg c8] at H
       have c8b0 : decide (x5_1 < (a0.size : Int)) = false := decide_eq_false c8
       clear c8
       by_cases c117 : 0 ≤ x4_1
       ·rw [if_pos c117] at H
        have c117b0 := eq_true c117
        have c117b1 : decide (0 ≤ x4_1) = true := decide_eq_true c117
        clear c117
        by_cases c118 : x4_1 ≤ (x3_1.length : Int)
        ·rw [if_pos c118] at H
         have c118b0 := eq_true c118
         have c118b1 : decide (x4_1 ≤ (x3_1.length : Int)) = true := decide_eq_true c118
         clear c118
         obtain ⟨y126, hy126⟩ : ∃ y_ : List Int, y_ = (x3_1.take (x4_1 : Int).toNat) := ⟨_, rfl⟩
         replace H : (some (strOfNums y126)) = some r := by first | (rw [hy126]; with_reducible exact H) | (have H2_ := (Option.bind_some _ _).symm.trans H; rw [hy126]; with_reducible exact H2_) | (have H2_ := (Option.bind_some _ _).symm.trans H; with_reducible exact H2_) | with_reducible exact H | (rw [hy126]; exact H) | exact H
         have Ny126 := Aside0.mk hy126
         clear hy126
         obtain rfl := Option.some.inj H
         obtain ⟨Ao120, co120, eo120⟩ := Kd.R_slice HO_3.out
         subst eo120
         have q119 : (x4_1 : Int) ≤ ((x3_1.length : Int) : Int) := of_decide_eq_true (by first | (with_reducible assumption) | assumption)
         obtain ⟨i0119, hi0119, _, hsz119, _⟩ := info_parts info5
         have hroom119 : x3_1.length ≤ co120 := (Kd.R_reads' HO_3.out).2.1
         have hC119 : Kd.C (Kd.int .u8) _ Ao120 x3_1.length x3_1 := (Kd.R_reads' HO_3.out).2.2
         have hcut119 := cut_to (P := Tryd.prog) 82 5 .i64 Tryd.underlying82 hi0119 Ao120 x3_1.length co120 x4_1 (of_decide_eq_true (by first | (with_reducible assumption) | assumption)) q119 hroom119
         have hr119 := Kd.C_take (m := (x4_1 : Int).toNat) hC119 (by omega)
         have hy119 : y126.length = (x4_1 : Int).toNat := (by rw [Ny126.out, List.length_take]; omega)
         rw [← Ny126.out] at hr119
         rw [← hy119] at hcut119
         have HR129 := Aside0.mk hr119
         have HC129 := Aside0.mk (show y126.length ≤ co120 from by omega)
         clear hr119 hC119 hroom119 hi0119 hsz119
         have KY119 := Aside0.mk hy119
         clear hy119
         have KL119 := Aside0.mk (show (x4_1 : Int).toNat ≤ x3_1.length from by omega)
         replace q119 := eq_true q119
         have hcv121 := Kd.C_string (P := Tryd.prog) (A := Ao120) (c := co120) Tryd.underlying82 Tryd.underlying5 Tryd.underlying9 (by repeat (first | (with_reducible exact HR129.out) | (with_reducible refine Kd.C_alloc ?_ _) | (with_reducible refine Kd.C_drewN ?_ _) | (with_reducible refine Kd.C_drew ?_) | exact HR129.out))
         go_wp2
         go_ret
         exact ⟨by first | rfl | (simp [errW_none, errW_some] <;> rfl) | (simp [*, errW_none, errW_some] <;> rfl), by repeat (first | (with_reducible first | exact HB.out | apply below_alloc | apply pw_below_drewN | apply below_drew1) | exact HB.out)⟩
        ·rw [if_neg c118] at H
         exact absurd H (by simp)
       ·rw [if_neg c117] at H
        exact absurd H (by simp)
   ·rw [if_neg c5] at H
    exact absurd H (by simp)
  ·rw [if_neg c4] at H
   exact absurd H (by simp)

end Go.Proofs.YtokojamaigebaaaDoor.U
