-- written by a program of this session (wip/tools/pp.py)
import Derived.Test.YtokojamaigebaaaDoorK1
namespace Go.Proofs.YtokojamaigebaaaDoor.K
open Go.RowKit Go.Proofs.YtokojamaigebaaaDoorW.PrintWords Go.Proofs.YtokojamaigebaaaDoorW.PrintLast Go.Proofs.YtokojamaigebaaaDoor.M Go.Proofs.YtokojamaigebaaaDoor.MtDoorE Go.Proofs.YtokojamaigebaaaDoor.L Go.Proofs.YtokojamaigebaaaDoorW.PrintMore
attribute [local go_sem] max2_int min2_int max_two min_two max_three min_three max_four min_four   -- for this text's walks alone
set_option linter.unusedVariables false
set_option linter.unusedSimpArgs false

attribute [local go_sem high] eqA23
/-! ### laws_all: function 13 -/
def laws_all.f  : Option (Int × List ByteArray) := some (0, ([] : List ByteArray))
set_option maxHeartbeats 8000000 in
set_option maxRecDepth 100000 in
theorem laws_all.calls  (r1 : Int) (r2 : List ByteArray) (w : World) (h : laws_all.f  = some (r1, r2)) :
  Calls Tryd.prog 13 #[] w fun e w' => ∃ v1_ : Value, e = .returned (.agg #[.int .i64 r1, v1_]) ∧ Kd.R Kd.string 9 w' w.heap.size (fun _ => True) v1_ r2 ∧ Below w.heap.size w w' := by
 have hu33 := Tryd.underlying33
 have HB := Aside0.mk (Below.refl w.heap.size w)
 have H : (some (0, ([] : List ByteArray))) = some (r1, r2) := h
 clear h
 simp only [Option.some.injEq, Prod.mk.injEq] at H
 obtain ⟨rfl, rfl⟩ := H
 go_enter Tryd.func13, Tryd.ntmps13
 go_wp2_with (first | ((with_reducible refine gate_dst (N := 0) rfl ?_); refine box_event ?hg (N := 0) ?hd (cs := #[.int .i64 0, .slice none 0 0]) (t := 33) ?hr ?_; (case hd => rfl); (case hg => rfl); (case hr => first | (go_simp; done) | (go_simp; rfl)); intro gb101 hg w1 hbox hb; have n0_ := Aside0.mk (below_step belH hb); have n1_ := Aside0.mk (hbox); have n2_ := Aside0.mk ((by rw [hg]; exact (below_size belH) : w.heap.size ≤ gb101)); have n3_ := Aside0.mk ((by rw [hg]; exact (below_size belH) : w.heap.size ≤ gb101)); clear HB; have HB := n0_; have BK101 := n1_; have GW101 := n2_; have GE101 := n3_; clear n0_ n1_ n2_ n3_; clear hb hbox hg; have hcz2_0 : w1.cell? ⟨gb101, 0, none⟩ = some (.int .i64 0) := (blk_cell BK101.out 0).trans rfl; have hcz2_1 : w1.cell? ⟨gb101, 1, none⟩ = some (.slice none 0 0) := (blk_cell BK101.out 1).trans rfl; have hfz2_0 := blk_frozen BK101.out 0; have hfz2_1 := blk_frozen BK101.out 1))
 refine bodyPost_ret (results_cell_row rfl _ _ gb101 33 #[.int .i64 0, .slice none 0 0] (0, 0) _ rfl (by refine bY ?_; refine blk_put (cs := #[.int .i64 0, .slice none 0 0]) ?_ 1 _ rfl; refine bY ?_; refine blk_put (cs := #[.int .i64 0, .slice none 0 0]) ?_ 0 _ rfl; refine bY ?_; exact BK101.out) Tryd.underlying33 rfl (by kernel_rfl)) rfl ?_
 exact ⟨_, by first | rfl | (simp [errW_none, errW_some] <;> rfl) | (simp [*, errW_none, errW_some] <;> rfl), by first | exact Kd.R_nil _ _ _ _ _ | exact Kd.N_nil _ _ _ _ _ | exact Kd.V_nil _ _ _ _ _ | exact Kd.Q_nil _ _ _ _ _ | exact Kd.S_nil _ _ _ _ _, by repeat (first | (with_reducible first | exact HB.out | apply below_alloc | apply pw_below_drewN | apply below_drew1 | refine below_set ?_ GE101.out) | exact HB.out)⟩

/-! ### laws_mounts: function 10 -/
def laws_mounts.f  : Option (Bool) := (laws_all.f).bind fun bt102 => ((impl_MountsE.f (⟨#[51, 54, 32, 51, 53, 32, 57, 56, 58, 48, 32, 47, 109, 110, 116, 49, 32, 47, 109, 110, 116, 50, 32, 114, 119, 44, 110, 111, 97, 116, 105, 109, 101, 32, 109, 97, 115, 116, 101, 114, 58, 49, 32, 45, 32, 101, 120, 116, 51, 32, 47, 100, 101, 118, 47, 114, 111, 111, 116, 32, 114, 119, 44, 101, 114, 114, 111, 114, 115, 61, 99, 111, 110, 116, 105, 110, 117, 101, 10]⟩ : ByteArray) bt102.1 bt102.2).bind fun bt106 => (if bt106.2 = 0 then (if (bt106.1.length : Int) = 1 then (if 0 < (bt106.1.length : Int) then (some (((rd_T23 bt106.1 0).f0) == 36 && (((rd_T23 bt106.1 0).f1) == 35 && (((rd_T23 bt106.1 0).f2) == 98 && (((rd_T23 bt106.1 0).f3) == 0 && ((((rd_T23 bt106.1 0).f4).toList) == ([47, 109, 110, 116, 49] : List UInt8) && ((((rd_T23 bt106.1 0).f5).toList) == ([47, 109, 110, 116, 50] : List UInt8) && ((((rd_T23 bt106.1 0).f6).toList) == ([114, 119, 44, 110, 111, 97, 116, 105, 109, 101] : List UInt8) && ((((rd_T23 bt106.1 0).f7).toList) == ([109, 97, 115, 116, 101, 114, 58, 49] : List UInt8) && ((((rd_T23 bt106.1 0).f8).toList) == ([101, 120, 116, 51] : List UInt8) && ((((rd_T23 bt106.1 0).f9).toList) == ([47, 100, 101, 118, 47, 114, 111, 111, 116] : List UInt8) && ((((rd_T23 bt106.1 0).f10).toList) == ([114, 119, 44, 101, 114, 114, 111, 114, 115, 61, 99, 111, 110, 116, 105, 110, 117, 101] : List UInt8))))))))))))) else (none)) else (some false)) else (some false)))
set_option maxHeartbeats 8000000 in
set_option maxRecDepth 100000 in
theorem laws_mounts.calls  (r : Bool) (w : World) (h : laws_mounts.f  = some r) (hTabs : Tabs w := by first | exact hTabs | exact Tabs.below hTabs (by repeat (first | (with_reducible first | exact HB.out | apply below_alloc | apply pw_below_drewN | apply below_drew1 | refine below_set ?_ (Aside0.out (by assumption))) | exact HB.out))) :
  Calls Tryd.prog 10 #[] w fun e w' => e = .returned (.bool r) ∧ Below w.heap.size w w' := by
 have hu23 := Tryd.underlying23
 have HB := Aside0.mk (Below.refl w.heap.size w)
 have H : ((laws_all.f).bind fun bt102 => ((impl_MountsE.f (⟨#[51, 54, 32, 51, 53, 32, 57, 56, 58, 48, 32, 47, 109, 110, 116, 49, 32, 47, 109, 110, 116, 50, 32, 114, 119, 44, 110, 111, 97, 116, 105, 109, 101, 32, 109, 97, 115, 116, 101, 114, 58, 49, 32, 45, 32, 101, 120, 116, 51, 32, 47, 100, 101, 118, 47, 114, 111, 111, 116, 32, 114, 119, 44, 101, 114, 114, 111, 114, 115, 61, 99, 111, 110, 116, 105, 110, 117, 101, 10]⟩ : ByteArray) bt102.1 bt102.2).bind fun bt106 => (if bt106.2 = 0 then (if (bt106.1.length : Int) = 1 then (if 0 < (bt106.1.length : Int) then (some (((rd_T23 bt106.1 0).f0) == 36 && (((rd_T23 bt106.1 0).f1) == 35 && (((rd_T23 bt106.1 0).f2) == 98 && (((rd_T23 bt106.1 0).f3) == 0 && ((((rd_T23 bt106.1 0).f4).toList) == ([47, 109, 110, 116, 49] : List UInt8) && ((((rd_T23 bt106.1 0).f5).toList) == ([47, 109, 110, 116, 50] : List UInt8) && ((((rd_T23 bt106.1 0).f6).toList) == ([114, 119, 44, 110, 111, 97, 116, 105, 109, 101] : List UInt8) && ((((rd_T23 bt106.1 0).f7).toList) == ([109, 97, 115, 116, 101, 114, 58, 49] : List UInt8) && ((((rd_T23 bt106.1 0).f8).toList) == ([101, 120, 116, 51] : List UInt8) && ((((rd_T23 bt106.1 0).f9).toList) == ([47, 100, 101, 118, 47, 114, 111, 111, 116] : List UInt8) && ((((rd_T23 bt106.1 0).f10).toList) == ([114, 119, 44, 101, 114, 114, 111, 114, 115, 61, 99, 111, 110, 116, 105, 110, 117, 101] : List UInt8))))))))))))) else (none)) else (some false)) else (some false)))) = some r := h
 clear h
 replace H := Option.bind_eq_some_iff.mp H
 obtain ⟨⟨t102, t103⟩, A10, H⟩ := H
 have A1 := Aside0.mk A10
 clear A10
 replace H := Option.bind_eq_some_iff.mp H
 obtain ⟨⟨t106, t109⟩, A20, H⟩ := H
 have A2 := Aside0.mk A20
 clear A20
 by_cases c3 : t109 = 0
 ·rw [if_pos c3] at H
  have c3b0 : (t109 == 0) = true := beq_iff_eq.mpr c3
  have c3b1 : (t109 != 0) = false := bne_eq_false_iff_eq.mpr c3
  clear c3
  by_cases c4 : (t106.length : Int) = 1
  ·rw [if_pos c4] at H
   have c4b0 : ((t106.length : Int) == 1) = true := beq_iff_eq.mpr c4
   have c4b1 : ((t106.length : Int) != 1) = false := bne_eq_false_iff_eq.mpr c4
   clear c4
   by_cases c5 : 0 < (t106.length : Int)
   ·rw [if_pos c5] at H
    have c5b0 : decide (0 < (t106.length : Int)) = true := decide_eq_true c5
    have c5b1 : decide (0 < t106.length) = true := decide_eq_true (by omega)
    clear c5
    obtain rfl := Option.some.inj H
    go_enter Tryd.func10, Tryd.ntmps10
    go_wp2_with (first | ((with_reducible refine gate_callee (f := 13) rfl ?_); refine goesL_ (some 4) rfl rfl Tryd.func13 (by kernel_rfl) rfl #[] rfl (by (try simp only [List.map_toArray, List.map_cons, List.map_nil]); first | done | rfl | (simp only [List.length_drop, List.length_take]; rfl)) ?_; (with_reducible refine (laws_all.calls  t102 t103 _ A1.out).mono ?_); rintro e w6 ⟨v104, rfl, ho0, hb⟩; refine ⟨_, rfl, ?_⟩; have n0_ := Aside0.mk (Kd.R_lower ho0 (below_size belH)); have n1_ := Aside0.mk (below_step belH hb); clear HB; have HO105 := n0_; have HB := n1_; clear n0_ n1_; (try clear hb); (try clear hb2); (try clear hk); (try clear hi); (try clear ho0); obtain ⟨Ao7, co7, eo7⟩ := Kd.R_slice HO105.out; subst eo7) | ((with_reducible refine gate_callee (f := 9) rfl ?_); refine goesL_ (some 5) rfl rfl Tryd.func9 (by kernel_rfl) rfl #[.string (⟨#[51, 54, 32, 51, 53, 32, 57, 56, 58, 48, 32, 47, 109, 110, 116, 49, 32, 47, 109, 110, 116, 50, 32, 114, 119, 44, 110, 111, 97, 116, 105, 109, 101, 32, 109, 97, 115, 116, 101, 114, 58, 49, 32, 45, 32, 101, 120, 116, 51, 32, 47, 100, 101, 118, 47, 114, 111, 111, 116, 32, 114, 119, 44, 101, 114, 114, 111, 114, 115, 61, 99, 111, 110, 116, 105, 110, 117, 101, 10]⟩ : ByteArray), .agg #[.int .i64 t102, .slice Ao7 t103.length co7]] rfl (by (try simp only [List.map_toArray, List.map_cons, List.map_nil]); first | done | rfl | (simp only [List.length_drop, List.length_take]; rfl)) ?_; (with_reducible refine (impl_MountsE.calls (⟨#[51, 54, 32, 51, 53, 32, 57, 56, 58, 48, 32, 47, 109, 110, 116, 49, 32, 47, 109, 110, 116, 50, 32, 114, 119, 44, 110, 111, 97, 116, 105, 109, 101, 32, 109, 97, 115, 116, 101, 114, 58, 49, 32, 45, 32, 101, 120, 116, 51, 32, 47, 100, 101, 118, 47, 114, 111, 111, 116, 32, 114, 119, 44, 101, 114, 114, 111, 114, 115, 61, 99, 111, 110, 116, 105, 110, 117, 101, 10]⟩ : ByteArray) t102 _ _ t103 t106 t109 _ ?side1 ?side2 A2.out).mono ?_); (case side1 => repeat (first | exact (Kd.R_reads' HO105.out).2.2 | (with_reducible refine Kd.C_alloc ?_ _) | (with_reducible refine Kd.C_drewN ?_ _) | (with_reducible refine Kd.C_drew ?_))); (case side2 => exact (Kd.R_reads' HO105.out).2.1); rintro e w8 ⟨v107, rfl, ho0, hb⟩; refine ⟨_, rfl, ?_⟩; have n0_ := Aside0.mk (Kd.R_below (by (with_reducible repeat (first | apply Kd.R_alloc | apply Kd.R_drewN | apply Kd.R_drew)); exact HO105.out) hb); have n1_ := Aside0.mk (Kd.R_lower ho0 (below_size belH)); have n2_ := Aside0.mk (below_step belH hb); clear HO105; clear HB; have HO105 := n0_; have HO108 := n1_; have HB := n2_; clear n0_ n1_ n2_; (try clear hb); (try clear hb2); (try clear hk); (try clear hi); (try clear ho0); obtain ⟨Ao9, co9, eo9⟩ := Kd.R_slice HO108.out; subst eo9; have p110 : 0 ≤ (0 : Int) := (by omega); have q110 : 0 < (t106.length : Int) := of_decide_eq_true (by first | (with_reducible assumption) | assumption); obtain ⟨ad110, e110, hx110_0, hx110_1, hx110_2, hx110_3, hx110_4, hx110_5, hx110_6, hx110_7, hx110_8, hx110_9, hx110_10⟩ := at_T23 (Kd.R_reads' HO108.out).2.2 0 p110 q110; cases e110; have qi110 : (0 < t106.length) = True := eq_true (by omega); (try rw [show ((0 : Int)).toNat = 0 from rfl] at hx110_0); (try rw [show 0 * 11 = 0 from rfl] at hx110_0); (try rw [Addr.add_zero'] at hx110_0); (try rw [show ((0 : Int)).toNat = 0 from rfl] at hx110_1); (try rw [show 0 * 11 = 0 from rfl] at hx110_1); (try rw [Addr.add_zero'] at hx110_1); (try rw [show ((0 : Int)).toNat = 0 from rfl] at hx110_2); (try rw [show 0 * 11 = 0 from rfl] at hx110_2); (try rw [Addr.add_zero'] at hx110_2); (try rw [show ((0 : Int)).toNat = 0 from rfl] at hx110_3); (try rw [show 0 * 11 = 0 from rfl] at hx110_3); (try rw [Addr.add_zero'] at hx110_3); (try rw [show ((0 : Int)).toNat = 0 from rfl] at hx110_4); (try rw [show 0 * 11 = 0 from rfl] at hx110_4); (try rw [Addr.add_zero'] at hx110_4); (try rw [show ((0 : Int)).toNat = 0 from rfl] at hx110_5); (try rw [show 0 * 11 = 0 from rfl] at hx110_5); (try rw [Addr.add_zero'] at hx110_5); (try rw [show ((0 : Int)).toNat = 0 from rfl] at hx110_6); (try rw [show 0 * 11 = 0 from rfl] at hx110_6); (try rw [Addr.add_zero'] at hx110_6); (try rw [show ((0 : Int)).toNat = 0 from rfl] at hx110_7); (try rw [show 0 * 11 = 0 from rfl] at hx110_7); (try rw [Addr.add_zero'] at hx110_7); (try rw [show ((0 : Int)).toNat = 0 from rfl] at hx110_8); (try rw [show 0 * 11 = 0 from rfl] at hx110_8); (try rw [Addr.add_zero'] at hx110_8); (try rw [show ((0 : Int)).toNat = 0 from rfl] at hx110_9); (try rw [show 0 * 11 = 0 from rfl] at hx110_9); (try rw [Addr.add_zero'] at hx110_9); (try rw [show ((0 : Int)).toNat = 0 from rfl] at hx110_10); (try rw [show 0 * 11 = 0 from rfl] at hx110_10); (try rw [Addr.add_zero'] at hx110_10); replace p110 := eq_true p110; replace q110 := eq_true q110))
    go_ret
    exact ⟨by first | rfl | (simp [errW_none, errW_some] <;> rfl) | (simp [*, errW_none, errW_some] <;> rfl), by repeat (first | (with_reducible first | exact HB.out | apply below_alloc | apply pw_below_drewN | apply below_drew1) | exact HB.out)⟩
   ·rw [if_neg c5] at H
    exact absurd H (by simp)
  ·rw [if_neg c4] at H
   have c4b0 : ((t106.length : Int) == 1) = false := beq_eq_false_iff_ne.mpr c4
   have c4b1 : ((t106.length : Int) != 1) = true := bne_iff_ne.mpr c4
   obtain rfl := Option.some.inj H
   go_enter Tryd.func10, Tryd.ntmps10
   go_wp2_with (first | ((with_reducible refine gate_callee (f := 13) rfl ?_); refine goesL_ (some 4) rfl rfl Tryd.func13 (by kernel_rfl) rfl #[] rfl (by (try simp only [List.map_toArray, List.map_cons, List.map_nil]); first | done | rfl | (simp only [List.length_drop, List.length_take]; rfl)) ?_; (with_reducible refine (laws_all.calls  t102 t103 _ A1.out).mono ?_); rintro e w10 ⟨v104, rfl, ho0, hb⟩; refine ⟨_, rfl, ?_⟩; have n0_ := Aside0.mk (Kd.R_lower ho0 (below_size belH)); have n1_ := Aside0.mk (below_step belH hb); clear HB; have HO105 := n0_; have HB := n1_; clear n0_ n1_; (try clear hb); (try clear hb2); (try clear hk); (try clear hi); (try clear ho0); obtain ⟨Ao11, co11, eo11⟩ := Kd.R_slice HO105.out; subst eo11) | ((with_reducible refine gate_callee (f := 9) rfl ?_); refine goesL_ (some 5) rfl rfl Tryd.func9 (by kernel_rfl) rfl #[.string (⟨#[51, 54, 32, 51, 53, 32, 57, 56, 58, 48, 32, 47, 109, 110, 116, 49, 32, 47, 109, 110, 116, 50, 32, 114, 119, 44, 110, 111, 97, 116, 105, 109, 101, 32, 109, 97, 115, 116, 101, 114, 58, 49, 32, 45, 32, 101, 120, 116, 51, 32, 47, 100, 101, 118, 47, 114, 111, 111, 116, 32, 114, 119, 44, 101, 114, 114, 111, 114, 115, 61, 99, 111, 110, 116, 105, 110, 117, 101, 10]⟩ : ByteArray), .agg #[.int .i64 t102, .slice Ao11 t103.length co11]] rfl (by (try simp only [List.map_toArray, List.map_cons, List.map_nil]); first | done | rfl | (simp only [List.length_drop, List.length_take]; rfl)) ?_; (with_reducible refine (impl_MountsE.calls (⟨#[51, 54, 32, 51, 53, 32, 57, 56, 58, 48, 32, 47, 109, 110, 116, 49, 32, 47, 109, 110, 116, 50, 32, 114, 119, 44, 110, 111, 97, 116, 105, 109, 101, 32, 109, 97, 115, 116, 101, 114, 58, 49, 32, 45, 32, 101, 120, 116, 51, 32, 47, 100, 101, 118, 47, 114, 111, 111, 116, 32, 114, 119, 44, 101, 114, 114, 111, 114, 115, 61, 99, 111, 110, 116, 105, 110, 117, 101, 10]⟩ : ByteArray) t102 _ _ t103 t106 t109 _ ?side1 ?side2 A2.out).mono ?_); (case side1 => repeat (first | exact (Kd.R_reads' HO105.out).2.2 | (with_reducible refine Kd.C_alloc ?_ _) | (with_reducible refine Kd.C_drewN ?_ _) | (with_reducible refine Kd.C_drew ?_))); (case side2 => exact (Kd.R_reads' HO105.out).2.1); rintro e w12 ⟨v107, rfl, ho0, hb⟩; refine ⟨_, rfl, ?_⟩; have n0_ := Aside0.mk (Kd.R_below (by (with_reducible repeat (first | apply Kd.R_alloc | apply Kd.R_drewN | apply Kd.R_drew)); exact HO105.out) hb); have n1_ := Aside0.mk (Kd.R_lower ho0 (below_size belH)); have n2_ := Aside0.mk (below_step belH hb); clear HO105; clear HB; have HO105 := n0_; have HO108 := n1_; have HB := n2_; clear n0_ n1_ n2_; (try clear hb); (try clear hb2); (try clear hk); (try clear hi); (try clear ho0); obtain ⟨Ao13, co13, eo13⟩ := Kd.R_slice HO108.out; subst eo13))
   go_ret
   exact ⟨by first | rfl | (simp [errW_none, errW_some] <;> rfl) | (simp [*, errW_none, errW_some] <;> rfl), by repeat (first | (with_reducible first | exact HB.out | apply below_alloc | apply pw_below_drewN | apply below_drew1) | exact HB.out)⟩
 ·rw [if_neg c3] at H
  have c3b0 : (t109 == 0) = false := beq_eq_false_iff_ne.mpr c3
  have c3b1 : (t109 != 0) = true := bne_iff_ne.mpr c3
  obtain rfl := Option.some.inj H
  go_enter Tryd.func10, Tryd.ntmps10
  go_wp2_with (first | ((with_reducible refine gate_callee (f := 13) rfl ?_); refine goesL_ (some 4) rfl rfl Tryd.func13 (by kernel_rfl) rfl #[] rfl (by (try simp only [List.map_toArray, List.map_cons, List.map_nil]); first | done | rfl | (simp only [List.length_drop, List.length_take]; rfl)) ?_; (with_reducible refine (laws_all.calls  t102 t103 _ A1.out).mono ?_); rintro e w14 ⟨v104, rfl, ho0, hb⟩; refine ⟨_, rfl, ?_⟩; have n0_ := Aside0.mk (Kd.R_lower ho0 (below_size belH)); have n1_ := Aside0.mk (below_step belH hb); clear HB; have HO105 := n0_; have HB := n1_; clear n0_ n1_; (try clear hb); (try clear hb2); (try clear hk); (try clear hi); (try clear ho0); obtain ⟨Ao15, co15, eo15⟩ := Kd.R_slice HO105.out; subst eo15) | ((with_reducible refine gate_callee (f := 9) rfl ?_); refine goesL_ (some 5) rfl rfl Tryd.func9 (by kernel_rfl) rfl #[.string (⟨#[51, 54, 32, 51, 53, 32, 57, 56, 58, 48, 32, 47, 109, 110, 116, 49, 32, 47, 109, 110, 116, 50, 32, 114, 119, 44, 110, 111, 97, 116, 105, 109, 101, 32, 109, 97, 115, 116, 101, 114, 58, 49, 32, 45, 32, 101, 120, 116, 51, 32, 47, 100, 101, 118, 47, 114, 111, 111, 116, 32, 114, 119, 44, 101, 114, 114, 111, 114, 115, 61, 99, 111, 110, 116, 105, 110, 117, 101, 10]⟩ : ByteArray), .agg #[.int .i64 t102, .slice Ao15 t103.length co15]] rfl (by (try simp only [List.map_toArray, List.map_cons, List.map_nil]); first | done | rfl | (simp only [List.length_drop, List.length_take]; rfl)) ?_; (with_reducible refine (impl_MountsE.calls (⟨#[51, 54, 32, 51, 53, 32, 57, 56, 58, 48, 32, 47, 109, 110, 116, 49, 32, 47, 109, 110, 116, 50, 32, 114, 119, 44, 110, 111, 97, 116, 105, 109, 101, 32, 109, 97, 115, 116, 101, 114, 58, 49, 32, 45, 32, 101, 120, 116, 51, 32, 47, 100, 101, 118, 47, 114, 111, 111, 116, 32, 114, 119, 44, 101, 114, 114, 111, 114, 115, 61, 99, 111, 110, 116, 105, 110, 117, 101, 10]⟩ : ByteArray) t102 _ _ t103 t106 t109 _ ?side1 ?side2 A2.out).mono ?_); (case side1 => repeat (first | exact (Kd.R_reads' HO105.out).2.2 | (with_reducible refine Kd.C_alloc ?_ _) | (with_reducible refine Kd.C_drewN ?_ _) | (with_reducible refine Kd.C_drew ?_))); (case side2 => exact (Kd.R_reads' HO105.out).2.1); rintro e w16 ⟨v107, rfl, ho0, hb⟩; refine ⟨_, rfl, ?_⟩; have n0_ := Aside0.mk (Kd.R_below (by (with_reducible repeat (first | apply Kd.R_alloc | apply Kd.R_drewN | apply Kd.R_drew)); exact HO105.out) hb); have n1_ := Aside0.mk (Kd.R_lower ho0 (below_size belH)); have n2_ := Aside0.mk (below_step belH hb); clear HO105; clear HB; have HO105 := n0_; have HO108 := n1_; have HB := n2_; clear n0_ n1_ n2_; (try clear hb); (try clear hb2); (try clear hk); (try clear hi); (try clear ho0)))
  go_ret
  exact ⟨by first | rfl | (simp [errW_none, errW_some] <;> rfl) | (simp [*, errW_none, errW_some] <;> rfl), by repeat (first | (with_reducible first | exact HB.out | apply below_alloc | apply pw_below_drewN | apply below_drew1) | exact HB.out)⟩

/-! ### spec_cutLines: function 27 -/
def spec_cutLines.l0 : Nat → ByteArray → List ByteArray → Int → Int → Int → Option (List ByteArray)
 | 0, _, _, _, _, _ => none
 | k + 1, x0, x3, x4, x7, x8 => if x8 < x7 then (if 0 ≤ x8 then (if x8 < (x0.size : Int) then (if (bt x0 x8) = 10 then (if 0 ≤ x4 then (if x4 ≤ x8 then (if x8 ≤ (x0.size : Int) then (if x3.length < 8796093022208 then (spec_cutLines.l0 k x0 (x3 ++ [x0.extract (x4 : Int).toNat (x8 : Int).toNat]) (wrap64 (x8 + 1)) x7 (wrap64 (x8 + 1))) else (none)) else (none)) else (none)) else (none)) else (spec_cutLines.l0 k x0 x3 x4 x7 (wrap64 (x8 + 1)))) else (none)) else (none)) else (if x4 < (x0.size : Int) then (if 0 ≤ x4 then (if x4 ≤ (x0.size : Int) then (if x3.length < 8796093022208 then (some (x3 ++ [x0.extract (x4 : Int).toNat x0.size])) else (none)) else (none)) else (none)) else (some x3))
def spec_cutLines.f (k : Nat) (a0 : ByteArray) : Option (List ByteArray) := spec_cutLines.l0 k a0 ([] : List ByteArray) 0 (a0.size : Int) 0
theorem spec_cutLines.mono_l : ∀ k, (∀ y0 y1 y2 y3 y4, LeO (spec_cutLines.l0 k y0 y1 y2 y3 y4) (spec_cutLines.l0 (k + 1) y0 y1 y2 y3 y4))
 | 0 => fun _ _ _ _ _ r h => by simp [spec_cutLines.l0] at h
 | k + 1 => by
  have ih0 := spec_cutLines.mono_l k
  ·intro y0 y1 y2 y3 y4
   unfold spec_cutLines.l0
   repeat' first
   | (with_reducible exact ih0 _ _ _ _ _)
   | (with_reducible exact LeO.refl _)
   | (with_reducible exact LeO.none _)
   | (with_reducible refine LeO.ite ?_ ?_)
   | (with_reducible refine LeO.bind ?_ (fun _ => ?_))
   | exact ih0 _ _ _ _ _
   | exact LeO.none _
   | refine LeO.ite ?_ ?_
   | refine LeO.bind ?_ (fun _ => ?_)
theorem spec_cutLines.mono : ∀ a0 k, LeO (spec_cutLines.f k a0) (spec_cutLines.f (k + 1) a0) := by
 intro a0 k
 have ih0 := spec_cutLines.mono_l k
 unfold spec_cutLines.f
 repeat' first
   | (with_reducible exact ih0 _ _ _ _ _)
   | (with_reducible exact LeO.refl _)
   | (with_reducible exact LeO.none _)
   | (with_reducible refine LeO.ite ?_ ?_)
   | (with_reducible refine LeO.bind ?_ (fun _ => ?_))
   | exact ih0 _ _ _ _ _
   | exact LeO.none _
   | refine LeO.ite ?_ ?_
   | refine LeO.bind ?_ (fun _ => ?_)
set_option maxHeartbeats 8000000 in
set_option maxRecDepth 100000 in
theorem spec_cutLines.calls (k : Nat) (a0 : ByteArray) (r : List ByteArray) (w : World) (h : spec_cutLines.f k a0 = some r) :
  Calls Tryd.prog 27 #[.string a0] w fun e w' => ∃ v0_ : Value, e = .returned (v0_) ∧ Kd.R Kd.string 9 w' w.heap.size (fun _ => True) v0_ r ∧ Below w.heap.size w w' := by
 have HB := Aside0.mk (Below.refl w.heap.size w)
 have H : (spec_cutLines.l0 k a0 ([] : List ByteArray) 0 (a0.size : Int) 0) = some r := h
 clear h
 have H' := Aside0.mk H
 clear H
 go_enter Tryd.func27, Tryd.ntmps27
 go_wp2
 go_loopg [3, 4, 8] k (fun kq v3 v4 v8 w' => ∃ (x3_1 : List ByteArray) (x4_1 : Int) (x8_1 : Int), v4 = .int .i64 x4_1 ∧ v8 = .int .i64 x8_1 ∧ Aside0 (spec_cutLines.l0 kq a0 x3_1 x4_1 (a0.size : Int) x8_1 = some r) ∧ Aside0 (kq ≤ k) ∧ Aside0 (Kd.R Kd.string 9 w' w.heap.size (fun _ => True) v3 x3_1) ∧ Aside0 (Below w.heap.size w w'))
 case atStart => exact ⟨(([] : List ByteArray)), (0), (0), (by first | rfl | (simp; done) | (simp [*]; done) | (simp [bne_nil]; done) | (simp [bne_nil, *]; done)), (by first | rfl | (simp; done) | (simp [*]; done) | (simp [bne_nil]; done) | (simp [bne_nil, *]; done)), H', ⟨Nat.le_refl _⟩, ⟨by first | exact Kd.R_nil _ _ _ _ _ | exact Kd.N_nil _ _ _ _ _ | exact Kd.V_nil _ _ _ _ _ | exact Kd.Q_nil _ _ _ _ _ | exact Kd.S_nil _ _ _ _ _⟩, ⟨by repeat (first | (with_reducible first | exact HB.out | apply below_alloc | apply pw_below_drewN | apply below_drew1) | exact HB.out)⟩⟩
 case round =>
  clear H'
  obtain ⟨x3_1, x4_1, x8_1, rfl, rfl, HA, HK1, HO_3, HB⟩ := hrel
  cases gk with
  | zero => exact absurd HA.out (by simp [spec_cutLines.l0])
  | succ k1 =>
   have H := HA.out
   clear HA
   simp only [spec_cutLines.l0] at H
   by_cases c2 : x8_1 < (a0.size : Int)
   ·rw [if_pos c2] at H
    have c2b0 : decide (x8_1 < (a0.size : Int)) = true := decide_eq_true c2
    clear c2
    by_cases c3 : 0 ≤ x8_1
    ·rw [if_pos c3] at H
     have c3b0 : decide (0 ≤ x8_1) = true := decide_eq_true c3
     clear c3
     by_cases c4 : x8_1 < (a0.size : Int)
     ·rw [if_pos c4] at H
      have c4b0 : decide (x8_1 < (a0.size : Int)) = true := decide_eq_true c4
      clear c4
      by_cases c6 : (bt a0 x8_1) = 10
      ·rw [if_pos c6] at H
       have c6b0 : ((bt a0 x8_1) == 10) = true := beq_iff_eq.mpr c6
       have c6b1 : ((bt a0 x8_1) != 10) = false := bne_eq_false_iff_eq.mpr c6
       clear c6
       by_cases c7 : 0 ≤ x4_1
       ·rw [if_pos c7] at H
        have c7b0 := eq_true c7
        have c7b1 : decide (0 ≤ x4_1) = true := decide_eq_true c7
        clear c7
        by_cases c8 : x4_1 ≤ x8_1
        ·rw [if_pos c8] at H
         have c8b0 := eq_true c8
         have c8b1 : decide (x4_1 ≤ x8_1) = true := decide_eq_true c8
         clear c8
         by_cases c9 : x8_1 ≤ (a0.size : Int)
         ·rw [if_pos c9] at H
          have c9b0 := eq_true c9
          have c9b1 : decide (x8_1 ≤ (a0.size : Int)) = true := decide_eq_true c9
          clear c9
          by_cases c10 : x3_1.length < 8796093022208
          ·rw [if_pos c10] at H
           have LMc10 := Aside0.mk c10
           clear c10
           obtain ⟨y111, hy111⟩ : ∃ y_ : List ByteArray, y_ = (x3_1 ++ [a0.extract (x4_1 : Int).toNat (x8_1 : Int).toNat]) := ⟨_, rfl⟩
           replace H : (spec_cutLines.l0 k1 a0 y111 (wrap64 (x8_1 + 1)) (a0.size : Int) (wrap64 (x8_1 + 1))) = some r := by first | (rw [hy111]; with_reducible exact H) | (have H2_ := (Option.bind_some _ _).symm.trans H; rw [hy111]; with_reducible exact H2_) | (have H2_ := (Option.bind_some _ _).symm.trans H; with_reducible exact H2_) | with_reducible exact H | (rw [hy111]; exact H) | exact H
           have Ny111 := Aside0.mk hy111
           clear hy111
           have H' := Aside0.mk H
           clear H
           have p5 : 0 ≤ (x8_1 : Int) := of_decide_eq_true (by first | (with_reducible assumption) | assumption)
           have q5 : x8_1 < (a0.size : Int) := of_decide_eq_true (by first | (with_reducible assumption) | assumption)
           have hx5 := bt_at a0 x8_1
           replace p5 := eq_true p5
           replace q5 := eq_true q5
           go_wp2_with (first | ((with_reducible refine gate_builtin (b := .append) (xs := #[.tmp 15, .tmp 20]) rfl ?_); at_builtin; refine Kd.R_append Kd.string (w0 := w) w.heap.size rfl (.tmp 15) (.tmp 20) 31 9 (.string ⟨#[]⟩) 16 rfl Tryd.underlying31 info9 rfl (by decide) (by omega) u3 x3_1 (a0.extract (x4_1 : Int).toNat (x8_1 : Int).toNat) [.string (a0.extract (x4_1 : Int).toNat (x8_1 : Int).toNat)] (fun _ => True) (fun _ => False) rfl rfl ?aP (fun _ hk => hk.elim) ?aF ?aO ?aB ?aS ?aL ?_; (case aP => exact rfl); (case aB => exact belH); (case aF => exact (fun _ _ => trivial)); (case aO => exact (by (with_reducible repeat (first | apply Kd.R_alloc | apply Kd.R_drewN | apply Kd.R_drew)); exact HO_3.out)); (case aS => exact (below_size belH)); (case aL => have := LMc10.out; omega); intro v112 w11 ho hb hg hat; rw [← Ny111.out] at ho; have n0_ := Aside0.mk (hb); have n1_ := Aside0.mk (ho); clear HB; clear HO_3; have HB := n0_; have HO113 := n1_; clear n0_ n1_; clear ho hb hg hat))
           go_roundg k1
           case measure => have := HK1.out; omega
           case rel => exact ⟨(y111), (wrap64 (x8_1 + 1)), (wrap64 (x8_1 + 1)), (by first | rfl | (simp; done) | (simp [*]; done) | (simp [bne_nil]; done) | (simp [bne_nil, *]; done)), (by first | rfl | (simp; done) | (simp [*]; done) | (simp [bne_nil]; done) | (simp [bne_nil, *]; done)), H', ⟨by have := HK1.out; omega⟩, ⟨by (with_reducible repeat (first | apply Kd.R_alloc | apply Kd.R_drewN | apply Kd.R_drew)); exact HO113.out⟩, ⟨by repeat (first | (with_reducible first | exact HB.out | apply below_alloc | apply pw_below_drewN | apply below_drew1) | exact HB.out)⟩⟩
          ·rw [if_neg c10] at H
           exact absurd H (by simp)
         ·rw [if_neg c9] at H
          exact absurd H (by simp)
        ·rw [if_neg c8] at H
         exact absurd H (by simp)
       ·rw [if_neg c7] at H
        exact absurd H (by simp)
      ·rw [if_neg c6] at H
       have c6b0 : ((bt a0 x8_1) == 10) = false := beq_eq_false_iff_ne.mpr c6
       have c6b1 : ((bt a0 x8_1) != 10) = true := bne_iff_ne.mpr c6
       have H' := Aside0.mk H
       clear H
       have p5 : 0 ≤ (x8_1 : Int) := of_decide_eq_true (by first | (with_reducible assumption) | assumption)
       have q5 : x8_1 < (a0.size : Int) := of_decide_eq_true (by first | (with_reducible assumption) | assumption)
       have hx5 := bt_at a0 x8_1
       replace p5 := eq_true p5
       replace q5 := eq_true q5
       go_wp2
       go_roundg k1
       case measure => have := HK1.out; omega
       case rel => exact ⟨(x3_1), (x4_1), (wrap64 (x8_1 + 1)), (by first | rfl | (simp; done) | (simp [*]; done) | (simp [bne_nil]; done) | (simp [bne_nil, *]; done)), (by first | rfl | (simp; done) | (simp [*]; done) | (simp [bne_nil]; done) | (simp [bne_nil, *]; done)), H', ⟨by have := HK1.out; omega⟩, ⟨by (with_reducible repeat (first | apply Kd.R_alloc | apply Kd.R_drewN | apply Kd.R_drew)); exact HO_3.out⟩, ⟨by repeat (first | (with_reducible first | exact HB.out | apply below_alloc | apply pw_below_drewN | apply below_drew1) | exact HB.out)⟩⟩
     ·rw [if_neg c4] at H
      exact absurd H (by simp)
    ·rw [if_neg c3] at H
     exact absurd H (by simp)
   ·rw [if_neg c2] at H
    have c2b0 : decide (x8_1 < (a0.size : Int)) = false := decide_eq_false c2
    clear c2
    by_cases c12 : x4_1 < (a0.size : Int)
    ·rw [if_pos c12] at H
     have c12b0 : decide (x4_1 < (a0.size : Int)) = true := decide_eq_true c12
     clear c12
     by_cases c13 : 0 ≤ x4_1
     ·rw [if_pos c13] at H
      have c13b0 := eq_true c13
      have c13b1 : decide (0 ≤ x4_1) = true := decide_eq_true c13
      clear c13
      by_cases c14 : x4_1 ≤ (a0.size : Int)
      ·rw [if_pos c14] at H
       have c14b0 := eq_true c14
       have c14b1 : decide (x4_1 ≤ (a0.size : Int)) = true := decide_eq_true c14
       clear c14
       by_cases c15 : x3_1.length < 8796093022208
       ·rw [if_pos c15] at H
        have LMc15 := Aside0.mk c15
        clear c15
        obtain ⟨y114, hy114⟩ : ∃ y_ : List ByteArray, y_ = (x3_1 ++ [a0.extract (x4_1 : Int).toNat a0.size]) := ⟨_, rfl⟩
        replace H : (some y114) = some r := by first | (rw [hy114]; with_reducible exact H) | (have H2_ := (Option.bind_some _ _).symm.trans H; rw [hy114]; with_reducible exact H2_) | (have H2_ := (Option.bind_some _ _).symm.trans H; with_reducible exact H2_) | with_reducible exact H | (rw [hy114]; exact H) | exact H
        have Ny114 := Aside0.mk hy114
        clear hy114
        obtain rfl := Option.some.inj H
        go_wp2_with (first | ((with_reducible refine gate_builtin (b := .append) (xs := #[.tmp 29, .tmp 33]) rfl ?_); at_builtin; refine Kd.R_append Kd.string (w0 := w) w.heap.size rfl (.tmp 29) (.tmp 33) 31 9 (.string ⟨#[]⟩) 16 rfl Tryd.underlying31 info9 rfl (by decide) (by omega) u3 x3_1 (a0.extract (x4_1 : Int).toNat a0.size) [.string (a0.extract (x4_1 : Int).toNat a0.size)] (fun _ => True) (fun _ => False) rfl rfl ?aP (fun _ hk => hk.elim) ?aF ?aO ?aB ?aS ?aL ?_; (case aP => exact rfl); (case aB => exact belH); (case aF => exact (fun _ _ => trivial)); (case aO => exact (by (with_reducible repeat (first | apply Kd.R_alloc | apply Kd.R_drewN | apply Kd.R_drew)); exact HO_3.out)); (case aS => exact (below_size belH)); (case aL => have := LMc15.out; omega); intro v115 w16 ho hb hg hat; rw [← Ny114.out] at ho; have n0_ := Aside0.mk (hb); have n1_ := Aside0.mk (ho); clear HB; clear HO_3; have HB := n0_; have HO116 := n1_; clear n0_ n1_; clear ho hb hg hat))
        go_ret
        exact ⟨_, by first | rfl | (simp [errW_none, errW_some] <;> rfl) | (simp [*, errW_none, errW_some] <;> rfl), by (with_reducible repeat (first | apply Kd.R_alloc | apply Kd.R_drewN | apply Kd.R_drew)); exact HO116.out, by repeat (first | (with_reducible first | exact HB.out | apply below_alloc | apply pw_below_drewN | apply below_drew1) | exact HB.out)⟩
       ·rw [if_neg c15] at H
        exact absurd H (by simp)
      ·rw [if_neg c14] at H
       exact absurd H (by simp)
     ·rw [if_neg c13] at H
      exact absurd H (by simp)
    ·rw [if_neg c12] at H
     have c12b0 : decide (x4_1 < (a0.size : Int)) = false := decide_eq_false c12
     clear c12
     obtain rfl := Option.some.inj H
     go_wp2
     go_ret
     exact ⟨_, by first | rfl | (simp [errW_none, errW_some] <;> rfl) | (simp [*, errW_none, errW_some] <;> rfl), by (with_reducible repeat (first | apply Kd.R_alloc | apply Kd.R_drewN | apply Kd.R_drew)); exact HO_3.out, by repeat (first | (with_reducible first | exact HB.out | apply below_alloc | apply pw_below_drewN | apply below_drew1) | exact HB.out)⟩

/-! ### spec_number: function 29 -/
mutual
def spec_number.l0 : Nat → ByteArray → Int → Int → Int → Option (Int × Bool)
 | 0, _, _, _, _ => none
 | k + 1, x0, x4, x7, x8 => if x8 < x7 then (if 0 ≤ x8 then (if x8 < (x0.size : Int) then (if (bt x0 x8) < 48 then (spec_number.j1 k x0 x4 x8 x7 x8 true) else (spec_number.j1 k x0 x4 x8 x7 x8 (decide ((bt x0 x8) > 57)))) else (none)) else (none)) else (if x0.toList = ([] : List UInt8) then (some (x4, false)) else (if 0 < (x0.size : Int) then (if (bt x0 0) = 48 then (some (x4, ((x0.size : Int) == 1))) else (some (x4, true))) else (none)))
def spec_number.j1 : Nat → ByteArray → Int → Int → Int → Int → Bool → Option (Int × Bool)
 | 0, _, _, _, _, _, _ => none
 | k + 1, x0, x4, x5, x7, x8, x20 => if x20 = true then (some (0, false)) else (if 0 ≤ x5 then (if x5 < (x0.size : Int) then (if (wrap64 ((wrap64 (10 * x4)) + (((bt x0 x5) - 48) % 256))) > 2147483647 then (some (0, false)) else (spec_number.l0 k x0 (wrap64 ((wrap64 (10 * x4)) + (((bt x0 x5) - 48) % 256))) x7 (wrap64 (x8 + 1)))) else (none)) else (none))
end
def spec_number.f (k : Nat) (a0 : ByteArray) : Option (Int × Bool) := spec_number.l0 k a0 0 (a0.size : Int) 0
theorem spec_number.mono_l : ∀ k, (∀ y0 y1 y2 y3, LeO (spec_number.l0 k y0 y1 y2 y3) (spec_number.l0 (k + 1) y0 y1 y2 y3)) ∧ (∀ y0 y1 y2 y3 y4 y5, LeO (spec_number.j1 k y0 y1 y2 y3 y4 y5) (spec_number.j1 (k + 1) y0 y1 y2 y3 y4 y5))
 | 0 => ⟨fun _ _ _ _ r h => by simp [spec_number.l0] at h, fun _ _ _ _ _ _ r h => by simp [spec_number.j1] at h⟩
 | k + 1 => by
  obtain ⟨ih0, ih1⟩ := spec_number.mono_l k
  refine ⟨?_, ?_⟩
  ·intro y0 y1 y2 y3
   unfold spec_number.l0
   repeat' first
   | (with_reducible exact ih0 _ _ _ _)
   | (with_reducible exact ih1 _ _ _ _ _ _)
   | (with_reducible exact LeO.refl _)
   | (with_reducible exact LeO.none _)
   | (with_reducible refine LeO.ite ?_ ?_)
   | (with_reducible refine LeO.bind ?_ (fun _ => ?_))
   | exact ih0 _ _ _ _
   | exact ih1 _ _ _ _ _ _
   | exact LeO.none _
   | refine LeO.ite ?_ ?_
   | refine LeO.bind ?_ (fun _ => ?_)
  ·intro y0 y1 y2 y3 y4 y5
   unfold spec_number.j1
   repeat' first
   | (with_reducible exact ih0 _ _ _ _)
   | (with_reducible exact ih1 _ _ _ _ _ _)
   | (with_reducible exact LeO.refl _)
   | (with_reducible exact LeO.none _)
   | (with_reducible refine LeO.ite ?_ ?_)
   | (with_reducible refine LeO.bind ?_ (fun _ => ?_))
   | exact ih0 _ _ _ _
   | exact ih1 _ _ _ _ _ _
   | exact LeO.none _
   | refine LeO.ite ?_ ?_
   | refine LeO.bind ?_ (fun _ => ?_)
theorem spec_number.mono : ∀ a0 k, LeO (spec_number.f k a0) (spec_number.f (k + 1) a0) := by
 intro a0 k
 obtain ⟨ih0, ih1⟩ := spec_number.mono_l k
 unfold spec_number.f
 repeat' first
   | (with_reducible exact ih0 _ _ _ _)
   | (with_reducible exact ih1 _ _ _ _ _ _)
   | (with_reducible exact LeO.refl _)
   | (with_reducible exact LeO.none _)
   | (with_reducible refine LeO.ite ?_ ?_)
   | (with_reducible refine LeO.bind ?_ (fun _ => ?_))
   | exact ih0 _ _ _ _
   | exact ih1 _ _ _ _ _ _
   | exact LeO.none _
   | refine LeO.ite ?_ ?_
   | refine LeO.bind ?_ (fun _ => ?_)
set_option maxHeartbeats 8000000 in
set_option maxRecDepth 100000 in
theorem spec_number.calls (k : Nat) (a0 : ByteArray) (r1 : Int) (r2 : Bool) (w : World) (h : spec_number.f k a0 = some (r1, r2)) :
  Calls Tryd.prog 29 #[.string a0] w fun e w' => e = .returned (.tuple #[.int .i64 r1, .bool r2]) ∧ Drawn0 w w' := by
 have H : (spec_number.l0 k a0 0 (a0.size : Int) 0) = some (r1, r2) := h
 clear h
 have H' := Aside0.mk H
 clear H
 go_enter Tryd.func29, Tryd.ntmps29
 go_wp2
 go_loopg [4, 8] k (fun kq v4 v8 w' => ∃ (x4_1 : Int) (x8_1 : Int), v4 = .int .i64 x4_1 ∧ v8 = .int .i64 x8_1 ∧ Aside0 (spec_number.l0 kq a0 x4_1 (a0.size : Int) x8_1 = some (r1, r2)) ∧ Aside0 (kq ≤ k) ∧ Drawn0 w w')
 case atStart => exact ⟨(0), (0), (by first | rfl | (simp; done) | (simp [*]; done) | (simp [bne_nil]; done) | (simp [bne_nil, *]; done)), (by first | rfl | (simp; done) | (simp [*]; done) | (simp [bne_nil]; done) | (simp [bne_nil, *]; done)), H', ⟨Nat.le_refl _⟩, by repeat (first | exact Drawn0.refl _ | apply Drawn0.step)⟩
 case round =>
  clear H'
  obtain ⟨x4_1, x8_1, rfl, rfl, HA, HK1, ⟨m1, rfl⟩⟩ := hrel
  cases gk with
  | zero => exact absurd HA.out (by simp [spec_number.l0])
  | succ k1 =>
   have H := HA.out
   clear HA
   simp only [spec_number.l0] at H
   by_cases c2 : x8_1 < (a0.size : Int)
   ·rw [if_pos c2] at H
    have c2b0 : decide (x8_1 < (a0.size : Int)) = true := decide_eq_true c2
    clear c2
    have HC3 := Aside0.mk H
    clear H
    go_upto_region 5 with (fail)
    go_cut [20] (fun v20 wc => ∃ (kq : Nat) (x20_2 : Bool), v20 = .bool x20_2 ∧ Aside0 (spec_number.j1 kq a0 x4_1 x8_1 (a0.size : Int) x8_1 x20_2 = some (r1, r2)) ∧ Aside0 (kq ≤ k1) ∧ Drawn0 w wc)
    case first =>
     have H := HC3.out
     clear HC3
     by_cases c4 : 0 ≤ x8_1
     ·rw [if_pos c4] at H
      have c4b0 : decide (0 ≤ x8_1) = true := decide_eq_true c4
      clear c4
      (first | rw [c4b0] | (simp only [i64_w, i32_w]; rw [c4b0]) | skip)
      by_cases c5 : x8_1 < (a0.size : Int)
      ·rw [if_pos c5] at H
       have c5b0 : decide (x8_1 < (a0.size : Int)) = true := decide_eq_true c5
       clear c5
       by_cases c7 : (bt a0 x8_1) < 48
       ·rw [if_pos c7] at H
        have c7b0 : decide ((bt a0 x8_1) < 48) = true := decide_eq_true c7
        clear c7
        have H' := Aside0.mk H
        clear H
        have p6 : 0 ≤ (x8_1 : Int) := of_decide_eq_true (by first | (with_reducible assumption) | assumption)
        have q6 : x8_1 < (a0.size : Int) := of_decide_eq_true (by first | (with_reducible assumption) | assumption)
        have hx6 := bt_at a0 x8_1
        replace p6 := eq_true p6
        replace q6 := eq_true q6
        go_wp2
        go_meet
        case rel => exact ⟨_, (true), (by first | rfl | (simp; done) | (simp [*]; done) | (simp [bne_nil]; done) | (simp [bne_nil, *]; done)), H', ⟨by have := HK1.out; first | omega | exact Nat.le_refl _⟩, by repeat (first | exact Drawn0.refl _ | apply Drawn0.step)⟩
       ·rw [if_neg c7] at H
        have c7b0 : decide ((bt a0 x8_1) < 48) = false := decide_eq_false c7
        clear c7
        have H' := Aside0.mk H
        clear H
        have p6 : 0 ≤ (x8_1 : Int) := of_decide_eq_true (by first | (with_reducible assumption) | assumption)
        have q6 : x8_1 < (a0.size : Int) := of_decide_eq_true (by first | (with_reducible assumption) | assumption)
        have hx6 := bt_at a0 x8_1
        replace p6 := eq_true p6
        replace q6 := eq_true q6
        have p8 : 0 ≤ (x8_1 : Int) := of_decide_eq_true (by first | (with_reducible assumption) | assumption)
        have q8 : x8_1 < (a0.size : Int) := of_decide_eq_true (by first | (with_reducible assumption) | assumption)
        have hx8 := bt_at a0 x8_1
        replace p8 := eq_true p8
        replace q8 := eq_true q8
        go_wp2
        go_meet
        case rel => exact ⟨_, (decide ((bt a0 x8_1) > 57)), (by first | rfl | (simp; done) | (simp [*]; done) | (simp [bne_nil]; done) | (simp [bne_nil, *]; done)), H', ⟨by have := HK1.out; first | omega | exact Nat.le_refl _⟩, by repeat (first | exact Drawn0.refl _ | apply Drawn0.step)⟩
      ·rw [if_neg c5] at H
       exact absurd H (by simp)
     ·rw [if_neg c4] at H
      exact absurd H (by simp)
    case rest =>
     clear HC3
     try clear c2
     try clear c2b0
     try clear p2
     try clear c4
     try clear c4b0
     try clear c5
     try clear c5b0
     try clear p6
     try clear q6
     try clear hx6
     try clear c7
     try clear c7b0
     try clear p8
     try clear q8
     try clear hx8
     try clear p6
     try clear p8
     try clear q6
     try clear q8
     obtain ⟨kq, x20_2, rfl, HA, HJ2, ⟨mc2, rfl⟩⟩ := hcut
     cases kq with
     | zero => exact absurd HA.out (by simp [spec_number.j1])
     | succ kj2 =>
      have H := HA.out
      clear HA
      simp only [spec_number.j1] at H
      by_cases c9 : x20_2 = true
      ·subst c9
       have H1 : (some (0, false)) = some (r1, r2) := by rw [if_pos rfl] at H; exact H
       clear H
       have H := H1
       clear H1
       simp only [Option.some.injEq, Prod.mk.injEq] at H
       obtain ⟨rfl, rfl⟩ := H
       go_wp2
       go_ret2
       exact ⟨by first | rfl | (simp; done) | (simp [*]; done) | (simp [bne_nil]; done) | (simp [bne_nil, *]; done), by repeat (first | exact Drawn0.refl _ | apply Drawn0.step)⟩
      ·replace c9 := Bool.eq_false_iff.mpr c9
       subst c9
       have H1 : (if 0 ≤ x8_1 then (if x8_1 < (a0.size : Int) then (if (wrap64 ((wrap64 (10 * x4_1)) + (((bt a0 x8_1) - 48) % 256))) > 2147483647 then (some (0, false)) else (spec_number.l0 kj2 a0 (wrap64 ((wrap64 (10 * x4_1)) + (((bt a0 x8_1) - 48) % 256))) (a0.size : Int) (wrap64 (x8_1 + 1)))) else (none)) else (none)) = some (r1, r2) := by rw [if_neg (show ¬ (false = true) by decide)] at H; exact H
       clear H
       have H := H1
       clear H1
       by_cases c10 : 0 ≤ x8_1
       ·rw [if_pos c10] at H
        have c10b0 : decide (0 ≤ x8_1) = true := decide_eq_true c10
        clear c10
        by_cases c11 : x8_1 < (a0.size : Int)
        ·rw [if_pos c11] at H
         have c11b0 : decide (x8_1 < (a0.size : Int)) = true := decide_eq_true c11
         clear c11
         by_cases c13 : (wrap64 ((wrap64 (10 * x4_1)) + (((bt a0 x8_1) - 48) % 256))) > 2147483647
         ·rw [if_pos c13] at H
          have c13b0 : decide (2147483647 < (wrap64 ((wrap64 (10 * x4_1)) + (((bt a0 x8_1) - 48) % 256)))) = true := decide_eq_true c13
          clear c13
          simp only [Option.some.injEq, Prod.mk.injEq] at H
          obtain ⟨rfl, rfl⟩ := H
          have p12 : 0 ≤ (x8_1 : Int) := of_decide_eq_true (by first | (with_reducible assumption) | assumption)
          have q12 : x8_1 < (a0.size : Int) := of_decide_eq_true (by first | (with_reducible assumption) | assumption)
          have hx12 := bt_at a0 x8_1
          replace p12 := eq_true p12
          replace q12 := eq_true q12
          go_wp2
          go_ret2
          exact ⟨by first | rfl | (simp; done) | (simp [*]; done) | (simp [bne_nil]; done) | (simp [bne_nil, *]; done), by repeat (first | exact Drawn0.refl _ | apply Drawn0.step)⟩
         ·rw [if_neg c13] at H
          have c13b0 : decide (2147483647 < (wrap64 ((wrap64 (10 * x4_1)) + (((bt a0 x8_1) - 48) % 256)))) = false := decide_eq_false c13
          clear c13
          have H' := Aside0.mk H
          clear H
          have p12 : 0 ≤ (x8_1 : Int) := of_decide_eq_true (by first | (with_reducible assumption) | assumption)
          have q12 : x8_1 < (a0.size : Int) := of_decide_eq_true (by first | (with_reducible assumption) | assumption)
          have hx12 := bt_at a0 x8_1
          replace p12 := eq_true p12
          replace q12 := eq_true q12
          go_wp2
          go_roundg kj2
          case measure => have := HK1.out; have := HJ2.out; omega
          case rel => exact ⟨(wrap64 ((wrap64 (10 * x4_1)) + (((bt a0 x8_1) - 48) % 256))), (wrap64 (x8_1 + 1)), (by first | rfl | (simp; done) | (simp [*]; done) | (simp [bne_nil]; done) | (simp [bne_nil, *]; done)), (by first | rfl | (simp; done) | (simp [*]; done) | (simp [bne_nil]; done) | (simp [bne_nil, *]; done)), H', ⟨by have := HK1.out; have := HJ2.out; omega⟩, by repeat (first | exact Drawn0.refl _ | apply Drawn0.step)⟩
        ·rw [if_neg c11] at H
         exact absurd H (by simp)
       ·rw [if_neg c10] at H
        exact absurd H (by simp)
   ·rw [if_neg c2] at H
    have c2b0 : decide (x8_1 < (a0.size : Int)) = false := decide_eq_false c2
    clear c2
    by_cases c14 : a0.toList = ([] : List UInt8)
    ·rw [if_pos c14] at H
     have c14b0 : (a0.toList == ([] : List UInt8)) = true := beq_iff_eq.mpr c14
     have c14b1 : (a0.toList != ([] : List UInt8)) = false := bne_eq_false_iff_eq.mpr c14
     clear c14
     simp only [Option.some.injEq, Prod.mk.injEq] at H
     obtain ⟨rfl, rfl⟩ := H
     go_wp2
     go_ret2
     exact ⟨by first | rfl | (simp; done) | (simp [*]; done) | (simp [bne_nil]; done) | (simp [bne_nil, *]; done), by repeat (first | exact Drawn0.refl _ | apply Drawn0.step)⟩
    ·rw [if_neg c14] at H
     have c14b0 : (a0.toList == ([] : List UInt8)) = false := beq_eq_false_iff_ne.mpr c14
     have c14b1 : (a0.toList != ([] : List UInt8)) = true := bne_iff_ne.mpr c14
     by_cases c15 : 0 < (a0.size : Int)
     ·rw [if_pos c15] at H
      have c15b0 : decide (0 < (a0.size : Int)) = true := decide_eq_true c15
      have c15b1 : decide (0 < a0.size) = true := decide_eq_true (by omega)
      clear c15
      by_cases c17 : (bt a0 0) = 48
      ·rw [if_pos c17] at H
       have c17b0 : ((bt a0 0) == 48) = true := beq_iff_eq.mpr c17
       have c17b1 : ((bt a0 0) != 48) = false := bne_eq_false_iff_eq.mpr c17
       clear c17
       simp only [Option.some.injEq, Prod.mk.injEq] at H
       obtain ⟨rfl, rfl⟩ := H
       have p16 : 0 ≤ (0 : Int) := (by omega)
       have q16 : 0 < a0.size := (by have : (0 : Int) < (a0.size : Int) := of_decide_eq_true (by first | (with_reducible assumption) | assumption); omega)
       have hx16 : ∀ h : 0 < a0.size, ((a0[0]'h).toNat : Int) = bt a0 0 := bt_at a0 0
       clear p16
       have qi16 : (0 < (a0.size : Int)) = True := eq_true (of_decide_eq_true (by first | (with_reducible assumption) | assumption))
       replace q16 := eq_true q16
       go_wp2
       go_ret2
       exact ⟨by first | rfl | (simp; done) | (simp [*]; done) | (simp [bne_nil]; done) | (simp [bne_nil, *]; done), by repeat (first | exact Drawn0.refl _ | apply Drawn0.step)⟩
      ·rw [if_neg c17] at H
       have c17b0 : ((bt a0 0) == 48) = false := beq_eq_false_iff_ne.mpr c17
       have c17b1 : ((bt a0 0) != 48) = true := bne_iff_ne.mpr c17
       simp only [Option.some.injEq, Prod.mk.injEq] at H
       obtain ⟨rfl, rfl⟩ := H
       have p16 : 0 ≤ (0 : Int) := (by omega)
       have q16 : 0 < a0.size := (by have : (0 : Int) < (a0.size : Int) := of_decide_eq_true (by first | (with_reducible assumption) | assumption); omega)
       have hx16 : ∀ h : 0 < a0.size, ((a0[0]'h).toNat : Int) = bt a0 0 := bt_at a0 0
       clear p16
       have qi16 : (0 < (a0.size : Int)) = True := eq_true (of_decide_eq_true (by first | (with_reducible assumption) | assumption))
       replace q16 := eq_true q16
       go_wp2
       go_ret2
       exact ⟨by first | rfl | (simp; done) | (simp [*]; done) | (simp [bne_nil]; done) | (simp [bne_nil, *]; done), by repeat (first | exact Drawn0.refl _ | apply Drawn0.step)⟩
     ·rw [if_neg c15] at H
      exact absurd H (by simp)

/-! ### spec_unoctal: function 30 -/
mutual
def spec_unoctal.l0 : Nat → ByteArray → List Int → Int → Option (ByteArray × Bool)
 | 0, _, _, _ => none
 | k + 1, x0, x4, x5 => if x5 < (x0.size : Int) then (if 0 ≤ x5 then (if (bt x0 x5) = 92 then (if (wrap64 (x5 + 3)) ≥ (x0.size : Int) then (some ((⟨#[]⟩ : ByteArray), false)) else (spec_unoctal.l1 k x0 x4 x5 0 1)) else (if x4.length < 140737488355328 then (spec_unoctal.l0 k x0 (x4 ++ [bt x0 x5]) (wrap64 (x5 + 1))) else (none))) else (none)) else (some (strOfNums x4, true))
def spec_unoctal.l1 : Nat → ByteArray → List Int → Int → Int → Int → Option (ByteArray × Bool)
 | 0, _, _, _, _, _ => none
 | k + 1, x0, x4, x5, x6, x7 => if x7 ≤ 3 then (if 0 ≤ (wrap64 (x5 + x7)) then (if (wrap64 (x5 + x7)) < (x0.size : Int) then (if (bt x0 (wrap64 (x5 + x7))) < 48 then (some ((⟨#[]⟩ : ByteArray), false)) else (if (bt x0 (wrap64 (x5 + x7))) > 55 then (some ((⟨#[]⟩ : ByteArray), false)) else (spec_unoctal.l1 k x0 x4 x5 (wrap64 ((wrap64 (8 * x6)) + (((bt x0 (wrap64 (x5 + x7))) - 48) % 256))) (wrap64 (x7 + 1))))) else (none)) else (none)) else (if x6 = 32 then (if x4.length < 140737488355328 then (spec_unoctal.l0 k x0 (x4 ++ [(x6) % 256]) (wrap64 ((wrap64 (x5 + 3)) + 1))) else (none)) else (if x6 = 9 then (if x4.length < 140737488355328 then (spec_unoctal.l0 k x0 (x4 ++ [(x6) % 256]) (wrap64 ((wrap64 (x5 + 3)) + 1))) else (none)) else (if x6 = 10 then (if x4.length < 140737488355328 then (spec_unoctal.l0 k x0 (x4 ++ [(x6) % 256]) (wrap64 ((wrap64 (x5 + 3)) + 1))) else (none)) else (if x6 = 92 then (if x4.length < 140737488355328 then (spec_unoctal.l0 k x0 (x4 ++ [(x6) % 256]) (wrap64 ((wrap64 (x5 + 3)) + 1))) else (none)) else (some ((⟨#[]⟩ : ByteArray), false))))))
end
def spec_unoctal.f (k : Nat) (a0 : ByteArray) : Option (ByteArray × Bool) := spec_unoctal.l0 k a0 ([] : List Int) 0
theorem spec_unoctal.mono_l : ∀ k, (∀ y0 y1 y2, LeO (spec_unoctal.l0 k y0 y1 y2) (spec_unoctal.l0 (k + 1) y0 y1 y2)) ∧ (∀ y0 y1 y2 y3 y4, LeO (spec_unoctal.l1 k y0 y1 y2 y3 y4) (spec_unoctal.l1 (k + 1) y0 y1 y2 y3 y4))
 | 0 => ⟨fun _ _ _ r h => by simp [spec_unoctal.l0] at h, fun _ _ _ _ _ r h => by simp [spec_unoctal.l1] at h⟩
 | k + 1 => by
  obtain ⟨ih0, ih1⟩ := spec_unoctal.mono_l k
  refine ⟨?_, ?_⟩
  ·intro y0 y1 y2
   unfold spec_unoctal.l0
   repeat' first
   | (with_reducible exact ih0 _ _ _)
   | (with_reducible exact ih1 _ _ _ _ _)
   | (with_reducible exact LeO.refl _)
   | (with_reducible exact LeO.none _)
   | (with_reducible refine LeO.ite ?_ ?_)
   | (with_reducible refine LeO.bind ?_ (fun _ => ?_))
   | exact ih0 _ _ _
   | exact ih1 _ _ _ _ _
   | exact LeO.none _
   | refine LeO.ite ?_ ?_
   | refine LeO.bind ?_ (fun _ => ?_)
  ·intro y0 y1 y2 y3 y4
   unfold spec_unoctal.l1
   repeat' first
   | (with_reducible exact ih0 _ _ _)
   | (with_reducible exact ih1 _ _ _ _ _)
   | (with_reducible exact LeO.refl _)
   | (with_reducible exact LeO.none _)
   | (with_reducible refine LeO.ite ?_ ?_)
   | (with_reducible refine LeO.bind ?_ (fun _ => ?_))
   | exact ih0 _ _ _
   | exact ih1 _ _ _ _ _
   | exact LeO.none _
   | refine LeO.ite ?_ ?_
   | refine LeO.bind ?_ (fun _ => ?_)
theorem spec_unoctal.mono : ∀ a0 k, LeO (spec_unoctal.f k a0) (spec_unoctal.f (k + 1) a0) := by
 intro a0 k
 obtain ⟨ih0, ih1⟩ := spec_unoctal.mono_l k
 unfold spec_unoctal.f
 repeat' first
   | (with_reducible exact ih0 _ _ _)
   | (with_reducible exact ih1 _ _ _ _ _)
   | (with_reducible exact LeO.refl _)
   | (with_reducible exact LeO.none _)
   | (with_reducible refine LeO.ite ?_ ?_)
   | (with_reducible refine LeO.bind ?_ (fun _ => ?_))
   | exact ih0 _ _ _
   | exact ih1 _ _ _ _ _
   | exact LeO.none _
   | refine LeO.ite ?_ ?_
   | refine LeO.bind ?_ (fun _ => ?_)
set_option maxHeartbeats 8000000 in
set_option maxRecDepth 100000 in
theorem spec_unoctal.calls (k : Nat) (a0 : ByteArray) (r1 : ByteArray) (r2 : Bool) (w : World) (h : spec_unoctal.f k a0 = some (r1, r2)) :
  Calls Tryd.prog 30 #[.string a0] w fun e w' => e = .returned (.tuple #[.string r1, .bool r2]) ∧ Below w.heap.size w w' := by
 have HB := Aside0.mk (Below.refl w.heap.size w)
 have H : (spec_unoctal.l0 k a0 ([] : List Int) 0) = some (r1, r2) := h
 clear h
 have H' := Aside0.mk H
 clear H
 go_enter Tryd.func30, Tryd.ntmps30
 go_wp2
 go_loopg [4, 5] k (fun kq v4 v5 w' => ∃ (x4_1 : List Int) (x5_1 : Int), v5 = .int .i64 x5_1 ∧ Aside0 (spec_unoctal.l0 kq a0 x4_1 x5_1 = some (r1, r2)) ∧ Aside0 (kq ≤ k) ∧ Aside0 (Kd.R (Kd.int .u8) 5 w' w.heap.size (fun _ => True) v4 x4_1) ∧ Aside0 (Below w.heap.size w w'))
 case atStart => exact ⟨(([] : List Int)), (0), (by first | rfl | (simp; done) | (simp [*]; done) | (simp [bne_nil]; done) | (simp [bne_nil, *]; done)), H', ⟨Nat.le_refl _⟩, ⟨by first | exact Kd.R_nil _ _ _ _ _ | exact Kd.N_nil _ _ _ _ _ | exact Kd.V_nil _ _ _ _ _ | exact Kd.Q_nil _ _ _ _ _ | exact Kd.S_nil _ _ _ _ _⟩, ⟨by repeat (first | (with_reducible first | exact HB.out | apply below_alloc | apply pw_below_drewN | apply below_drew1) | exact HB.out)⟩⟩
 case round =>
  clear H'
  obtain ⟨x4_1, x5_1, rfl, HA, HK1, HO_4, HB⟩ := hrel
  cases gk with
  | zero => exact absurd HA.out (by simp [spec_unoctal.l0])
  | succ k1 =>
   have H := HA.out
   clear HA
   simp only [spec_unoctal.l0] at H
   by_cases c2 : x5_1 < (a0.size : Int)
   ·rw [if_pos c2] at H
    have c2b0 : decide (x5_1 < (a0.size : Int)) = true := decide_eq_true c2
    clear c2
    by_cases c3 : 0 ≤ x5_1
    ·rw [if_pos c3] at H
     have c3b0 : decide (0 ≤ x5_1) = true := decide_eq_true c3
     clear c3
     by_cases c5 : (bt a0 x5_1) = 92
     ·rw [if_pos c5] at H
      have c5b0 : ((bt a0 x5_1) == 92) = true := beq_iff_eq.mpr c5
      have c5b1 : ((bt a0 x5_1) != 92) = false := bne_eq_false_iff_eq.mpr c5
      clear c5
      by_cases c6 : (wrap64 (x5_1 + 3)) ≥ (a0.size : Int)
      ·rw [if_pos c6] at H
       have c6b0 : decide ((a0.size : Int) ≤ (wrap64 (x5_1 + 3))) = true := decide_eq_true c6
       clear c6
       simp only [Option.some.injEq, Prod.mk.injEq] at H
       obtain ⟨rfl, rfl⟩ := H
       have p4 : 0 ≤ (x5_1 : Int) := of_decide_eq_true (by first | (with_reducible assumption) | assumption)
       have q4 : x5_1 < (a0.size : Int) := of_decide_eq_true (by first | (with_reducible assumption) | assumption)
       have hx4 := bt_at a0 x5_1
       replace p4 := eq_true p4
       replace q4 := eq_true q4
       go_wp2
       go_ret2
       exact ⟨by first | rfl | (simp [errW_none, errW_some] <;> rfl) | (simp [*, errW_none, errW_some] <;> rfl), by repeat (first | (with_reducible first | exact HB.out | apply below_alloc | apply pw_below_drewN | apply below_drew1) | exact HB.out)⟩
      ·rw [if_neg c6] at H
       have c6b0 : decide ((a0.size : Int) ≤ (wrap64 (x5_1 + 3))) = false := decide_eq_false c6
       clear c6
       have H' := Aside0.mk H
       clear H
       have p4 : 0 ≤ (x5_1 : Int) := of_decide_eq_true (by first | (with_reducible assumption) | assumption)
       have q4 : x5_1 < (a0.size : Int) := of_decide_eq_true (by first | (with_reducible assumption) | assumption)
       have hx4 := bt_at a0 x5_1
       replace p4 := eq_true p4
       replace q4 := eq_true q4
       go_wp2
       go_loopg [6, 7] k1 (fun kq v6 v7 w' => ∃ (x6_2 : Int) (x7_2 : Int), v6 = .int .i64 x6_2 ∧ v7 = .int .i64 x7_2 ∧ Aside0 (spec_unoctal.l1 kq a0 x4_1 x5_1 x6_2 x7_2 = some (r1, r2)) ∧ Aside0 (kq ≤ k1) ∧ Aside0 (Kd.R (Kd.int .u8) 5 w' w.heap.size (fun _ => True) u4 x4_1) ∧ Aside0 (Below w.heap.size w w'))
       case atStart => exact ⟨(0), (1), (by first | rfl | (simp; done) | (simp [*]; done) | (simp [bne_nil]; done) | (simp [bne_nil, *]; done)), (by first | rfl | (simp; done) | (simp [*]; done) | (simp [bne_nil]; done) | (simp [bne_nil, *]; done)), H', ⟨Nat.le_refl _⟩, ⟨by (with_reducible repeat (first | apply Kd.R_alloc | apply Kd.R_drewN | apply Kd.R_drew)); exact HO_4.out⟩, ⟨by repeat (first | (with_reducible first | exact HB.out | apply below_alloc | apply pw_below_drewN | apply below_drew1) | exact HB.out)⟩⟩
       case round =>
        clear H'
        try clear c2
        try clear c2b0
        try clear p2
        try clear c3
        try clear c3b0
        try clear p4
        try clear q4
        try clear hx4
        try clear c5
        try clear c5b0
        try clear c5b1
        try clear c6
        try clear c6b0
        try clear p6
        try clear p4
        try clear q4
        obtain ⟨x6_2, x7_2, rfl, rfl, HA, HK2, HO_4, HB⟩ := hrel
        cases gk with
        | zero => exact absurd HA.out (by simp [spec_unoctal.l1])
        | succ k2 =>
         have H := HA.out
         clear HA
         simp only [spec_unoctal.l1] at H
         by_cases c7 : x7_2 ≤ 3
         ·rw [if_pos c7] at H
          have c7b0 : decide (x7_2 ≤ 3) = true := decide_eq_true c7
          clear c7
          obtain ⟨ji8, hji8⟩ : ∃ j_ : Int, (wrap64 (x5_1 + x7_2)) = j_ := ⟨_, rfl⟩
          replace H : (if 0 ≤ (ji8) then (if (ji8) < (a0.size : Int) then (if (bt a0 (ji8)) < 48 then (some ((⟨#[]⟩ : ByteArray), false)) else (if (bt a0 (ji8)) > 55 then (some ((⟨#[]⟩ : ByteArray), false)) else (spec_unoctal.l1 k2 a0 x4_1 x5_1 (wrap64 ((wrap64 (8 * x6_2)) + (((bt a0 (ji8)) - 48) % 256))) (wrap64 (x7_2 + 1))))) else (none)) else (none)) = some (r1, r2) := by first | (rw [hji8] at H; exact H) | (simp only [hji8] at H ⊢; exact H)
          have hji8w : (IntKind.i64.wrap (x5_1 + x7_2)) = ji8 := (i64_w _).trans hji8
          by_cases c9 : 0 ≤ (ji8)
          ·rw [if_pos c9] at H
           have c9b0 : decide (0 ≤ (ji8)) = true := decide_eq_true c9
           clear c9
           by_cases c10 : (ji8) < (a0.size : Int)
           ·rw [if_pos c10] at H
            have c10b0 : decide ((ji8) < (a0.size : Int)) = true := decide_eq_true c10
            clear c10
            by_cases c12 : (bt a0 (ji8)) < 48
            ·rw [if_pos c12] at H
             have c12b0 : decide ((bt a0 (ji8)) < 48) = true := decide_eq_true c12
             clear c12
             simp only [Option.some.injEq, Prod.mk.injEq] at H
             obtain ⟨rfl, rfl⟩ := H
             have p11 : 0 ≤ ((ji8) : Int) := of_decide_eq_true (by first | (with_reducible assumption) | assumption)
             have q11 : (ji8) < (a0.size : Int) := of_decide_eq_true (by first | (with_reducible assumption) | assumption)
             have hx11 := bt_at a0 (ji8)
             replace p11 := eq_true p11
             replace q11 := eq_true q11
             go_wp2
             go_ret2
             exact ⟨by first | rfl | (simp [errW_none, errW_some] <;> rfl) | (simp only [← hji8]; first | rfl | (simp [errW_none, errW_some] <;> rfl)) | (simp [*, errW_none, errW_some] <;> rfl), by repeat (first | (with_reducible first | exact HB.out | apply below_alloc | apply pw_below_drewN | apply below_drew1) | exact HB.out)⟩
            ·rw [if_neg c12] at H
             have c12b0 : decide ((bt a0 (ji8)) < 48) = false := decide_eq_false c12
             clear c12
             by_cases c13 : (bt a0 (ji8)) > 55
             ·rw [if_pos c13] at H
              have c13b0 : decide (55 < (bt a0 (ji8))) = true := decide_eq_true c13
              clear c13
              simp only [Option.some.injEq, Prod.mk.injEq] at H
              obtain ⟨rfl, rfl⟩ := H
              have p11 : 0 ≤ ((ji8) : Int) := of_decide_eq_true (by first | (with_reducible assumption) | assumption)
              have q11 : (ji8) < (a0.size : Int) := of_decide_eq_true (by first | (with_reducible assumption) | assumption)
              have hx11 := bt_at a0 (ji8)
              replace p11 := eq_true p11
              replace q11 := eq_true q11
              go_wp2
              go_ret2
              exact ⟨by first | rfl | (simp [errW_none, errW_some] <;> rfl) | (simp only [← hji8]; first | rfl | (simp [errW_none, errW_some] <;> rfl)) | (simp [*, errW_none, errW_some] <;> rfl), by repeat (first | (with_reducible first | exact HB.out | apply below_alloc | apply pw_below_drewN | apply below_drew1) | exact HB.out)⟩
             ·rw [if_neg c13] at H
              have c13b0 : decide (55 < (bt a0 (ji8))) = false := decide_eq_false c13
              clear c13
              have H' := Aside0.mk H
              clear H
              have p11 : 0 ≤ ((ji8) : Int) := of_decide_eq_true (by first | (with_reducible assumption) | assumption)
              have q11 : (ji8) < (a0.size : Int) := of_decide_eq_true (by first | (with_reducible assumption) | assumption)
              have hx11 := bt_at a0 (ji8)
              replace p11 := eq_true p11
              replace q11 := eq_true q11
              go_wp2
              go_roundg k2
              case measure => have := HK1.out; have := HK2.out; omega
              case rel => exact ⟨(wrap64 ((wrap64 (8 * x6_2)) + (((bt a0 (ji8)) - 48) % 256))), (wrap64 (x7_2 + 1)), (by first | rfl | (simp; done) | (simp only [← hji8] <;> (first | rfl | simp)) | (simp [*]; done)), (by first | rfl | (simp; done) | (simp [*]; done) | (simp [bne_nil]; done) | (simp [bne_nil, *]; done)), H', ⟨by have := HK1.out; have := HK2.out; omega⟩, ⟨by (with_reducible repeat (first | apply Kd.R_alloc | apply Kd.R_drewN | apply Kd.R_drew)); exact HO_4.out⟩, ⟨by repeat (first | (with_reducible first | exact HB.out | apply below_alloc | apply pw_below_drewN | apply below_drew1) | exact HB.out)⟩⟩
           ·rw [if_neg c10] at H
            exact absurd H (by simp)
          ·rw [if_neg c9] at H
           exact absurd H (by simp)
         ·rw [if_neg c7] at H
          have c7b0 : decide (x7_2 ≤ 3) = false := decide_eq_false c7
          clear c7
          by_cases c14 : x6_2 = 32
          ·rw [if_pos c14] at H
           have c14b0 : (x6_2 == 32) = true := beq_iff_eq.mpr c14
           have c14b1 : (x6_2 != 32) = false := bne_eq_false_iff_eq.mpr c14
           clear c14
           by_cases c15 : x4_1.length < 140737488355328
           ·rw [if_pos c15] at H
            have LMc15 := Aside0.mk c15
            clear c15
            obtain ⟨y120, hy120⟩ : ∃ y_ : List Int, y_ = (x4_1 ++ [(x6_2) % 256]) := ⟨_, rfl⟩
            replace H : (spec_unoctal.l0 k2 a0 y120 (wrap64 ((wrap64 (x5_1 + 3)) + 1))) = some (r1, r2) := by first | (rw [hy120]; with_reducible exact H) | (have H2_ := (Option.bind_some _ _).symm.trans H; rw [hy120]; with_reducible exact H2_) | (have H2_ := (Option.bind_some _ _).symm.trans H; with_reducible exact H2_) | with_reducible exact H | (rw [hy120]; exact H) | exact H
            have Ny120 := Aside0.mk hy120
            clear hy120
            have H' := Aside0.mk H
            clear H
            go_wp2_with (first | ((with_reducible refine gate_builtin (b := .append) (xs := #[.tmp 65, .tmp 68]) rfl ?_); at_builtin; refine Kd.R_append (Kd.int .u8) (w0 := w) w.heap.size rfl (.tmp 65) (.tmp 68) 82 5 (.int .u8 0) 1 rfl Tryd.underlying82 info5 rfl (by decide) (by omega) u4 x4_1 ((x6_2) % 256) [.int .u8 ((x6_2) % 256)] (fun _ => True) (fun _ => False) rfl rfl ?aP (fun _ hk => hk.elim) ?aF ?aO ?aB ?aS ?aL ?_; (case aP => exact rfl); (case aB => exact belH); (case aF => exact (fun _ _ => trivial)); (case aO => exact (by (with_reducible repeat (first | apply Kd.R_alloc | apply Kd.R_drewN | apply Kd.R_drew)); exact HO_4.out)); (case aS => exact (below_size belH)); (case aL => have := LMc15.out; omega); intro v121 w16 ho hb hg hat; rw [← Ny120.out] at ho; have n0_ := Aside0.mk (hb); have n1_ := Aside0.mk (ho); clear HB; clear HO_4; have HB := n0_; have HO122 := n1_; clear n0_ n1_; clear ho hb hg hat))
            go_roundg k2
            case measure => have := HK1.out; have := HK2.out; omega
            case rel => exact ⟨(y120), (wrap64 ((wrap64 (x5_1 + 3)) + 1)), (by first | rfl | (simp; done) | (simp [*]; done) | (simp [bne_nil]; done) | (simp [bne_nil, *]; done)), H', ⟨by have := HK1.out; have := HK2.out; omega⟩, ⟨by (with_reducible repeat (first | apply Kd.R_alloc | apply Kd.R_drewN | apply Kd.R_drew)); exact HO122.out⟩, ⟨by repeat (first | (with_reducible first | exact HB.out | apply below_alloc | apply pw_below_drewN | apply below_drew1) | exact HB.out)⟩⟩
           ·rw [if_neg c15] at H
            exact absurd H (by simp)
          ·rw [if_neg c14] at H
           have c14b0 : (x6_2 == 32) = false := beq_eq_false_iff_ne.mpr c14
           have c14b1 : (x6_2 != 32) = true := bne_iff_ne.mpr c14
           by_cases c17 : x6_2 = 9
           ·rw [if_pos c17] at H
            have c17b0 : (x6_2 == 9) = true := beq_iff_eq.mpr c17
            have c17b1 : (x6_2 != 9) = false := bne_eq_false_iff_eq.mpr c17
            clear c17
            by_cases c18 : x4_1.length < 140737488355328
            ·rw [if_pos c18] at H
             have LMc18 := Aside0.mk c18
             clear c18
             obtain ⟨y123, hy123⟩ : ∃ y_ : List Int, y_ = (x4_1 ++ [(x6_2) % 256]) := ⟨_, rfl⟩
             replace H : (spec_unoctal.l0 k2 a0 y123 (wrap64 ((wrap64 (x5_1 + 3)) + 1))) = some (r1, r2) := by first | (rw [hy123]; with_reducible exact H) | (have H2_ := (Option.bind_some _ _).symm.trans H; rw [hy123]; with_reducible exact H2_) | (have H2_ := (Option.bind_some _ _).symm.trans H; with_reducible exact H2_) | with_reducible exact H | (rw [hy123]; exact H) | exact H
             have Ny123 := Aside0.mk hy123
             clear hy123
             have H' := Aside0.mk H
             clear H
             go_wp2_with (first | ((with_reducible refine gate_builtin (b := .append) (xs := #[.tmp 65, .tmp 68]) rfl ?_); at_builtin; refine Kd.R_append (Kd.int .u8) (w0 := w) w.heap.size rfl (.tmp 65) (.tmp 68) 82 5 (.int .u8 0) 1 rfl Tryd.underlying82 info5 rfl (by decide) (by omega) u4 x4_1 ((x6_2) % 256) [.int .u8 ((x6_2) % 256)] (fun _ => True) (fun _ => False) rfl rfl ?aP (fun _ hk => hk.elim) ?aF ?aO ?aB ?aS ?aL ?_; (case aP => exact rfl); (case aB => exact belH); (case aF => exact (fun _ _ => trivial)); (case aO => exact (by (with_reducible repeat (first | apply Kd.R_alloc | apply Kd.R_drewN | apply Kd.R_drew)); exact HO_4.out)); (case aS => exact (below_size belH)); (case aL => have := LMc18.out; omega); intro v124 w19 ho hb hg hat; rw [← Ny123.out] at ho; have n0_ := Aside0.mk (hb); have n1_ := Aside0.mk (ho); clear HB; clear HO_4; have HB := n0_; have HO125 := n1_; clear n0_ n1_; clear ho hb hg hat))
             go_roundg k2
             case measure => have := HK1.out; have := HK2.out; omega
             case rel => exact ⟨(y123), (wrap64 ((wrap64 (x5_1 + 3)) + 1)), (by first | rfl | (simp; done) | (simp [*]; done) | (simp [bne_nil]; done) | (simp [bne_nil, *]; done)), H', ⟨by have := HK1.out; have := HK2.out; omega⟩, ⟨by (with_reducible repeat (first | apply Kd.R_alloc | apply Kd.R_drewN | apply Kd.R_drew)); exact HO125.out⟩, ⟨by repeat (first | (with_reducible first | exact HB.out | apply below_alloc | apply pw_below_drewN | apply below_drew1) | exact HB.out)⟩⟩
            ·rw [if_neg c18] at H
             exact absurd H (by simp)
           ·rw [if_neg c17] at H
            have c17b0 : (x6_2 == 9) = false := beq_eq_false_iff_ne.mpr c17
            have c17b1 : (x6_2 != 9) = true := bne_iff_ne.mpr c17
            by_cases c20 : x6_2 = 10
            ·rw [if_pos c20] at H
             have c20b0 : (x6_2 == 10) = true := beq_iff_eq.mpr c20
             have c20b1 : (x6_2 != 10) = false := bne_eq_false_iff_eq.mpr c20
             clear c20
             by_cases c21 : x4_1.length < 140737488355328
             ·rw [if_pos c21] at H
              have LMc21 := Aside0.mk c21
              clear c21
              obtain ⟨y126, hy126⟩ : ∃ y_ : List Int, y_ = (x4_1 ++ [(x6_2) % 256]) := ⟨_, rfl⟩
              replace H : (spec_unoctal.l0 k2 a0 y126 (wrap64 ((wrap64 (x5_1 + 3)) + 1))) = some (r1, r2) := by first | (rw [hy126]; with_reducible exact H) | (have H2_ := (Option.bind_some _ _).symm.trans H; rw [hy126]; with_reducible exact H2_) | (have H2_ := (Option.bind_some _ _).symm.trans H; with_reducible exact H2_) | with_reducible exact H | (rw [hy126]; exact H) | exact H
              have Ny126 := Aside0.mk hy126
              clear hy126
              have H' := Aside0.mk H
              clear H
              go_wp2_with (first | ((with_reducible refine gate_builtin (b := .append) (xs := #[.tmp 65, .tmp 68]) rfl ?_); at_builtin; refine Kd.R_append (Kd.int .u8) (w0 := w) w.heap.size rfl (.tmp 65) (.tmp 68) 82 5 (.int .u8 0) 1 rfl Tryd.underlying82 info5 rfl (by decide) (by omega) u4 x4_1 ((x6_2) % 256) [.int .u8 ((x6_2) % 256)] (fun _ => True) (fun _ => False) rfl rfl ?aP (fun _ hk => hk.elim) ?aF ?aO ?aB ?aS ?aL ?_; (case aP => exact rfl); (case aB => exact belH); (case aF => exact (fun _ _ => trivial)); (case aO => exact (by (with_reducible repeat (first | apply Kd.R_alloc | apply Kd.R_drewN | apply Kd.R_drew)); exact HO_4.out)); (case aS => exact (below_size belH)); (case aL => have := LMc21.out; omega); intro v127 w22 ho hb hg hat; rw [← Ny126.out] at ho; have n0_ := Aside0.mk (hb); have n1_ := Aside0.mk (ho); clear HB; clear HO_4; have HB := n0_; have HO128 := n1_; clear n0_ n1_; clear ho hb hg hat))
              go_roundg k2
              case measure => have := HK1.out; have := HK2.out; omega
              case rel => exact ⟨(y126), (wrap64 ((wrap64 (x5_1 + 3)) + 1)), (by first | rfl | (simp; done) | (simp [*]; done) | (simp [bne_nil]; done) | (simp [bne_nil, *]; done)), H', ⟨by have := HK1.out; have := HK2.out; omega⟩, ⟨by (with_reducible repeat (first | apply Kd.R_alloc | apply Kd.R_drewN | apply Kd.R_drew)); exact HO128.out⟩, ⟨by repeat (first | (with_reducible first | exact HB.out | apply below_alloc | apply pw_below_drewN | apply below_drew1) | exact HB.out)⟩⟩
             ·rw [if_neg c21] at H
              exact absurd H (by simp)
            ·rw [if_neg c20] at H
             have c20b0 : (x6_2 == 10) = false := beq_eq_false_iff_ne.mpr c20
             have c20b1 : (x6_2 != 10) = true := bne_iff_ne.mpr c20
             by_cases c23 : x6_2 = 92
             ·rw [if_pos c23] at H
              have c23b0 : (x6_2 == 92) = true := beq_iff_eq.mpr c23
              have c23b1 : (x6_2 != 92) = false := bne_eq_false_iff_eq.mpr c23
              clear c23
              by_cases c24 : x4_1.length < 140737488355328
              ·rw [if_pos c24] at H
               have LMc24 := Aside0.mk c24
               clear c24
               obtain ⟨y129, hy129⟩ : ∃ y_ : List Int, y_ = (x4_1 ++ [(x6_2) % 256]) := ⟨_, rfl⟩
               replace H : (spec_unoctal.l0 k2 a0 y129 (wrap64 ((wrap64 (x5_1 + 3)) + 1))) = some (r1, r2) := by first | (rw [hy129]; with_reducible exact H) | (have H2_ := (Option.bind_some _ _).symm.trans H; rw [hy129]; with_reducible exact H2_) | (have H2_ := (Option.bind_some _ _).symm.trans H; with_reducible exact H2_) | with_reducible exact H | (rw [hy129]; exact H) | exact H
               have Ny129 := Aside0.mk hy129
               clear hy129
               have H' := Aside0.mk H
               clear H
               go_wp2_with (first | ((with_reducible refine gate_builtin (b := .append) (xs := #[.tmp 65, .tmp 68]) rfl ?_); at_builtin; refine Kd.R_append (Kd.int .u8) (w0 := w) w.heap.size rfl (.tmp 65) (.tmp 68) 82 5 (.int .u8 0) 1 rfl Tryd.underlying82 info5 rfl (by decide) (by omega) u4 x4_1 ((x6_2) % 256) [.int .u8 ((x6_2) % 256)] (fun _ => True) (fun _ => False) rfl rfl ?aP (fun _ hk => hk.elim) ?aF ?aO ?aB ?aS ?aL ?_; (case aP => exact rfl); (case aB => exact belH); (case aF => exact (fun _ _ => trivial)); (case aO => exact (by (with_reducible repeat (first | apply Kd.R_alloc | apply Kd.R_drewN | apply Kd.R_drew)); exact HO_4.out)); (case aS => exact (below_size belH)); (case aL => have := LMc24.out; omega); intro v130 w25 ho hb hg hat; rw [← Ny129.out] at ho; have n0_ := Aside0.mk (hb); have n1_ := Aside0.mk (ho); clear HB; clear HO_4; have HB := n0_; have HO131 := n1_; clear n0_ n1_; clear ho hb hg hat))
               go_roundg k2
               case measure => have := HK1.out; have := HK2.out; omega
               case rel => exact ⟨(y129), (wrap64 ((wrap64 (x5_1 + 3)) + 1)), (by first | rfl | (simp; done) | (simp [*]; done) | (simp [bne_nil]; done) | (simp [bne_nil, *]; done)), H', ⟨by have := HK1.out; have := HK2.out; omega⟩, ⟨by (with_reducible repeat (first | apply Kd.R_alloc | apply Kd.R_drewN | apply Kd.R_drew)); exact HO131.out⟩, ⟨by repeat (first | (with_reducible first | exact HB.out | apply below_alloc | apply pw_below_drewN | apply below_drew1) | exact HB.out)⟩⟩
              ·rw [if_neg c24] at H
               exact absurd H (by simp)
             ·rw [if_neg c23] at H
              have c23b0 : (x6_2 == 92) = false := beq_eq_false_iff_ne.mpr c23
              have c23b1 : (x6_2 != 92) = true := bne_iff_ne.mpr c23
              simp only [Option.some.injEq, Prod.mk.injEq] at H
              obtain ⟨rfl, rfl⟩ := H
              go_wp2
              go_ret2
              exact ⟨by first | rfl | (simp [errW_none, errW_some] <;> rfl) | (simp [*, errW_none, errW_some] <;> rfl), by repeat (first | (with_reducible first | exact HB.out | apply below_alloc | apply pw_below_drewN | apply below_drew1) | exact HB.out)⟩
     ·rw [if_neg c5] at H
      have c5b0 : ((bt a0 x5_1) == 92) = false := beq_eq_false_iff_ne.mpr c5
      have c5b1 : ((bt a0 x5_1) != 92) = true := bne_iff_ne.mpr c5
      by_cases c27 : x4_1.length < 140737488355328
      ·rw [if_pos c27] at H
       have LMc27 := Aside0.mk c27
       clear c27
       obtain ⟨y117, hy117⟩ : ∃ y_ : List Int, y_ = (x4_1 ++ [bt a0 x5_1]) := ⟨_, rfl⟩
       replace H : (spec_unoctal.l0 k1 a0 y117 (wrap64 (x5_1 + 1))) = some (r1, r2) := by first | (rw [hy117]; with_reducible exact H) | (have H2_ := (Option.bind_some _ _).symm.trans H; rw [hy117]; with_reducible exact H2_) | (have H2_ := (Option.bind_some _ _).symm.trans H; with_reducible exact H2_) | with_reducible exact H | (rw [hy117]; exact H) | exact H
       have Ny117 := Aside0.mk hy117
       clear hy117
       have H' := Aside0.mk H
       clear H
       have p4 : 0 ≤ (x5_1 : Int) := of_decide_eq_true (by first | (with_reducible assumption) | assumption)
       have q4 : x5_1 < (a0.size : Int) := of_decide_eq_true (by first | (with_reducible assumption) | assumption)
       have hx4 := bt_at a0 x5_1
       replace p4 := eq_true p4
       replace q4 := eq_true q4
       have p26 : 0 ≤ (x5_1 : Int) := of_decide_eq_true (by first | (with_reducible assumption) | assumption)
       have q26 : x5_1 < (a0.size : Int) := of_decide_eq_true (by first | (with_reducible assumption) | assumption)
       have hx26 := bt_at a0 x5_1
       replace p26 := eq_true p26
       replace q26 := eq_true q26
       go_wp2_with (first | ((with_reducible refine gate_builtin (b := .append) (xs := #[.tmp 19, .tmp 23]) rfl ?_); at_builtin; refine Kd.R_append (Kd.int .u8) (w0 := w) w.heap.size rfl (.tmp 19) (.tmp 23) 82 5 (.int .u8 0) 1 rfl Tryd.underlying82 info5 rfl (by decide) (by omega) u4 x4_1 (bt a0 x5_1) [.int .u8 (bt a0 x5_1)] (fun _ => True) (fun _ => False) rfl rfl ?aP (fun _ hk => hk.elim) ?aF ?aO ?aB ?aS ?aL ?_; (case aP => exact rfl); (case aB => exact belH); (case aF => exact (fun _ _ => trivial)); (case aO => exact (by (with_reducible repeat (first | apply Kd.R_alloc | apply Kd.R_drewN | apply Kd.R_drew)); exact HO_4.out)); (case aS => exact (below_size belH)); (case aL => have := LMc27.out; omega); intro v118 w28 ho hb hg hat; rw [← Ny117.out] at ho; have n0_ := Aside0.mk (hb); have n1_ := Aside0.mk (ho); clear HB; clear HO_4; have HB := n0_; have HO119 := n1_; clear n0_ n1_; clear ho hb hg hat))
       go_roundg k1
       case measure => have := HK1.out; omega
       case rel => exact ⟨(y117), (wrap64 (x5_1 + 1)), (by first | rfl | (simp; done) | (simp [*]; done) | (simp [bne_nil]; done) | (simp [bne_nil, *]; done)), H', ⟨by have := HK1.out; omega⟩, ⟨by (with_reducible repeat (first | apply Kd.R_alloc | apply Kd.R_drewN | apply Kd.R_drew)); exact HO119.out⟩, ⟨by repeat (first | (with_reducible first | exact HB.out | apply below_alloc | apply pw_below_drewN | apply below_drew1) | exact HB.out)⟩⟩
      ·rw [if_neg c27] at H
       exact absurd H (by simp)
    ·rw [if_neg c3] at H
     exact absurd H (by simp)
   ·rw [if_neg c2] at H
    have c2b0 : decide (x5_1 < (a0.size : Int)) = false := decide_eq_false c2
    clear c2
    simp only [Option.some.injEq, Prod.mk.injEq] at H
    obtain ⟨rfl, rfl⟩ := H
    have hcv29 := own_string (P := Tryd.prog) Tryd.underlying82 Tryd.underlying5 Tryd.underlying9 (Kd.own_of_R HO_4.out)
    go_wp2
    go_ret2
    exact ⟨by first | rfl | (simp [errW_none, errW_some] <;> rfl) | (simp [*, errW_none, errW_some] <;> rfl), by repeat (first | (with_reducible first | exact HB.out | apply below_alloc | apply pw_below_drewN | apply below_drew1) | exact HB.out)⟩

end Go.Proofs.YtokojamaigebaaaDoor.K
