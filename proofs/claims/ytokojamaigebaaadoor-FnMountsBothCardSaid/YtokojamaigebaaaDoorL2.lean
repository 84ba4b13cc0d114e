-- written by a program of this session (wip/tools/pp.py)
import Derived.Test.YtokojamaigebaaaDoorL0
namespace Go.Proofs.YtokojamaigebaaaDoor.L
open Go.RowKit Go.Proofs.YtokojamaigebaaaDoorW.PrintWords Go.Proofs.YtokojamaigebaaaDoorW.PrintLast Go.Proofs.YtokojamaigebaaaDoor.M Go.Proofs.YtokojamaigebaaaDoor.MtDoor Go.Proofs.YtokojamaigebaaaDoorW.PrintMore
attribute [local go_sem] max2_int min2_int max_two min_two max_three min_three max_four min_four   -- for this text's walks alone
set_option linter.unusedVariables false
set_option linter.unusedSimpArgs false

/-! ### laws_zzFits2: function 6 -/
def laws_zzFits2.f (a0_0 : Int) (a0_1 : Int) (a0_2 : Int) (a0_3 : Int) (a0_4 : ByteArray) (a0_5 : ByteArray) (a0_6 : ByteArray) (a0_7 : ByteArray) (a0_8 : ByteArray) (a0_9 : ByteArray) (a0_10 : ByteArray) : Option (Bool) := if (a0_4.size : Int) > 2147483647 then (some false) else (if (a0_5.size : Int) > 2147483647 then (some false) else (if (a0_6.size : Int) > 2147483647 then (some false) else (if (a0_7.size : Int) > 2147483647 then (some false) else (if (a0_8.size : Int) > 2147483647 then (some false) else (if (a0_9.size : Int) > 2147483647 then (some false) else (if (a0_10.size : Int) > 2147483647 then (some false) else (some true)))))))
set_option maxHeartbeats 8000000 in
set_option maxRecDepth 100000 in
theorem laws_zzFits2.calls (a0_0 : Int) (a0_1 : Int) (a0_2 : Int) (a0_3 : Int) (a0_4 : ByteArray) (a0_5 : ByteArray) (a0_6 : ByteArray) (a0_7 : ByteArray) (a0_8 : ByteArray) (a0_9 : ByteArray) (a0_10 : ByteArray) (r : Bool) (w : World) (h : laws_zzFits2.f a0_0 a0_1 a0_2 a0_3 a0_4 a0_5 a0_6 a0_7 a0_8 a0_9 a0_10 = some r) :
  Calls Tryd.prog 6 #[.agg #[.int .i64 a0_0, .int .i64 a0_1, .int .i64 a0_2, .int .i64 a0_3, .string a0_4, .string a0_5, .string a0_6, .string a0_7, .string a0_8, .string a0_9, .string a0_10]] w fun e w' => e = .returned (.bool r) ∧ Below w.heap.size w w' := by
 have hu23 := Tryd.underlying23
 have HB := Aside0.mk (Below.refl w.heap.size w)
 have H : (if (a0_4.size : Int) > 2147483647 then (some false) else (if (a0_5.size : Int) > 2147483647 then (some false) else (if (a0_6.size : Int) > 2147483647 then (some false) else (if (a0_7.size : Int) > 2147483647 then (some false) else (if (a0_8.size : Int) > 2147483647 then (some false) else (if (a0_9.size : Int) > 2147483647 then (some false) else (if (a0_10.size : Int) > 2147483647 then (some false) else (some true)))))))) = some r := h
 clear h
 by_cases c2 : (a0_4.size : Int) > 2147483647
 ·rw [if_pos c2] at H
  have c2b0 : decide (2147483647 < (a0_4.size : Int)) = true := decide_eq_true c2
  have c2b1 : decide (2147483647 < a0_4.size) = true := decide_eq_true (by omega)
  clear c2
  obtain rfl := Option.some.inj H
  go_enter Tryd.func6, Tryd.ntmps6
  go_wp2_with (first | ((with_reducible refine gate_dst (N := 1) rfl ?_); refine box_event ?hg (N := 1) ?hd (cs := #[.int .i64 a0_0, .int .i64 a0_1, .int .i64 a0_2, .int .i64 a0_3, .string a0_4, .string a0_5, .string a0_6, .string a0_7, .string a0_8, .string a0_9, .string a0_10]) (t := 23) ?hr ?_; (case hd => rfl); (case hg => rfl); (case hr => first | (go_simp; done) | (go_simp; rfl)); intro gb101 hg w3 hbox hb; have n0_ := Aside0.mk (below_step belH hb); have n1_ := Aside0.mk (hbox); have n2_ := Aside0.mk ((by rw [hg]; exact (below_size belH) : w.heap.size ≤ gb101)); have n3_ := Aside0.mk ((by rw [hg]; exact (below_size belH) : w.heap.size ≤ gb101)); clear HB; have HB := n0_; have BK101 := n1_; have GW101 := n2_; have GE101 := n3_; clear n0_ n1_ n2_ n3_; clear hb hbox hg; obtain ⟨hcz4_0, hcz4_1, hcz4_2, hcz4_3, hcz4_4, hcz4_5, hcz4_6, hcz4_7, hcz4_8, hcz4_9, hcz4_10, hfz4_0, hfz4_1, hfz4_2, hfz4_3, hfz4_4, hfz4_5, hfz4_6, hfz4_7, hfz4_8, hfz4_9, hfz4_10⟩ := rows11 (w := w3) BK101))
  go_ret
  exact ⟨by first | rfl | (simp [errW_none, errW_some] <;> rfl) | (simp [*, errW_none, errW_some] <;> rfl), by repeat (first | (with_reducible first | exact HB.out | apply below_alloc | apply pw_below_drewN | apply below_drew1 | refine below_set ?_ GE101.out) | exact HB.out)⟩
 ·rw [if_neg c2] at H
  have c2b0 : decide (2147483647 < (a0_4.size : Int)) = false := decide_eq_false c2
  have c2b1 : decide (2147483647 < a0_4.size) = false := decide_eq_false (by omega)
  clear c2
  by_cases c5 : (a0_5.size : Int) > 2147483647
  ·rw [if_pos c5] at H
   have c5b0 : decide (2147483647 < (a0_5.size : Int)) = true := decide_eq_true c5
   have c5b1 : decide (2147483647 < a0_5.size) = true := decide_eq_true (by omega)
   clear c5
   obtain rfl := Option.some.inj H
   go_enter Tryd.func6, Tryd.ntmps6
   go_wp2_with (first | ((with_reducible refine gate_dst (N := 1) rfl ?_); refine box_event ?hg (N := 1) ?hd (cs := #[.int .i64 a0_0, .int .i64 a0_1, .int .i64 a0_2, .int .i64 a0_3, .string a0_4, .string a0_5, .string a0_6, .string a0_7, .string a0_8, .string a0_9, .string a0_10]) (t := 23) ?hr ?_; (case hd => rfl); (case hg => rfl); (case hr => first | (go_simp; done) | (go_simp; rfl)); intro gb101 hg w6 hbox hb; have n0_ := Aside0.mk (below_step belH hb); have n1_ := Aside0.mk (hbox); have n2_ := Aside0.mk ((by rw [hg]; exact (below_size belH) : w.heap.size ≤ gb101)); have n3_ := Aside0.mk ((by rw [hg]; exact (below_size belH) : w.heap.size ≤ gb101)); clear HB; have HB := n0_; have BK101 := n1_; have GW101 := n2_; have GE101 := n3_; clear n0_ n1_ n2_ n3_; clear hb hbox hg; obtain ⟨hcz7_0, hcz7_1, hcz7_2, hcz7_3, hcz7_4, hcz7_5, hcz7_6, hcz7_7, hcz7_8, hcz7_9, hcz7_10, hfz7_0, hfz7_1, hfz7_2, hfz7_3, hfz7_4, hfz7_5, hfz7_6, hfz7_7, hfz7_8, hfz7_9, hfz7_10⟩ := rows11 (w := w6) BK101))
   go_ret
   exact ⟨by first | rfl | (simp [errW_none, errW_some] <;> rfl) | (simp [*, errW_none, errW_some] <;> rfl), by repeat (first | (with_reducible first | exact HB.out | apply below_alloc | apply pw_below_drewN | apply below_drew1 | refine below_set ?_ GE101.out) | exact HB.out)⟩
  ·rw [if_neg c5] at H
   have c5b0 : decide (2147483647 < (a0_5.size : Int)) = false := decide_eq_false c5
   have c5b1 : decide (2147483647 < a0_5.size) = false := decide_eq_false (by omega)
   clear c5
   by_cases c8 : (a0_6.size : Int) > 2147483647
   ·rw [if_pos c8] at H
    have c8b0 : decide (2147483647 < (a0_6.size : Int)) = true := decide_eq_true c8
    have c8b1 : decide (2147483647 < a0_6.size) = true := decide_eq_true (by omega)
    clear c8
    obtain rfl := Option.some.inj H
    go_enter Tryd.func6, Tryd.ntmps6
    go_wp2_with (first | ((with_reducible refine gate_dst (N := 1) rfl ?_); refine box_event ?hg (N := 1) ?hd (cs := #[.int .i64 a0_0, .int .i64 a0_1, .int .i64 a0_2, .int .i64 a0_3, .string a0_4, .string a0_5, .string a0_6, .string a0_7, .string a0_8, .string a0_9, .string a0_10]) (t := 23) ?hr ?_; (case hd => rfl); (case hg => rfl); (case hr => first | (go_simp; done) | (go_simp; rfl)); intro gb101 hg w9 hbox hb; have n0_ := Aside0.mk (below_step belH hb); have n1_ := Aside0.mk (hbox); have n2_ := Aside0.mk ((by rw [hg]; exact (below_size belH) : w.heap.size ≤ gb101)); have n3_ := Aside0.mk ((by rw [hg]; exact (below_size belH) : w.heap.size ≤ gb101)); clear HB; have HB := n0_; have BK101 := n1_; have GW101 := n2_; have GE101 := n3_; clear n0_ n1_ n2_ n3_; clear hb hbox hg; obtain ⟨hcz10_0, hcz10_1, hcz10_2, hcz10_3, hcz10_4, hcz10_5, hcz10_6, hcz10_7, hcz10_8, hcz10_9, hcz10_10, hfz10_0, hfz10_1, hfz10_2, hfz10_3, hfz10_4, hfz10_5, hfz10_6, hfz10_7, hfz10_8, hfz10_9, hfz10_10⟩ := rows11 (w := w9) BK101))
    go_ret
    exact ⟨by first | rfl | (simp [errW_none, errW_some] <;> rfl) | (simp [*, errW_none, errW_some] <;> rfl), by repeat (first | (with_reducible first | exact HB.out | apply below_alloc | apply pw_below_drewN | apply below_drew1 | refine below_set ?_ GE101.out) | exact HB.out)⟩
   ·rw [if_neg c8] at H
    have c8b0 : decide (2147483647 < (a0_6.size : Int)) = false := decide_eq_false c8
    have c8b1 : decide (2147483647 < a0_6.size) = false := decide_eq_false (by omega)
    clear c8
    by_cases c11 : (a0_7.size : Int) > 2147483647
    ·rw [if_pos c11] at H
     have c11b0 : decide (2147483647 < (a0_7.size : Int)) = true := decide_eq_true c11
     have c11b1 : decide (2147483647 < a0_7.size) = true := decide_eq_true (by omega)
     clear c11
     obtain rfl := Option.some.inj H
     go_enter Tryd.func6, Tryd.ntmps6
     go_wp2_with (first | ((with_reducible refine gate_dst (N := 1) rfl ?_); refine box_event ?hg (N := 1) ?hd (cs := #[.int .i64 a0_0, .int .i64 a0_1, .int .i64 a0_2, .int .i64 a0_3, .string a0_4, .string a0_5, .string a0_6, .string a0_7, .string a0_8, .string a0_9, .string a0_10]) (t := 23) ?hr ?_; (case hd => rfl); (case hg => rfl); (case hr => first | (go_simp; done) | (go_simp; rfl)); intro gb101 hg w12 hbox hb; have n0_ := Aside0.mk (below_step belH hb); have n1_ := Aside0.mk (hbox); have n2_ := Aside0.mk ((by rw [hg]; exact (below_size belH) : w.heap.size ≤ gb101)); have n3_ := Aside0.mk ((by rw [hg]; exact (below_size belH) : w.heap.size ≤ gb101)); clear HB; have HB := n0_; have BK101 := n1_; have GW101 := n2_; have GE101 := n3_; clear n0_ n1_ n2_ n3_; clear hb hbox hg; obtain ⟨hcz13_0, hcz13_1, hcz13_2, hcz13_3, hcz13_4, hcz13_5, hcz13_6, hcz13_7, hcz13_8, hcz13_9, hcz13_10, hfz13_0, hfz13_1, hfz13_2, hfz13_3, hfz13_4, hfz13_5, hfz13_6, hfz13_7, hfz13_8, hfz13_9, hfz13_10⟩ := rows11 (w := w12) BK101))
     go_ret
     exact ⟨by first | rfl | (simp [errW_none, errW_some] <;> rfl) | (simp [*, errW_none, errW_some] <;> rfl), by repeat (first | (with_reducible first | exact HB.out | apply below_alloc | apply pw_below_drewN | apply below_drew1 | refine below_set ?_ GE101.out) | exact HB.out)⟩
    ·rw [if_neg c11] at H
     have c11b0 : decide (2147483647 < (a0_7.size : Int)) = false := decide_eq_false c11
     have c11b1 : decide (2147483647 < a0_7.size) = false := decide_eq_false (by omega)
     clear c11
     by_cases c14 : (a0_8.size : Int) > 2147483647
     ·rw [if_pos c14] at H
      have c14b0 : decide (2147483647 < (a0_8.size : Int)) = true := decide_eq_true c14
      have c14b1 : decide (2147483647 < a0_8.size) = true := decide_eq_true (by omega)
      clear c14
      obtain rfl := Option.some.inj H
      go_enter Tryd.func6, Tryd.ntmps6
      go_wp2_with (first | ((with_reducible refine gate_dst (N := 1) rfl ?_); refine box_event ?hg (N := 1) ?hd (cs := #[.int .i64 a0_0, .int .i64 a0_1, .int .i64 a0_2, .int .i64 a0_3, .string a0_4, .string a0_5, .string a0_6, .string a0_7, .string a0_8, .string a0_9, .string a0_10]) (t := 23) ?hr ?_; (case hd => rfl); (case hg => rfl); (case hr => first | (go_simp; done) | (go_simp; rfl)); intro gb101 hg w15 hbox hb; have n0_ := Aside0.mk (below_step belH hb); have n1_ := Aside0.mk (hbox); have n2_ := Aside0.mk ((by rw [hg]; exact (below_size belH) : w.heap.size ≤ gb101)); have n3_ := Aside0.mk ((by rw [hg]; exact (below_size belH) : w.heap.size ≤ gb101)); clear HB; have HB := n0_; have BK101 := n1_; have GW101 := n2_; have GE101 := n3_; clear n0_ n1_ n2_ n3_; clear hb hbox hg; obtain ⟨hcz16_0, hcz16_1, hcz16_2, hcz16_3, hcz16_4, hcz16_5, hcz16_6, hcz16_7, hcz16_8, hcz16_9, hcz16_10, hfz16_0, hfz16_1, hfz16_2, hfz16_3, hfz16_4, hfz16_5, hfz16_6, hfz16_7, hfz16_8, hfz16_9, hfz16_10⟩ := rows11 (w := w15) BK101))
      go_ret
      exact ⟨by first | rfl | (simp [errW_none, errW_some] <;> rfl) | (simp [*, errW_none, errW_some] <;> rfl), by repeat (first | (with_reducible first | exact HB.out | apply below_alloc | apply pw_below_drewN | apply below_drew1 | refine below_set ?_ GE101.out) | exact HB.out)⟩
     ·rw [if_neg c14] at H
      have c14b0 : decide (2147483647 < (a0_8.size : Int)) = false := decide_eq_false c14
      have c14b1 : decide (2147483647 < a0_8.size) = false := decide_eq_false (by omega)
      clear c14
      by_cases c17 : (a0_9.size : Int) > 2147483647
      ·rw [if_pos c17] at H
       have c17b0 : decide (2147483647 < (a0_9.size : Int)) = true := decide_eq_true c17
       have c17b1 : decide (2147483647 < a0_9.size) = true := decide_eq_true (by omega)
       clear c17
       obtain rfl := Option.some.inj H
       go_enter Tryd.func6, Tryd.ntmps6
       go_wp2_with (first | ((with_reducible refine gate_dst (N := 1) rfl ?_); refine box_event ?hg (N := 1) ?hd (cs := #[.int .i64 a0_0, .int .i64 a0_1, .int .i64 a0_2, .int .i64 a0_3, .string a0_4, .string a0_5, .string a0_6, .string a0_7, .string a0_8, .string a0_9, .string a0_10]) (t := 23) ?hr ?_; (case hd => rfl); (case hg => rfl); (case hr => first | (go_simp; done) | (go_simp; rfl)); intro gb101 hg w18 hbox hb; have n0_ := Aside0.mk (below_step belH hb); have n1_ := Aside0.mk (hbox); have n2_ := Aside0.mk ((by rw [hg]; exact (below_size belH) : w.heap.size ≤ gb101)); have n3_ := Aside0.mk ((by rw [hg]; exact (below_size belH) : w.heap.size ≤ gb101)); clear HB; have HB := n0_; have BK101 := n1_; have GW101 := n2_; have GE101 := n3_; clear n0_ n1_ n2_ n3_; clear hb hbox hg; obtain ⟨hcz19_0, hcz19_1, hcz19_2, hcz19_3, hcz19_4, hcz19_5, hcz19_6, hcz19_7, hcz19_8, hcz19_9, hcz19_10, hfz19_0, hfz19_1, hfz19_2, hfz19_3, hfz19_4, hfz19_5, hfz19_6, hfz19_7, hfz19_8, hfz19_9, hfz19_10⟩ := rows11 (w := w18) BK101))
       go_ret
       exact ⟨by first | rfl | (simp [errW_none, errW_some] <;> rfl) | (simp [*, errW_none, errW_some] <;> rfl), by repeat (first | (with_reducible first | exact HB.out | apply below_alloc | apply pw_below_drewN | apply below_drew1 | refine below_set ?_ GE101.out) | exact HB.out)⟩
      ·rw [if_neg c17] at H
       have c17b0 : decide (2147483647 < (a0_9.size : Int)) = false := decide_eq_false c17
       have c17b1 : decide (2147483647 < a0_9.size) = false := decide_eq_false (by omega)
       clear c17
       by_cases c20 : (a0_10.size : Int) > 2147483647
       ·rw [if_pos c20] at H
        have c20b0 : decide (2147483647 < (a0_10.size : Int)) = true := decide_eq_true c20
        have c20b1 : decide (2147483647 < a0_10.size) = true := decide_eq_true (by omega)
        clear c20
        obtain rfl := Option.some.inj H
        go_enter Tryd.func6, Tryd.ntmps6
        go_wp2_with (first | ((with_reducible refine gate_dst (N := 1) rfl ?_); refine box_event ?hg (N := 1) ?hd (cs := #[.int .i64 a0_0, .int .i64 a0_1, .int .i64 a0_2, .int .i64 a0_3, .string a0_4, .string a0_5, .string a0_6, .string a0_7, .string a0_8, .string a0_9, .string a0_10]) (t := 23) ?hr ?_; (case hd => rfl); (case hg => rfl); (case hr => first | (go_simp; done) | (go_simp; rfl)); intro gb101 hg w21 hbox hb; have n0_ := Aside0.mk (below_step belH hb); have n1_ := Aside0.mk (hbox); have n2_ := Aside0.mk ((by rw [hg]; exact (below_size belH) : w.heap.size ≤ gb101)); have n3_ := Aside0.mk ((by rw [hg]; exact (below_size belH) : w.heap.size ≤ gb101)); clear HB; have HB := n0_; have BK101 := n1_; have GW101 := n2_; have GE101 := n3_; clear n0_ n1_ n2_ n3_; clear hb hbox hg; obtain ⟨hcz22_0, hcz22_1, hcz22_2, hcz22_3, hcz22_4, hcz22_5, hcz22_6, hcz22_7, hcz22_8, hcz22_9, hcz22_10, hfz22_0, hfz22_1, hfz22_2, hfz22_3, hfz22_4, hfz22_5, hfz22_6, hfz22_7, hfz22_8, hfz22_9, hfz22_10⟩ := rows11 (w := w21) BK101))
        go_ret
        exact ⟨by first | rfl | (simp [errW_none, errW_some] <;> rfl) | (simp [*, errW_none, errW_some] <;> rfl), by repeat (first | (with_reducible first | exact HB.out | apply below_alloc | apply pw_below_drewN | apply below_drew1 | refine below_set ?_ GE101.out) | exact HB.out)⟩
       ·rw [if_neg c20] at H
        have c20b0 : decide (2147483647 < (a0_10.size : Int)) = false := decide_eq_false c20
        have c20b1 : decide (2147483647 < a0_10.size) = false := decide_eq_false (by omega)
        clear c20
        obtain rfl := Option.some.inj H
        go_enter Tryd.func6, Tryd.ntmps6
        go_wp2_with (first | ((with_reducible refine gate_dst (N := 1) rfl ?_); refine box_event ?hg (N := 1) ?hd (cs := #[.int .i64 a0_0, .int .i64 a0_1, .int .i64 a0_2, .int .i64 a0_3, .string a0_4, .string a0_5, .string a0_6, .string a0_7, .string a0_8, .string a0_9, .string a0_10]) (t := 23) ?hr ?_; (case hd => rfl); (case hg => rfl); (case hr => first | (go_simp; done) | (go_simp; rfl)); intro gb101 hg w23 hbox hb; have n0_ := Aside0.mk (below_step belH hb); have n1_ := Aside0.mk (hbox); have n2_ := Aside0.mk ((by rw [hg]; exact (below_size belH) : w.heap.size ≤ gb101)); have n3_ := Aside0.mk ((by rw [hg]; exact (below_size belH) : w.heap.size ≤ gb101)); clear HB; have HB := n0_; have BK101 := n1_; have GW101 := n2_; have GE101 := n3_; clear n0_ n1_ n2_ n3_; clear hb hbox hg; obtain ⟨hcz24_0, hcz24_1, hcz24_2, hcz24_3, hcz24_4, hcz24_5, hcz24_6, hcz24_7, hcz24_8, hcz24_9, hcz24_10, hfz24_0, hfz24_1, hfz24_2, hfz24_3, hfz24_4, hfz24_5, hfz24_6, hfz24_7, hfz24_8, hfz24_9, hfz24_10⟩ := rows11 (w := w23) BK101))
        go_ret
        exact ⟨by first | rfl | (simp [errW_none, errW_some] <;> rfl) | (simp [*, errW_none, errW_some] <;> rfl), by repeat (first | (with_reducible first | exact HB.out | apply below_alloc | apply pw_below_drewN | apply below_drew1 | refine below_set ?_ GE101.out) | exact HB.out)⟩

/-! ### laws_printable: function 17 -/
def laws_printable.l0 : Nat → ByteArray → Int → Int → Option (Bool)
 | 0, _, _, _ => none
 | k + 1, x0, x5, x6 => if x6 < x5 then (if 0 ≤ x6 then (if x6 < (x0.size : Int) then (if (bt x0 x6) < 32 then (some false) else (if (bt x0 x6) > 126 then (some false) else (laws_printable.l0 k x0 x5 (wrap64 (x6 + 1))))) else (none)) else (none)) else (some true)
def laws_printable.f (k : Nat) (a0 : ByteArray) : Option (Bool) := laws_printable.l0 k a0 (a0.size : Int) 0
theorem laws_printable.mono_l : ∀ k, (∀ y0 y1 y2, LeO (laws_printable.l0 k y0 y1 y2) (laws_printable.l0 (k + 1) y0 y1 y2))
 | 0 => fun _ _ _ r h => by simp [laws_printable.l0] at h
 | k + 1 => by
  have ih0 := laws_printable.mono_l k
  ·intro y0 y1 y2
   unfold laws_printable.l0
   repeat' first
   | (with_reducible exact ih0 _ _ _)
   | (with_reducible exact LeO.refl _)
   | (with_reducible exact LeO.none _)
   | (with_reducible refine LeO.ite ?_ ?_)
   | (with_reducible refine LeO.bind ?_ (fun _ => ?_))
   | exact ih0 _ _ _
   | exact LeO.none _
   | refine LeO.ite ?_ ?_
   | refine LeO.bind ?_ (fun _ => ?_)
theorem laws_printable.mono : ∀ a0 k, LeO (laws_printable.f k a0) (laws_printable.f (k + 1) a0) := by
 intro a0 k
 have ih0 := laws_printable.mono_l k
 unfold laws_printable.f
 repeat' first
   | (with_reducible exact ih0 _ _ _)
   | (with_reducible exact LeO.refl _)
   | (with_reducible exact LeO.none _)
   | (with_reducible refine LeO.ite ?_ ?_)
   | (with_reducible refine LeO.bind ?_ (fun _ => ?_))
   | exact ih0 _ _ _
   | exact LeO.none _
   | refine LeO.ite ?_ ?_
   | refine LeO.bind ?_ (fun _ => ?_)
set_option maxHeartbeats 8000000 in
set_option maxRecDepth 100000 in
theorem laws_printable.calls (k : Nat) (a0 : ByteArray) (r : Bool) (w : World) (h : laws_printable.f k a0 = some r) :
  Calls Tryd.prog 17 #[.string a0] w fun e w' => e = .returned (.bool r) ∧ Drawn0 w w' := by
 have H : (laws_printable.l0 k a0 (a0.size : Int) 0) = some r := h
 clear h
 have H' := Aside0.mk H
 clear H
 go_enter Tryd.func17, Tryd.ntmps17
 go_wp2
 go_loopg [6] k (fun kq v6 w' => ∃ (x6_1 : Int), v6 = .int .i64 x6_1 ∧ Aside0 (laws_printable.l0 kq a0 (a0.size : Int) x6_1 = some r) ∧ Aside0 (kq ≤ k) ∧ Drawn0 w w')
 case atStart => exact ⟨(0), (by first | rfl | (simp; done) | (simp [*]; done) | (simp [bne_nil]; done) | (simp [bne_nil, *]; done)), H', ⟨Nat.le_refl _⟩, by repeat (first | exact Drawn0.refl _ | apply Drawn0.step)⟩
 case round =>
  clear H'
  try clear c1
  obtain ⟨x6_1, rfl, HA, HK1, ⟨m1, rfl⟩⟩ := hrel
  cases gk with
  | zero => exact absurd HA.out (by simp [laws_printable.l0])
  | succ k1 =>
   have H := HA.out
   clear HA
   simp only [laws_printable.l0] at H
   by_cases c2 : x6_1 < (a0.size : Int)
   ·rw [if_pos c2] at H
    have c2b0 : decide (x6_1 < (a0.size : Int)) = true := decide_eq_true c2
    clear c2
    by_cases c3 : 0 ≤ x6_1
    ·rw [if_pos c3] at H
     have c3b0 : decide (0 ≤ x6_1) = true := decide_eq_true c3
     clear c3
     by_cases c4 : x6_1 < (a0.size : Int)
     ·rw [if_pos c4] at H
      have c4b0 : decide (x6_1 < (a0.size : Int)) = true := decide_eq_true c4
      clear c4
      by_cases c6 : (bt a0 x6_1) < 32
      ·rw [if_pos c6] at H
       have c6b0 : decide ((bt a0 x6_1) < 32) = true := decide_eq_true c6
       clear c6
       obtain rfl := Option.some.inj H
       have p5 : 0 ≤ (x6_1 : Int) := of_decide_eq_true (by first | (with_reducible assumption) | assumption)
       have q5 : x6_1 < (a0.size : Int) := of_decide_eq_true (by first | (with_reducible assumption) | assumption)
       have hx5 := bt_at a0 x6_1
       replace p5 := eq_true p5
       replace q5 := eq_true q5
       go_wp2
       go_ret
       exact ⟨by first | rfl | (simp; done) | (simp [*]; done) | (simp [bne_nil]; done) | (simp [bne_nil, *]; done), by repeat (first | exact Drawn0.refl _ | apply Drawn0.step)⟩
      ·rw [if_neg c6] at H
       have c6b0 : decide ((bt a0 x6_1) < 32) = false := decide_eq_false c6
       clear c6
       by_cases c8 : (bt a0 x6_1) > 126
       ·rw [if_pos c8] at H
        have c8b0 : decide (126 < (bt a0 x6_1)) = true := decide_eq_true c8
        clear c8
        obtain rfl := Option.some.inj H
        have p5 : 0 ≤ (x6_1 : Int) := of_decide_eq_true (by first | (with_reducible assumption) | assumption)
        have q5 : x6_1 < (a0.size : Int) := of_decide_eq_true (by first | (with_reducible assumption) | assumption)
        have hx5 := bt_at a0 x6_1
        replace p5 := eq_true p5
        replace q5 := eq_true q5
        have p7 : 0 ≤ (x6_1 : Int) := of_decide_eq_true (by first | (with_reducible assumption) | assumption)
        have q7 : x6_1 < (a0.size : Int) := of_decide_eq_true (by first | (with_reducible assumption) | assumption)
        have hx7 := bt_at a0 x6_1
        replace p7 := eq_true p7
        replace q7 := eq_true q7
        go_wp2
        go_ret
        exact ⟨by first | rfl | (simp; done) | (simp [*]; done) | (simp [bne_nil]; done) | (simp [bne_nil, *]; done), by repeat (first | exact Drawn0.refl _ | apply Drawn0.step)⟩
       ·rw [if_neg c8] at H
        have c8b0 : decide (126 < (bt a0 x6_1)) = false := decide_eq_false c8
        clear c8
        have H' := Aside0.mk H
        clear H
        have p5 : 0 ≤ (x6_1 : Int) := of_decide_eq_true (by first | (with_reducible assumption) | assumption)
        have q5 : x6_1 < (a0.size : Int) := of_decide_eq_true (by first | (with_reducible assumption) | assumption)
        have hx5 := bt_at a0 x6_1
        replace p5 := eq_true p5
        replace q5 := eq_true q5
        have p7 : 0 ≤ (x6_1 : Int) := of_decide_eq_true (by first | (with_reducible assumption) | assumption)
        have q7 : x6_1 < (a0.size : Int) := of_decide_eq_true (by first | (with_reducible assumption) | assumption)
        have hx7 := bt_at a0 x6_1
        replace p7 := eq_true p7
        replace q7 := eq_true q7
        go_wp2
        go_roundg k1
        case measure => have := HK1.out; omega
        case rel => exact ⟨(wrap64 (x6_1 + 1)), (by first | rfl | (simp; done) | (simp [*]; done) | (simp [bne_nil]; done) | (simp [bne_nil, *]; done)), H', ⟨by have := HK1.out; omega⟩, by repeat (first | exact Drawn0.refl _ | apply Drawn0.step)⟩
     ·rw [if_neg c4] at H
      exact absurd H (by simp)
    ·rw [if_neg c3] at H
     exact absurd H (by simp)
   ·rw [if_neg c2] at H
    have c2b0 : decide (x6_1 < (a0.size : Int)) = false := decide_eq_false c2
    clear c2
    obtain rfl := Option.some.inj H
    go_wp2
    go_ret
    exact ⟨by first | rfl | (simp; done) | (simp [*]; done) | (simp [bne_nil]; done) | (simp [bne_nil, *]; done), by repeat (first | exact Drawn0.refl _ | apply Drawn0.step)⟩

/-! ### laws_cleanPath: function 7 -/
mutual
def laws_cleanPath.j0 : Nat → ByteArray → Bool → Option (Bool)
 | 0, _, _ => none
 | k + 1, x0, x33 => if x33 = true then (some false) else (laws_cleanPath.l0 k x0 (⟨#[]⟩ : ByteArray) 1)
def laws_cleanPath.l0 : Nat → ByteArray → ByteArray → Int → Option (Bool)
 | 0, _, _, _ => none
 | k + 1, x0, x3, x4 => if x4 ≤ (x0.size : Int) then (if x4 = (x0.size : Int) then (laws_cleanPath.j2 k x0 x3 x4 true) else (if 0 ≤ x4 then (if x4 < (x0.size : Int) then (laws_cleanPath.j2 k x0 x3 x4 ((bt x0 x4) == 47)) else (none)) else (none))) else (some true)
def laws_cleanPath.j2 : Nat → ByteArray → ByteArray → Int → Bool → Option (Bool)
 | 0, _, _, _, _ => none
 | k + 1, x0, x3, x4, x49 => if x49 = true then (if x0.toList = ([47] : List UInt8) then (laws_cleanPath.l0 k x0 (⟨#[]⟩ : ByteArray) (wrap64 (x4 + 1))) else (if x3.toList = ([] : List UInt8) then (some false) else (if x3.toList = ([46] : List UInt8) then (some false) else (if x3.toList = ([46, 46] : List UInt8) then (some false) else (laws_cleanPath.l0 k x0 (⟨#[]⟩ : ByteArray) (wrap64 (x4 + 1))))))) else (if 0 ≤ x4 then (if x4 ≤ (wrap64 (x4 + 1)) then (if (wrap64 (x4 + 1)) ≤ (x0.size : Int) then (if x3.size + (x0.extract (x4 : Int).toNat ((wrap64 (x4 + 1)) : Int).toNat).size ≤ 9223372036854775807 then (laws_cleanPath.l0 k x0 (x3 ++ (x0.extract (x4 : Int).toNat ((wrap64 (x4 + 1)) : Int).toNat)) (wrap64 (x4 + 1))) else (none)) else (none)) else (none)) else (none))
end
def laws_cleanPath.f (k : Nat) (a0 : ByteArray) : Option (Bool) := (laws_printable.f k a0).bind fun t102 => (if t102 = true then (if a0.toList = ([] : List UInt8) then (laws_cleanPath.j0 k a0 true) else (if 0 < (a0.size : Int) then (if (bt a0 0) = 47 then (if a0.toList = ([47] : List UInt8) then (laws_cleanPath.j0 k a0 (decide ((a0.size : Int) > 200))) else (if 0 ≤ (wrap64 ((a0.size : Int) - 1)) then (if (wrap64 ((a0.size : Int) - 1)) < (a0.size : Int) then (if (bt a0 (wrap64 ((a0.size : Int) - 1))) = 47 then (laws_cleanPath.j0 k a0 true) else (laws_cleanPath.j0 k a0 (decide ((a0.size : Int) > 200)))) else (none)) else (none))) else (laws_cleanPath.j0 k a0 true)) else (none))) else (laws_cleanPath.j0 k a0 true))
theorem laws_cleanPath.mono_l : ∀ k, (∀ y0 y1, LeO (laws_cleanPath.j0 k y0 y1) (laws_cleanPath.j0 (k + 1) y0 y1)) ∧ (∀ y0 y1 y2, LeO (laws_cleanPath.l0 k y0 y1 y2) (laws_cleanPath.l0 (k + 1) y0 y1 y2)) ∧ (∀ y0 y1 y2 y3, LeO (laws_cleanPath.j2 k y0 y1 y2 y3) (laws_cleanPath.j2 (k + 1) y0 y1 y2 y3))
 | 0 => ⟨fun _ _ r h => by simp [laws_cleanPath.j0] at h, fun _ _ _ r h => by simp [laws_cleanPath.l0] at h, fun _ _ _ _ r h => by simp [laws_cleanPath.j2] at h⟩
 | k + 1 => by
  obtain ⟨ih0, ih1, ih2⟩ := laws_cleanPath.mono_l k
  refine ⟨?_, ?_, ?_⟩
  ·intro y0 y1
   unfold laws_cleanPath.j0
   repeat' first
   | (with_reducible exact ih0 _ _)
   | (with_reducible exact ih1 _ _ _)
   | (with_reducible exact ih2 _ _ _ _)
   | (with_reducible exact laws_printable.mono _ _)
   | (with_reducible exact LeO.refl _)
   | (with_reducible exact LeO.none _)
   | (with_reducible refine LeO.ite ?_ ?_)
   | (with_reducible refine LeO.bind ?_ (fun _ => ?_))
   | exact ih0 _ _
   | exact ih1 _ _ _
   | exact ih2 _ _ _ _
   | exact laws_printable.mono _ _
   | exact LeO.none _
   | refine LeO.ite ?_ ?_
   | refine LeO.bind ?_ (fun _ => ?_)
  ·intro y0 y1 y2
   unfold laws_cleanPath.l0
   repeat' first
   | (with_reducible exact ih0 _ _)
   | (with_reducible exact ih1 _ _ _)
   | (with_reducible exact ih2 _ _ _ _)
   | (with_reducible exact laws_printable.mono _ _)
   | (with_reducible exact LeO.refl _)
   | (with_reducible exact LeO.none _)
   | (with_reducible refine LeO.ite ?_ ?_)
   | (with_reducible refine LeO.bind ?_ (fun _ => ?_))
   | exact ih0 _ _
   | exact ih1 _ _ _
   | exact ih2 _ _ _ _
   | exact laws_printable.mono _ _
   | exact LeO.none _
   | refine LeO.ite ?_ ?_
   | refine LeO.bind ?_ (fun _ => ?_)
  ·intro y0 y1 y2 y3
   unfold laws_cleanPath.j2
   repeat' first
   | (with_reducible exact ih0 _ _)
   | (with_reducible exact ih1 _ _ _)
   | (with_reducible exact ih2 _ _ _ _)
   | (with_reducible exact laws_printable.mono _ _)
   | (with_reducible exact LeO.refl _)
   | (with_reducible exact LeO.none _)
   | (with_reducible refine LeO.ite ?_ ?_)
   | (with_reducible refine LeO.bind ?_ (fun _ => ?_))
   | exact ih0 _ _
   | exact ih1 _ _ _
   | exact ih2 _ _ _ _
   | exact laws_printable.mono _ _
   | exact LeO.none _
   | refine LeO.ite ?_ ?_
   | refine LeO.bind ?_ (fun _ => ?_)
theorem laws_cleanPath.mono : ∀ a0 k, LeO (laws_cleanPath.f k a0) (laws_cleanPath.f (k + 1) a0) := by
 intro a0 k
 obtain ⟨ih0, ih1, ih2⟩ := laws_cleanPath.mono_l k
 unfold laws_cleanPath.f
 repeat' first
   | (with_reducible exact ih0 _ _)
   | (with_reducible exact ih1 _ _ _)
   | (with_reducible exact ih2 _ _ _ _)
   | (with_reducible exact laws_printable.mono _ _)
   | (with_reducible exact LeO.refl _)
   | (with_reducible exact LeO.none _)
   | (with_reducible refine LeO.ite ?_ ?_)
   | (with_reducible refine LeO.bind ?_ (fun _ => ?_))
   | exact ih0 _ _
   | exact ih1 _ _ _
   | exact ih2 _ _ _ _
   | exact laws_printable.mono _ _
   | exact LeO.none _
   | refine LeO.ite ?_ ?_
   | refine LeO.bind ?_ (fun _ => ?_)
set_option maxHeartbeats 8000000 in
set_option maxRecDepth 100000 in
theorem laws_cleanPath.calls (k : Nat) (a0 : ByteArray) (r : Bool) (w : World) (h : laws_cleanPath.f k a0 = some r) :
  Calls Tryd.prog 7 #[.string a0] w fun e w' => e = .returned (.bool r) ∧ Drawn0 w w' := by
 have H : ((laws_printable.f k a0).bind fun t102 => (if t102 = true then (if a0.toList = ([] : List UInt8) then (laws_cleanPath.j0 k a0 true) else (if 0 < (a0.size : Int) then (if (bt a0 0) = 47 then (if a0.toList = ([47] : List UInt8) then (laws_cleanPath.j0 k a0 (decide ((a0.size : Int) > 200))) else (if 0 ≤ (wrap64 ((a0.size : Int) - 1)) then (if (wrap64 ((a0.size : Int) - 1)) < (a0.size : Int) then (if (bt a0 (wrap64 ((a0.size : Int) - 1))) = 47 then (laws_cleanPath.j0 k a0 true) else (laws_cleanPath.j0 k a0 (decide ((a0.size : Int) > 200)))) else (none)) else (none))) else (laws_cleanPath.j0 k a0 true)) else (none))) else (laws_cleanPath.j0 k a0 true))) = some r := h
 clear h
 have HC2 := Aside0.mk H
 clear H
 go_enter Tryd.func7, Tryd.ntmps7
 go_upto_region 1 with (fail)
 go_cut [33] (fun v33 wc => ∃ (kq : Nat) (x33_1 : Bool), v33 = .bool x33_1 ∧ Aside0 (laws_cleanPath.j0 kq a0 x33_1 = some r) ∧ Aside0 (kq ≤ k) ∧ Drawn0 w wc)
 case first =>
  have H := HC2.out
  clear HC2
  replace H := Option.bind_eq_some_iff.mp H
  obtain ⟨t102, A30, H⟩ := H
  have A3 := Aside0.mk A30
  clear A30
  by_cases c4 : t102 = true
  ·subst c4
   have H1 : (if a0.toList = ([] : List UInt8) then (laws_cleanPath.j0 k a0 true) else (if 0 < (a0.size : Int) then (if (bt a0 0) = 47 then (if a0.toList = ([47] : List UInt8) then (laws_cleanPath.j0 k a0 (decide ((a0.size : Int) > 200))) else (if 0 ≤ (wrap64 ((a0.size : Int) - 1)) then (if (wrap64 ((a0.size : Int) - 1)) < (a0.size : Int) then (if (bt a0 (wrap64 ((a0.size : Int) - 1))) = 47 then (laws_cleanPath.j0 k a0 true) else (laws_cleanPath.j0 k a0 (decide ((a0.size : Int) > 200)))) else (none)) else (none))) else (laws_cleanPath.j0 k a0 true)) else (none))) = some r := by rw [if_pos rfl] at H; exact H
   clear H
   have H := H1
   clear H1
   by_cases c5 : a0.toList = ([] : List UInt8)
   ·rw [if_pos c5] at H
    have c5b0 : (a0.toList == ([] : List UInt8)) = true := beq_iff_eq.mpr c5
    have c5b1 : (a0.toList != ([] : List UInt8)) = false := bne_eq_false_iff_eq.mpr c5
    clear c5
    (first | rw [c5b0] | (simp only [i64_w, i32_w]; rw [c5b0]) | skip)
    have H' := Aside0.mk H
    clear H
    go_wp2_with (first | ((with_reducible refine gate_callee (f := 17) rfl ?_); refine goesL_ (some 6) rfl rfl Tryd.func17 (by kernel_rfl) rfl #[.string a0] rfl (by (try simp only [List.map_toArray, List.map_cons, List.map_nil]); first | done | rfl | (simp only [List.length_drop, List.length_take]; rfl)) ?_; (with_reducible refine (laws_printable.calls k a0 true _ A3.out).mono ?_); rintro e w' ⟨rfl, ⟨nd, rfl⟩⟩; refine ⟨_, rfl, ?_⟩))
    go_meet
    case rel => exact ⟨_, (true), (by first | rfl | (simp; done) | (simp [*]; done) | (simp [bne_nil]; done) | (simp [bne_nil, *]; done)), H', ⟨by first | omega | exact Nat.le_refl _⟩, by repeat (first | exact Drawn0.refl _ | apply Drawn0.step)⟩
   ·rw [if_neg c5] at H
    have c5b0 : (a0.toList == ([] : List UInt8)) = false := beq_eq_false_iff_ne.mpr c5
    have c5b1 : (a0.toList != ([] : List UInt8)) = true := bne_iff_ne.mpr c5
    (first | rw [c5b0] | (simp only [i64_w, i32_w]; rw [c5b0]) | skip)
    by_cases c6 : 0 < (a0.size : Int)
    ·rw [if_pos c6] at H
     have c6b0 : decide (0 < (a0.size : Int)) = true := decide_eq_true c6
     have c6b1 : decide (0 < a0.size) = true := decide_eq_true (by omega)
     clear c6
     by_cases c8 : (bt a0 0) = 47
     ·rw [if_pos c8] at H
      have c8b0 : ((bt a0 0) == 47) = true := beq_iff_eq.mpr c8
      have c8b1 : ((bt a0 0) != 47) = false := bne_eq_false_iff_eq.mpr c8
      clear c8
      by_cases c9 : a0.toList = ([47] : List UInt8)
      ·rw [if_pos c9] at H
       have c9b0 : (a0.toList == ([47] : List UInt8)) = true := beq_iff_eq.mpr c9
       have c9b1 : (a0.toList != ([47] : List UInt8)) = false := bne_eq_false_iff_eq.mpr c9
       clear c9
       have H' := Aside0.mk H
       clear H
       go_wp2_with (first | ((with_reducible refine gate_callee (f := 17) rfl ?_); refine goesL_ (some 6) rfl rfl Tryd.func17 (by kernel_rfl) rfl #[.string a0] rfl (by (try simp only [List.map_toArray, List.map_cons, List.map_nil]); first | done | rfl | (simp only [List.length_drop, List.length_take]; rfl)) ?_; (with_reducible refine (laws_printable.calls k a0 true _ A3.out).mono ?_); rintro e w' ⟨rfl, ⟨nd, rfl⟩⟩; refine ⟨_, rfl, ?_⟩; have p7 : 0 ≤ (0 : Int) := (by omega); have q7 : 0 < a0.size := (by have : (0 : Int) < (a0.size : Int) := of_decide_eq_true (by first | (with_reducible assumption) | assumption); omega); have hx7 : ∀ h : 0 < a0.size, ((a0[0]'h).toNat : Int) = bt a0 0 := bt_at a0 0; clear p7; have qi7 : (0 < (a0.size : Int)) = True := eq_true (of_decide_eq_true (by first | (with_reducible assumption) | assumption)); replace q7 := eq_true q7))
       go_meet
       case rel => exact ⟨_, (decide ((a0.size : Int) > 200)), (by first | rfl | (simp; done) | (simp [*]; done) | (simp [bne_nil]; done) | (simp [bne_nil, *]; done)), H', ⟨by first | omega | exact Nat.le_refl _⟩, by repeat (first | exact Drawn0.refl _ | apply Drawn0.step)⟩
      ·rw [if_neg c9] at H
       have c9b0 : (a0.toList == ([47] : List UInt8)) = false := beq_eq_false_iff_ne.mpr c9
       have c9b1 : (a0.toList != ([47] : List UInt8)) = true := bne_iff_ne.mpr c9
       obtain ⟨ji10, hji10⟩ : ∃ j_ : Int, (wrap64 ((a0.size : Int) - 1)) = j_ := ⟨_, rfl⟩
       replace H : (if 0 ≤ (ji10) then (if (ji10) < (a0.size : Int) then (if (bt a0 (ji10)) = 47 then (laws_cleanPath.j0 k a0 true) else (laws_cleanPath.j0 k a0 (decide ((a0.size : Int) > 200)))) else (none)) else (none)) = some r := by first | (rw [hji10] at H; exact H) | (simp only [hji10] at H ⊢; exact H)
       (try rw [hji10] at A3)
       have hji10w : (IntKind.i64.wrap ((a0.size : Int) - 1)) = ji10 := (i64_w _).trans hji10
       by_cases c11 : 0 ≤ (ji10)
       ·rw [if_pos c11] at H
        have c11b0 : decide (0 ≤ (ji10)) = true := decide_eq_true c11
        clear c11
        by_cases c12 : (ji10) < (a0.size : Int)
        ·rw [if_pos c12] at H
         have c12b0 : decide ((ji10) < (a0.size : Int)) = true := decide_eq_true c12
         clear c12
         by_cases c14 : (bt a0 (ji10)) = 47
         ·rw [if_pos c14] at H
          have c14b0 : ((bt a0 (ji10)) == 47) = true := beq_iff_eq.mpr c14
          have c14b1 : ((bt a0 (ji10)) != 47) = false := bne_eq_false_iff_eq.mpr c14
          clear c14
          have H' := Aside0.mk H
          clear H
          go_wp2_with (first | ((with_reducible refine gate_callee (f := 17) rfl ?_); refine goesL_ (some 6) rfl rfl Tryd.func17 (by kernel_rfl) rfl #[.string a0] rfl (by (try simp only [List.map_toArray, List.map_cons, List.map_nil]); first | done | rfl | (simp only [List.length_drop, List.length_take]; rfl)) ?_; (with_reducible refine (laws_printable.calls k a0 true _ A3.out).mono ?_); rintro e w' ⟨rfl, ⟨nd, rfl⟩⟩; refine ⟨_, rfl, ?_⟩; have p7 : 0 ≤ (0 : Int) := (by omega); have q7 : 0 < a0.size := (by have : (0 : Int) < (a0.size : Int) := of_decide_eq_true (by first | (with_reducible assumption) | assumption); omega); have hx7 : ∀ h : 0 < a0.size, ((a0[0]'h).toNat : Int) = bt a0 0 := bt_at a0 0; clear p7; have qi7 : (0 < (a0.size : Int)) = True := eq_true (of_decide_eq_true (by first | (with_reducible assumption) | assumption)); replace q7 := eq_true q7; have p13 : 0 ≤ ((ji10) : Int) := of_decide_eq_true (by first | (with_reducible assumption) | assumption); have q13 : (ji10) < (a0.size : Int) := of_decide_eq_true (by first | (with_reducible assumption) | assumption); have hx13 := bt_at a0 (ji10); replace p13 := eq_true p13; replace q13 := eq_true q13))
          go_meet
          case rel => exact ⟨_, (true), (by first | rfl | (simp; done) | (simp [*]; done) | (simp [bne_nil]; done) | (simp [bne_nil, *]; done)), H', ⟨by first | omega | exact Nat.le_refl _⟩, by repeat (first | exact Drawn0.refl _ | apply Drawn0.step)⟩
         ·rw [if_neg c14] at H
          have c14b0 : ((bt a0 (ji10)) == 47) = false := beq_eq_false_iff_ne.mpr c14
          have c14b1 : ((bt a0 (ji10)) != 47) = true := bne_iff_ne.mpr c14
          have H' := Aside0.mk H
          clear H
          go_wp2_with (first | ((with_reducible refine gate_callee (f := 17) rfl ?_); refine goesL_ (some 6) rfl rfl Tryd.func17 (by kernel_rfl) rfl #[.string a0] rfl (by (try simp only [List.map_toArray, List.map_cons, List.map_nil]); first | done | rfl | (simp only [List.length_drop, List.length_take]; rfl)) ?_; (with_reducible refine (laws_printable.calls k a0 true _ A3.out).mono ?_); rintro e w' ⟨rfl, ⟨nd, rfl⟩⟩; refine ⟨_, rfl, ?_⟩; have p7 : 0 ≤ (0 : Int) := (by omega); have q7 : 0 < a0.size := (by have : (0 : Int) < (a0.size : Int) := of_decide_eq_true (by first | (with_reducible assumption) | assumption); omega); have hx7 : ∀ h : 0 < a0.size, ((a0[0]'h).toNat : Int) = bt a0 0 := bt_at a0 0; clear p7; have qi7 : (0 < (a0.size : Int)) = True := eq_true (of_decide_eq_true (by first | (with_reducible assumption) | assumption)); replace q7 := eq_true q7; have p13 : 0 ≤ ((ji10) : Int) := of_decide_eq_true (by first | (with_reducible assumption) | assumption); have q13 : (ji10) < (a0.size : Int) := of_decide_eq_true (by first | (with_reducible assumption) | assumption); have hx13 := bt_at a0 (ji10); replace p13 := eq_true p13; replace q13 := eq_true q13))
          go_meet
          case rel => exact ⟨_, (decide ((a0.size : Int) > 200)), (by first | rfl | (simp; done) | (simp [*]; done) | (simp [bne_nil]; done) | (simp [bne_nil, *]; done)), H', ⟨by first | omega | exact Nat.le_refl _⟩, by repeat (first | exact Drawn0.refl _ | apply Drawn0.step)⟩
        ·rw [if_neg c12] at H
         exact absurd H (by simp)
       ·rw [if_neg c11] at H
        exact absurd H (by simp)
     ·rw [if_neg c8] at H
      have c8b0 : ((bt a0 0) == 47) = false := beq_eq_false_iff_ne.mpr c8
      have c8b1 : ((bt a0 0) != 47) = true := bne_iff_ne.mpr c8
      have H' := Aside0.mk H
      clear H
      go_wp2_with (first | ((with_reducible refine gate_callee (f := 17) rfl ?_); refine goesL_ (some 6) rfl rfl Tryd.func17 (by kernel_rfl) rfl #[.string a0] rfl (by (try simp only [List.map_toArray, List.map_cons, List.map_nil]); first | done | rfl | (simp only [List.length_drop, List.length_take]; rfl)) ?_; (with_reducible refine (laws_printable.calls k a0 true _ A3.out).mono ?_); rintro e w' ⟨rfl, ⟨nd, rfl⟩⟩; refine ⟨_, rfl, ?_⟩; have p7 : 0 ≤ (0 : Int) := (by omega); have q7 : 0 < a0.size := (by have : (0 : Int) < (a0.size : Int) := of_decide_eq_true (by first | (with_reducible assumption) | assumption); omega); have hx7 : ∀ h : 0 < a0.size, ((a0[0]'h).toNat : Int) = bt a0 0 := bt_at a0 0; clear p7; have qi7 : (0 < (a0.size : Int)) = True := eq_true (of_decide_eq_true (by first | (with_reducible assumption) | assumption)); replace q7 := eq_true q7))
      go_meet
      case rel => exact ⟨_, (true), (by first | rfl | (simp; done) | (simp [*]; done) | (simp [bne_nil]; done) | (simp [bne_nil, *]; done)), H', ⟨by first | omega | exact Nat.le_refl _⟩, by repeat (first | exact Drawn0.refl _ | apply Drawn0.step)⟩
    ·rw [if_neg c6] at H
     exact absurd H (by simp)
  ·replace c4 := Bool.eq_false_iff.mpr c4
   subst c4
   have H1 : (laws_cleanPath.j0 k a0 true) = some r := by rw [if_neg (show ¬ (false = true) by decide)] at H; exact H
   clear H
   have H := H1
   clear H1
   have H' := Aside0.mk H
   clear H
   go_wp2_with (first | ((with_reducible refine gate_callee (f := 17) rfl ?_); refine goesL_ (some 6) rfl rfl Tryd.func17 (by kernel_rfl) rfl #[.string a0] rfl (by (try simp only [List.map_toArray, List.map_cons, List.map_nil]); first | done | rfl | (simp only [List.length_drop, List.length_take]; rfl)) ?_; (with_reducible refine (laws_printable.calls k a0 false _ A3.out).mono ?_); rintro e w' ⟨rfl, ⟨nd, rfl⟩⟩; refine ⟨_, rfl, ?_⟩))
   go_meet
   case rel => exact ⟨_, (true), (by first | rfl | (simp; done) | (simp [*]; done) | (simp [bne_nil]; done) | (simp [bne_nil, *]; done)), H', ⟨by first | omega | exact Nat.le_refl _⟩, by repeat (first | exact Drawn0.refl _ | apply Drawn0.step)⟩
 case rest =>
  clear HC2
  try clear c1
  try clear p1
  try clear q1
  try clear hx1
  try clear p2
  try clear c4
  try clear c5
  try clear c5b0
  try clear c5b1
  try clear c6
  try clear c6b0
  try clear c6b1
  try clear p6
  try clear c7
  try clear p7
  try clear q7
  try clear hx7
  try clear qi7
  try clear c8
  try clear c8b0
  try clear c8b1
  try clear c9
  try clear c9b0
  try clear c9b1
  try clear c11
  try clear c11b0
  try clear c12
  try clear c12b0
  try clear p13
  try clear q13
  try clear hx13
  try clear c14
  try clear c14b0
  try clear c14b1
  try clear p13
  try clear p7
  try clear q13
  try clear q7
  obtain ⟨kq, x33_1, rfl, HA, HJ1, ⟨mc1, rfl⟩⟩ := hcut
  cases kq with
  | zero => exact absurd HA.out (by simp [laws_cleanPath.j0])
  | succ kj1 =>
   have H := HA.out
   clear HA
   simp only [laws_cleanPath.j0] at H
   by_cases c15 : x33_1 = true
   ·subst c15
    have H1 : (some false) = some r := by rw [if_pos rfl] at H; exact H
    clear H
    have H := H1
    clear H1
    obtain rfl := Option.some.inj H
    go_wp2
    go_ret
    exact ⟨by first | rfl | (simp; done) | (simp [*]; done) | (simp [bne_nil]; done) | (simp [bne_nil, *]; done), by repeat (first | exact Drawn0.refl _ | apply Drawn0.step)⟩
   ·replace c15 := Bool.eq_false_iff.mpr c15
    subst c15
    have H1 : (laws_cleanPath.l0 kj1 a0 (⟨#[]⟩ : ByteArray) 1) = some r := by rw [if_neg (show ¬ (false = true) by decide)] at H; exact H
    clear H
    have H := H1
    clear H1
    have H' := Aside0.mk H
    clear H
    go_wp2
    go_loopg [3, 4] kj1 (fun kq v3 v4 w' => ∃ (x3_2 : ByteArray) (x4_2 : Int), v3 = .string x3_2 ∧ v4 = .int .i64 x4_2 ∧ Aside0 (laws_cleanPath.l0 kq a0 x3_2 x4_2 = some r) ∧ Aside0 (kq ≤ kj1) ∧ Drawn0 w w')
    case atStart => exact ⟨((⟨#[]⟩ : ByteArray)), (1), (by first | rfl | (simp; done) | (simp [*]; done) | (simp [bne_nil]; done) | (simp [bne_nil, *]; done)), (by first | rfl | (simp; done) | (simp [*]; done) | (simp [bne_nil]; done) | (simp [bne_nil, *]; done)), H', ⟨Nat.le_refl _⟩, by repeat (first | exact Drawn0.refl _ | apply Drawn0.step)⟩
    case round =>
     clear H'
     try clear c1
     try clear p1
     try clear q1
     try clear hx1
     try clear p2
     try clear c4
     try clear c5
     try clear c5b0
     try clear c5b1
     try clear c6
     try clear c6b0
     try clear c6b1
     try clear p6
     try clear c7
     try clear p7
     try clear q7
     try clear hx7
     try clear qi7
     try clear c8
     try clear c8b0
     try clear c8b1
     try clear c9
     try clear c9b0
     try clear c9b1
     try clear c11
     try clear c11b0
     try clear c12
     try clear c12b0
     try clear p13
     try clear q13
     try clear hx13
     try clear c14
     try clear c14b0
     try clear c14b1
     try clear c15
     try clear p1
     try clear p13
     try clear p2
     try clear p6
     try clear p7
     try clear q1
     try clear q13
     try clear q7
     obtain ⟨x3_2, x4_2, rfl, rfl, HA, HK2, ⟨m2, rfl⟩⟩ := hrel
     cases gk with
     | zero => exact absurd HA.out (by simp [laws_cleanPath.l0])
     | succ k2 =>
      have H := HA.out
      clear HA
      simp only [laws_cleanPath.l0] at H
      by_cases c16 : x4_2 ≤ (a0.size : Int)
      ·rw [if_pos c16] at H
       have c16b0 : decide (x4_2 ≤ (a0.size : Int)) = true := decide_eq_true c16
       clear c16
       have HC17 := Aside0.mk H
       clear H
       go_upto_region 7 with (fail)
       go_cut [49] (fun v49 wc => ∃ (kq : Nat) (x49_16 : Bool), v49 = .bool x49_16 ∧ Aside0 (laws_cleanPath.j2 kq a0 x3_2 x4_2 x49_16 = some r) ∧ Aside0 (kq ≤ k2) ∧ Drawn0 w wc)
       case first =>
        have H := HC17.out
        clear HC17
        by_cases c18 : x4_2 = (a0.size : Int)
        ·rw [if_pos c18] at H
         have c18b0 : (x4_2 == (a0.size : Int)) = true := beq_iff_eq.mpr c18
         have c18b1 : (x4_2 != (a0.size : Int)) = false := bne_eq_false_iff_eq.mpr c18
         clear c18
         (first | rw [c18b0] | (simp only [i64_w, i32_w]; rw [c18b0]) | skip)
         have H' := Aside0.mk H
         clear H
         go_wp2
         go_meet
         case rel => exact ⟨_, (true), (by first | rfl | (simp; done) | (simp [*]; done) | (simp [bne_nil]; done) | (simp [bne_nil, *]; done)), H', ⟨by have := HJ1.out; have := HK2.out; first | omega | exact Nat.le_refl _⟩, by repeat (first | exact Drawn0.refl _ | apply Drawn0.step)⟩
        ·rw [if_neg c18] at H
         have c18b0 : (x4_2 == (a0.size : Int)) = false := beq_eq_false_iff_ne.mpr c18
         have c18b1 : (x4_2 != (a0.size : Int)) = true := bne_iff_ne.mpr c18
         (first | rw [c18b0] | (simp only [i64_w, i32_w]; rw [c18b0]) | skip)
         by_cases c19 : 0 ≤ x4_2
         ·rw [if_pos c19] at H
          have c19b0 : decide (0 ≤ x4_2) = true := decide_eq_true c19
          clear c19
          by_cases c20 : x4_2 < (a0.size : Int)
          ·rw [if_pos c20] at H
           have c20b0 : decide (x4_2 < (a0.size : Int)) = true := decide_eq_true c20
           clear c20
           have H' := Aside0.mk H
           clear H
           have p21 : 0 ≤ (x4_2 : Int) := of_decide_eq_true (by first | (with_reducible assumption) | assumption)
           have q21 : x4_2 < (a0.size : Int) := of_decide_eq_true (by first | (with_reducible assumption) | assumption)
           have hx21 := bt_at a0 x4_2
           replace p21 := eq_true p21
           replace q21 := eq_true q21
           go_wp2
           go_meet
           case rel => exact ⟨_, (((bt a0 x4_2) == 47)), (by first | rfl | (simp; done) | (simp [*]; done) | (simp [bne_nil]; done) | (simp [bne_nil, *]; done)), H', ⟨by have := HJ1.out; have := HK2.out; first | omega | exact Nat.le_refl _⟩, by repeat (first | exact Drawn0.refl _ | apply Drawn0.step)⟩
          ·rw [if_neg c20] at H
           exact absurd H (by simp)
         ·rw [if_neg c19] at H
          exact absurd H (by simp)
       case rest =>
        clear HC17
        try clear c1
        try clear p1
        try clear q1
        try clear hx1
        try clear c2
        try clear p2
        try clear q2
        try clear hx2
        try clear c4
        try clear c5
        try clear c5b0
        try clear c5b1
        try clear c6
        try clear c6b0
        try clear c6b1
        try clear p6
        try clear c7
        try clear p7
        try clear q7
        try clear hx7
        try clear qi7
        try clear c8
        try clear c8b0
        try clear c8b1
        try clear c9
        try clear c9b0
        try clear c9b1
        try clear c11
        try clear c11b0
        try clear c12
        try clear c12b0
        try clear p13
        try clear q13
        try clear hx13
        try clear c14
        try clear c14b0
        try clear c14b1
        try clear c15
        try clear c16
        try clear c16b0
        try clear c17
        try clear c18
        try clear c18b0
        try clear c18b1
        try clear c19
        try clear c19b0
        try clear c20
        try clear c20b0
        try clear p21
        try clear q21
        try clear hx21
        try clear p1
        try clear p13
        try clear p2
        try clear p21
        try clear p6
        try clear p7
        try clear q1
        try clear q13
        try clear q21
        try clear q7
        obtain ⟨kq, x49_16, rfl, HA, HJ16, ⟨mc16, rfl⟩⟩ := hcut
        cases kq with
        | zero => exact absurd HA.out (by simp [laws_cleanPath.j2])
        | succ kj16 =>
         have H := HA.out
         clear HA
         simp only [laws_cleanPath.j2] at H
         by_cases c22 : x49_16 = true
         ·subst c22
          have H1 : (if a0.toList = ([47] : List UInt8) then (laws_cleanPath.l0 kj16 a0 (⟨#[]⟩ : ByteArray) (wrap64 (x4_2 + 1))) else (if x3_2.toList = ([] : List UInt8) then (some false) else (if x3_2.toList = ([46] : List UInt8) then (some false) else (if x3_2.toList = ([46, 46] : List UInt8) then (some false) else (laws_cleanPath.l0 kj16 a0 (⟨#[]⟩ : ByteArray) (wrap64 (x4_2 + 1))))))) = some r := by rw [if_pos rfl] at H; exact H
          clear H
          have H := H1
          clear H1
          by_cases c23 : a0.toList = ([47] : List UInt8)
          ·rw [if_pos c23] at H
           have c23b0 : (a0.toList == ([47] : List UInt8)) = true := beq_iff_eq.mpr c23
           have c23b1 : (a0.toList != ([47] : List UInt8)) = false := bne_eq_false_iff_eq.mpr c23
           clear c23
           have H' := Aside0.mk H
           clear H
           go_wp2
           go_roundg kj16
           case measure => have := HJ1.out; have := HK2.out; have := HJ16.out; omega
           case rel => exact ⟨((⟨#[]⟩ : ByteArray)), (wrap64 (x4_2 + 1)), (by first | rfl | (simp; done) | (simp [*]; done) | (simp [bne_nil]; done) | (simp [bne_nil, *]; done)), (by first | rfl | (simp; done) | (simp [*]; done) | (simp [bne_nil]; done) | (simp [bne_nil, *]; done)), H', ⟨by have := HJ1.out; have := HK2.out; have := HJ16.out; omega⟩, by repeat (first | exact Drawn0.refl _ | apply Drawn0.step)⟩
          ·rw [if_neg c23] at H
           have c23b0 : (a0.toList == ([47] : List UInt8)) = false := beq_eq_false_iff_ne.mpr c23
           have c23b1 : (a0.toList != ([47] : List UInt8)) = true := bne_iff_ne.mpr c23
           by_cases c24 : x3_2.toList = ([] : List UInt8)
           ·rw [if_pos c24] at H
            have c24b0 : (x3_2.toList == ([] : List UInt8)) = true := beq_iff_eq.mpr c24
            have c24b1 : (x3_2.toList != ([] : List UInt8)) = false := bne_eq_false_iff_eq.mpr c24
            clear c24
            obtain rfl := Option.some.inj H
            go_wp2
            go_ret
            exact ⟨by first | rfl | (simp; done) | (simp [*]; done) | (simp [bne_nil]; done) | (simp [bne_nil, *]; done), by repeat (first | exact Drawn0.refl _ | apply Drawn0.step)⟩
           ·rw [if_neg c24] at H
            have c24b0 : (x3_2.toList == ([] : List UInt8)) = false := beq_eq_false_iff_ne.mpr c24
            have c24b1 : (x3_2.toList != ([] : List UInt8)) = true := bne_iff_ne.mpr c24
            by_cases c25 : x3_2.toList = ([46] : List UInt8)
            ·rw [if_pos c25] at H
             have c25b0 : (x3_2.toList == ([46] : List UInt8)) = true := beq_iff_eq.mpr c25
             have c25b1 : (x3_2.toList != ([46] : List UInt8)) = false := bne_eq_false_iff_eq.mpr c25
             clear c25
             obtain rfl := Option.some.inj H
             go_wp2
             go_ret
             exact ⟨by first | rfl | (simp; done) | (simp [*]; done) | (simp [bne_nil]; done) | (simp [bne_nil, *]; done), by repeat (first | exact Drawn0.refl _ | apply Drawn0.step)⟩
            ·rw [if_neg c25] at H
             have c25b0 : (x3_2.toList == ([46] : List UInt8)) = false := beq_eq_false_iff_ne.mpr c25
             have c25b1 : (x3_2.toList != ([46] : List UInt8)) = true := bne_iff_ne.mpr c25
             by_cases c26 : x3_2.toList = ([46, 46] : List UInt8)
             ·rw [if_pos c26] at H
              have c26b0 : (x3_2.toList == ([46, 46] : List UInt8)) = true := beq_iff_eq.mpr c26
              have c26b1 : (x3_2.toList != ([46, 46] : List UInt8)) = false := bne_eq_false_iff_eq.mpr c26
              clear c26
              obtain rfl := Option.some.inj H
              go_wp2
              go_ret
              exact ⟨by first | rfl | (simp; done) | (simp [*]; done) | (simp [bne_nil]; done) | (simp [bne_nil, *]; done), by repeat (first | exact Drawn0.refl _ | apply Drawn0.step)⟩
             ·rw [if_neg c26] at H
              have c26b0 : (x3_2.toList == ([46, 46] : List UInt8)) = false := beq_eq_false_iff_ne.mpr c26
              have c26b1 : (x3_2.toList != ([46, 46] : List UInt8)) = true := bne_iff_ne.mpr c26
              have H' := Aside0.mk H
              clear H
              go_wp2
              go_roundg kj16
              case measure => have := HJ1.out; have := HK2.out; have := HJ16.out; omega
              case rel => exact ⟨((⟨#[]⟩ : ByteArray)), (wrap64 (x4_2 + 1)), (by first | rfl | (simp; done) | (simp [*]; done) | (simp [bne_nil]; done) | (simp [bne_nil, *]; done)), (by first | rfl | (simp; done) | (simp [*]; done) | (simp [bne_nil]; done) | (simp [bne_nil, *]; done)), H', ⟨by have := HJ1.out; have := HK2.out; have := HJ16.out; omega⟩, by repeat (first | exact Drawn0.refl _ | apply Drawn0.step)⟩
         ·replace c22 := Bool.eq_false_iff.mpr c22
          subst c22
          have H1 : (if 0 ≤ x4_2 then (if x4_2 ≤ (wrap64 (x4_2 + 1)) then (if (wrap64 (x4_2 + 1)) ≤ (a0.size : Int) then (if x3_2.size + (a0.extract (x4_2 : Int).toNat ((wrap64 (x4_2 + 1)) : Int).toNat).size ≤ 9223372036854775807 then (laws_cleanPath.l0 kj16 a0 (x3_2 ++ (a0.extract (x4_2 : Int).toNat ((wrap64 (x4_2 + 1)) : Int).toNat)) (wrap64 (x4_2 + 1))) else (none)) else (none)) else (none)) else (none)) = some r := by rw [if_neg (show ¬ (false = true) by decide)] at H; exact H
          clear H
          have H := H1
          clear H1
          by_cases c27 : 0 ≤ x4_2
          ·rw [if_pos c27] at H
           have c27b0 := eq_true c27
           have c27b1 : decide (0 ≤ x4_2) = true := decide_eq_true c27
           clear c27
           by_cases c28 : x4_2 ≤ (wrap64 (x4_2 + 1))
           ·rw [if_pos c28] at H
            have c28b0 := eq_true c28
            have c28b1 : decide (x4_2 ≤ (wrap64 (x4_2 + 1))) = true := decide_eq_true c28
            by_cases c29 : (wrap64 (x4_2 + 1)) ≤ (a0.size : Int)
            ·rw [if_pos c29] at H
             have c29b0 := eq_true c29
             have c29b1 : decide ((wrap64 (x4_2 + 1)) ≤ (a0.size : Int)) = true := decide_eq_true c29
             by_cases c30 : x3_2.size + (a0.extract (x4_2 : Int).toNat ((wrap64 (x4_2 + 1)) : Int).toNat).size ≤ 9223372036854775807
             ·rw [if_pos c30] at H
              have c30b0 := eq_true c30
              have c30b1 : decide (x3_2.size + (a0.extract (x4_2 : Int).toNat ((wrap64 (x4_2 + 1)) : Int).toNat).size ≤ 9223372036854775807) = true := decide_eq_true c30
              try have c30b2 : (9223372036854775807 < x3_2.size + (a0.extract (x4_2 : Int).toNat ((wrap64 (x4_2 + 1)) : Int).toNat).size) = False := eq_false (Nat.not_lt.2 c30)
              have H' := Aside0.mk H
              clear H
              go_wp2
              go_roundg kj16
              case measure => have := HJ1.out; have := HK2.out; have := HJ16.out; omega
              case rel => exact ⟨(x3_2 ++ (a0.extract (x4_2 : Int).toNat ((wrap64 (x4_2 + 1)) : Int).toNat)), (wrap64 (x4_2 + 1)), (by first | rfl | (simp; done) | (simp [*]; done) | (simp [bne_nil]; done) | (simp [bne_nil, *]; done)), (by first | rfl | (simp; done) | (simp [*]; done) | (simp [bne_nil]; done) | (simp [bne_nil, *]; done)), H', ⟨by have := HJ1.out; have := HK2.out; have := HJ16.out; omega⟩, by repeat (first | exact Drawn0.refl _ | apply Drawn0.step)⟩
             ·rw [if_neg c30] at H
              exact absurd H (by simp)
            ·rw [if_neg c29] at H
             exact absurd H (by simp)
           ·rw [if_neg c28] at H
            exact absurd H (by simp)
          ·rw [if_neg c27] at H
           exact absurd H (by simp)
      ·rw [if_neg c16] at H
       have c16b0 : decide (x4_2 ≤ (a0.size : Int)) = false := decide_eq_false c16
       clear c16
       obtain rfl := Option.some.inj H
       go_wp2
       go_ret
       exact ⟨by first | rfl | (simp; done) | (simp [*]; done) | (simp [bne_nil]; done) | (simp [bne_nil, *]; done), by repeat (first | exact Drawn0.refl _ | apply Drawn0.step)⟩

end Go.Proofs.YtokojamaigebaaaDoor.L
