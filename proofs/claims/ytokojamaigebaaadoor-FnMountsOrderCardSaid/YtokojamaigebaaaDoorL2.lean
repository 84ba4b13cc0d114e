-- written by a program of this session (wip/tools/pp.py)
import Derived.Test.YtokojamaigebaaaDoorL0
namespace Go.Proofs.YtokojamaigebaaaDoor.L
open Go.RowKit Go.Proofs.YtokojamaigebaaaDoorW.PrintWords Go.Proofs.YtokojamaigebaaaDoorW.PrintLast Go.Proofs.YtokojamaigebaaaDoor.M Go.Proofs.YtokojamaigebaaaDoor.MtDoor Go.Proofs.YtokojamaigebaaaDoorW.PrintMore
attribute [local go_sem] max2_int min2_int max_two min_two max_three min_three max_four min_four   -- for this text's walks alone
set_option linter.unusedVariables false
set_option linter.unusedSimpArgs false

/-! ### laws_zzFits2: function 6 -/
def laws_zzFits2.f (a0_0 : Int) (a0_1 : Int) (a0_2 : Int) (a0_3 : Int) (a0_4 : ByteArray) (a0_5 : ByteArray) (a0_6 : ByteArray) (a0_7 : ByteArray) (a0_8 : ByteArray) (a0_9 : ByteArray) (a0_10 : ByteArray) : Option (Bool) := if (a0_4.size : Int) > 2147483647 then (some false) else (if (a0_5.size : Int) > 2147483647 then (some false) else (if (a0_6.size : Int) > 2147483647 then (some false) else (if (a0_7.size : Int) > 2147483647 then (some false) else (if (a0_8.size : Int) > 2147483647 then (some false) else (if (a0_9.size : Int) > 2147483647 then (some false) else (if (a0_10.size : Int) > 2147483647 then (some false) else (some true)))))))
set_option maxHeartbeats 8000000 in
set_option maxRecDepth 100000 in
theorem laws_zzFits2.calls (a0_0 : Int) (a0_1 : Int) (a0_2 : Int) (a0_3 : Int) (a0_4 : ByteArray) (a0_5 : ByteArray) (a0_6 : ByteArray) (a0_7 : ByteArray) (a0_8 : ByteArray) (a0_9 : ByteArray) (a0_10 : ByteArray) (r : Bool) (w : World) (h : laws_zzFits2.f a0_0 a0_1 a0_2 a0_3 a0_4 a0_5 a0_6 a0_7 a0_8 a0_9 a0_10 = some r) :
  Calls Tryd.prog 6 #[.agg #[.int .i64 a0_0, .int .i64 a0_1, .int .i64 a0_2, .int .i64 a0_3, .string a0_4, .string a0_5, .string a0_6, .string a0_7, .string a0_8, .string a0_9, .string a0_10]] w fun e w' => e = .returned (.bool r) ∧ Below w.heap.size w w' := by
 have hu23 := Tryd.underlying23
 have HB := Aside0.mk (Below.refl w.heap.size w)
 have H : (if (a0_4.size : Int) > 2147483647 then (some false) else (if (a0_5.size : Int) > 2147483647 then (some false) else (if (a0_6.size : Int) > 2147483647 then (some false) else (if (a0_7.size : Int) > 2147483647 then (some false) else (if (a0_8.size : Int) > 2147483647 then (some false) else (if (a0_9.size : Int) > 2147483647 then (some false) else (if (a0_10.size : Int) > 2147483647 then (some false) else (some true)))))))) = some r := h
 clear h
 by_cases c2 : (a0_4.size : Int) > 2147483647
 ·rw [if_pos c2] at H
  have c2b0 : decide (2147483647 < (a0_4.size : Int)) = true := decide_eq_true c2
  have c2b1 : decide (2147483647 < a0_4.size) = true := decide_eq_true (by omega)
  clear c2
  obtain rfl := Option.some.inj H
  go_enter Tryd.func6, Tryd.ntmps6
  go_wp2_with (first | ((with_reducible refine gate_dst (N := 1) rfl ?_); refine box_event ?hg (N := 1) ?hd (cs := #[.int .i64 a0_0, .int .i64 a0_1, .int .i64 a0_2, .int .i64 a0_3, .string a0_4, .string a0_5, .string a0_6, .string a0_7, .string a0_8, .string a0_9, .string a0_10]) (t := 23) ?hr ?_; (case hd => rfl); (case hg => rfl); (case hr => first | (go_simp; done) | (go_simp; rfl)); intro gb101 hg w3 hbox hb; have n0_ := Aside0.mk (below_step belH hb); have n1_ := Aside0.mk (hbox); have n2_ := Aside0.mk ((by rw [hg]; exact (below_size belH) : w.heap.size ≤ gb101)); have n3_ := Aside0.mk ((by rw [hg]; exact (below_size belH) : w.heap.size ≤ gb101)); clear HB; have HB := n0_; have BK101 := n1_; have GW101 := n2_; have GE101 := n3_; clear n0_ n1_ n2_ n3_; clear hb hbox hg; obtain ⟨hcz4_0, hcz4_1, hcz4_2, hcz4_3, hcz4_4, hcz4_5, hcz4_6, hcz4_7, hcz4_8, hcz4_9, hcz4_10, hfz4_0, hfz4_1, hfz4_2, hfz4_3, hfz4_4, hfz4_5, hfz4_6, hfz4_7, hfz4_8, hfz4_9, hfz4_10⟩ := rows11 (w := w3) BK101))
  go_ret
  exact ⟨by first | rfl | (simp [errW_none, errW_some] <;> rfl) | (simp [*, errW_none, errW_some] <;> rfl), by repeat (first | (with_reducible first | exact HB.out | apply below_alloc | apply pw_below_drewN | apply below_drew1 | refine below_set ?_ GE101.out) | exact HB.out)⟩
 ·rw [if_neg c2] at H
  have c2b0 : decide (2147483647 < (a0_4.size : Int)) = false := decide_eq_false c2
  have c2b1 : decide (2147483647 < a0_4.size) = false := decide_eq_false (by omega)
  clear c2
  by_cases c5 : (a0_5.size : Int) > 2147483647
  ·rw [if_pos c5] at H
   have c5b0 : decide (2147483647 < (a0_5.size : Int)) = true := decide_eq_true c5
   have c5b1 : decide (2147483647 < a0_5.size) = true := decide_eq_true (by omega)
   clear c5
   obtain rfl := Option.some.inj H
   go_enter Tryd.func6, Tryd.ntmps6
   go_wp2_with (first | ((with_reducible refine gate_dst (N := 1) rfl ?_); refine box_event ?hg (N := 1) ?hd (cs := #[.int .i64 a0_0, .int .i64 a0_1, .int .i64 a0_2, .int .i64 a0_3, .string a0_4, .string a0_5, .string a0_6, .string a0_7, .string a0_8, .string a0_9, .string a0_10]) (t := 23) ?hr ?_; (case hd => rfl); (case hg => rfl); (case hr => first | (go_simp; done) | (go_simp; rfl)); intro gb101 hg w6 hbox hb; have n0_ := Aside0.mk (below_step belH hb); have n1_ := Aside0.mk (hbox); have n2_ := Aside0.mk ((by rw [hg]; exact (below_size belH) : w.heap.size ≤ gb101)); have n3_ := Aside0.mk ((by rw [hg]; exact (below_size belH) : w.heap.size ≤ gb101)); clear HB; have HB := n0_; have BK101 := n1_; have GW101 := n2_; have GE101 := n3_; clear n0_ n1_ n2_ n3_; clear hb hbox hg; obtain ⟨hcz7_0, hcz7_1, hcz7_2, hcz7_3, hcz7_4, hcz7_5, hcz7_6, hcz7_7, hcz7_8, hcz7_9, hcz7_10, hfz7_0, hfz7_1, hfz7_2, hfz7_3, hfz7_4, hfz7_5, hfz7_6, hfz7_7, hfz7_8, hfz7_9, hfz7_10⟩ := rows11 (w := w6) BK101))
   go_ret
   exact ⟨by first | rfl | (simp [errW_none, errW_some] <;> rfl) | (simp [*, errW_none, errW_some] <;> rfl), by repeat (first | (with_reducible first | exact HB.out | apply below_alloc | apply pw_below_drewN | apply below_drew1 | refine below_set ?_ GE101.out) | exact HB.out)⟩
  ·rw [if_neg c5] at H
   have c5b0 : decide (2147483647 < (a0_5.size : Int)) = false := decide_eq_false c5
   have c5b1 : decide (2147483647 < a0_5.size) = false := decide_eq_false (by omega)
   clear c5
   by_cases c8 : (a0_6.size : Int) > 2147483647
   ·rw [if_pos c8] at H
    have c8b0 : decide (2147483647 < (a0_6.size : Int)) = true := decide_eq_true c8
    have c8b1 : decide (2147483647 < a0_6.size) = true := decide_eq_true (by omega)
    clear c8
    obtain rfl := Option.some.inj H
    go_enter Tryd.func6, Tryd.ntmps6
    go_wp2_with (first | ((with_reducible refine gate_dst (N := 1) rfl ?_); refine box_event ?hg (N := 1) ?hd (cs := #[.int .i64 a0_0, .int .i64 a0_1, .int .i64 a0_2, .int .i64 a0_3, .string a0_4, .string a0_5, .string a0_6, .string a0_7, .string a0_8, .string a0_9, .string a0_10]) (t := 23) ?hr ?_; (case hd => rfl); (case hg => rfl); (case hr => first | (go_simp; done) | (go_simp; rfl)); intro gb101 hg w9 hbox hb; have n0_ := Aside0.mk (below_step belH hb); have n1_ := Aside0.mk (hbox); have n2_ := Aside0.mk ((by rw [hg]; exact (below_size belH) : w.heap.size ≤ gb101)); have n3_ := Aside0.mk ((by rw [hg]; exact (below_size belH) : w.heap.size ≤ gb101)); clear HB; have HB := n0_; have BK101 := n1_; have GW101 := n2_; have GE101 := n3_; clear n0_ n1_ n2_ n3_; clear hb hbox hg; obtain ⟨hcz10_0, hcz10_1, hcz10_2, hcz10_3, hcz10_4, hcz10_5, hcz10_6, hcz10_7, hcz10_8, hcz10_9, hcz10_10, hfz10_0, hfz10_1, hfz10_2, hfz10_3, hfz10_4, hfz10_5, hfz10_6, hfz10_7, hfz10_8, hfz10_9, hfz10_10⟩ := rows11 (w := w9) BK101))
    go_ret
    exact ⟨by first | rfl | (simp [errW_none, errW_some] <;> rfl) | (simp [*, errW_none, errW_some] <;> rfl), by repeat (first | (with_reducible first | exact HB.out | apply below_alloc | apply pw_below_drewN | apply below_drew1 | refine below_set ?_ GE101.out) | exact HB.out)⟩
   ·rw [if_neg c8] at H
    have c8b0 : decide (2147483647 < (a0_6.size : Int)) = false := decide_eq_false c8
    have c8b1 : decide (2147483647 < a0_6.size) = false := decide_eq_false (by omega)
    clear c8
    by_cases c11 : (a0_7.size : Int) > 2147483647
    ·rw [if_pos c11] at H
     have c11b0 : decide (2147483647 < (a0_7.size : Int)) = true := decide_eq_true c11
     have c11b1 : decide (2147483647 < a0_7.size) = true := decide_eq_true (by omega)
     clear c11
     obtain rfl := Option.some.inj H
     go_enter Tryd.func6, Tryd.ntmps6
     go_wp2_with (first | ((with_reducible refine gate_dst (N := 1) rfl ?_); refine box_event ?hg (N := 1) ?hd (cs := #[.int .i64 a0_0, .int .i64 a0_1, .int .i64 a0_2, .int .i64 a0_3, .string a0_4, .string a0_5, .string a0_6, .string a0_7, .string a0_8, .string a0_9, .string a0_10]) (t := 23) ?hr ?_; (case hd => rfl); (case hg => rfl); (case hr => first | (go_simp; done) | (go_simp; rfl)); intro gb101 hg w12 hbox hb; have n0_ := Aside0.mk (below_step belH hb); have n1_ := Aside0.mk (hbox); have n2_ := Aside0.mk ((by rw [hg]; exact (below_size belH) : w.heap.size ≤ gb101)); have n3_ := Aside0.mk ((by rw [hg]; exact (below_size belH) : w.heap.size ≤ gb101)); clear HB; have HB := n0_; have BK101 := n1_; have GW101 := n2_; have GE101 := n3_; clear n0_ n1_ n2_ n3_; clear hb hbox hg; obtain ⟨hcz13_0, hcz13_1, hcz13_2, hcz13_3, hcz13_4, hcz13_5, hcz13_6, hcz13_7, hcz13_8, hcz13_9, hcz13_10, hfz13_0, hfz13_1, hfz13_2, hfz13_3, hfz13_4, hfz13_5, hfz13_6, hfz13_7, hfz13_8, hfz13_9, hfz13_10⟩ := rows11 (w := w12) BK101))
     go_ret
     exact ⟨by first | rfl | (simp [errW_none, errW_some] <;> rfl) | (simp [*, errW_none, errW_some] <;> rfl), by repeat (first | (with_reducible first | exact HB.out | apply below_alloc | apply pw_below_drewN | apply below_drew1 | refine below_set ?_ GE101.out) | exact HB.out)⟩
    ·rw [if_neg c11] at H
     have c11b0 : decide (2147483647 < (a0_7.size : Int)) = false := decide_eq_false c11
     have c11b1 : decide (2147483647 < a0_7.size) = false := decide_eq_false (by omega)
     clear c11
     by_cases c14 : (a0_8.size : Int) > 2147483647
     ·rw [if_pos c14] at H
      have c14b0 : decide (2147483647 < (a0_8.size : Int)) = true := decide_eq_true c14
      have c14b1 : decide (2147483647 < a0_8.size) = true := decide_eq_true (by omega)
      clear c14
      obtain rfl := Option.some.inj H
      go_enter Tryd.func6, Tryd.ntmps6
      go_wp2_with (first | ((with_reducible refine gate_dst (N := 1) rfl ?_); refine box_event ?hg (N := 1) ?hd (cs := #[.int .i64 a0_0, .int .i64 a0_1, .int .i64 a0_2, .int .i64 a0_3, .string a0_4, .string a0_5, .string a0_6, .string a0_7, .string a0_8, .string a0_9, .string a0_10]) (t := 23) ?hr ?_; (case hd => rfl); (case hg => rfl); (case hr => first | (go_simp; done) | (go_simp; rfl)); intro gb101 hg w15 hbox hb; have n0_ := Aside0.mk (below_step belH hb); have n1_ := Aside0.mk (hbox); have n2_ := Aside0.mk ((by rw [hg]; exact (below_size belH) : w.heap.size ≤ gb101)); have n3_ := Aside0.mk ((by rw [hg]; exact (below_size belH) : w.heap.size ≤ gb101)); clear HB; have HB := n0_; have BK101 := n1_; have GW101 := n2_; have GE101 := n3_; clear n0_ n1_ n2_ n3_; clear hb hbox hg; obtain ⟨hcz16_0, hcz16_1, hcz16_2, hcz16_3, hcz16_4, hcz16_5, hcz16_6, hcz16_7, hcz16_8, hcz16_9, hcz16_10, hfz16_0, hfz16_1, hfz16_2, hfz16_3, hfz16_4, hfz16_5, hfz16_6, hfz16_7, hfz16_8, hfz16_9, hfz16_10⟩ := rows11 (w := w15) BK101))
      go_ret
      exact ⟨by first | rfl | (simp [errW_none, errW_some] <;> rfl) | (simp [*, errW_none, errW_some] <;> rfl), by repeat (first | (with_reducible first | exact HB.out | apply below_alloc | apply pw_below_drewN | apply below_drew1 | refine below_set ?_ GE101.out) | exact HB.out)⟩
     ·rw [if_neg c14] at H
      have c14b0 : decide (2147483647 < (a0_8.size : Int)) = false := decide_eq_false c14
      have c14b1 : decide (2147483647 < a0_8.size) = false := decide_eq_false (by omega)
      clear c14
      by_cases c17 : (a0_9.size : Int) > 2147483647
      ·rw [if_pos c17] at H
       have c17b0 : decide (2147483647 < (a0_9.size : Int)) = true := decide_eq_true c17
       have c17b1 : decide (2147483647 < a0_9.size) = true := decide_eq_true (by omega)
       clear c17
       obtain rfl := Option.some.inj H
       go_enter Tryd.func6, Tryd.ntmps6
       go_wp2_with (first | ((with_reducible refine gate_dst (N := 1) rfl ?_); refine box_event ?hg (N := 1) ?hd (cs := #[.int .i64 a0_0, .int .i64 a0_1, .int .i64 a0_2, .int .i64 a0_3, .string a0_4, .string a0_5, .string a0_6, .string a0_7, .string a0_8, .string a0_9, .string a0_10]) (t := 23) ?hr ?_; (case hd => rfl); (case hg => rfl); (case hr => first | (go_simp; done) | (go_simp; rfl)); intro gb101 hg w18 hbox hb; have n0_ := Aside0.mk (below_step belH hb); have n1_ := Aside0.mk (hbox); have n2_ := Aside0.mk ((by rw [hg]; exact (below_size belH) : w.heap.size ≤ gb101)); have n3_ := Aside0.mk ((by rw [hg]; exact (below_size belH) : w.heap.size ≤ gb101)); clear HB; have HB := n0_; have BK101 := n1_; have GW101 := n2_; have GE101 := n3_; clear n0_ n1_ n2_ n3_; clear hb hbox hg; obtain ⟨hcz19_0, hcz19_1, hcz19_2, hcz19_3, hcz19_4, hcz19_5, hcz19_6, hcz19_7, hcz19_8, hcz19_9, hcz19_10, hfz19_0, hfz19_1, hfz19_2, hfz19_3, hfz19_4, hfz19_5, hfz19_6, hfz19_7, hfz19_8, hfz19_9, hfz19_10⟩ := rows11 (w := w18) BK101))
       go_ret
       exact ⟨by first | rfl | (simp [errW_none, errW_some] <;> rfl) | (simp [*, errW_none, errW_some] <;> rfl), by repeat (first | (with_reducible first | exact HB.out | apply below_alloc | apply pw_below_drewN | apply below_drew1 | refine below_set ?_ GE101.out) | exact HB.out)⟩
      ·rw [if_neg c17] at H
       have c17b0 : decide (2147483647 < (a0_9.size : Int)) = false := decide_eq_false c17
       have c17b1 : decide (2147483647 < a0_9.size) = false := decide_eq_false (by omega)
       clear c17
       by_cases c20 : (a0_10.size : Int) > 2147483647
       ·rw [if_pos c20] at H
        have c20b0 : decide (2147483647 < (a0_10.size : Int)) = true := decide_eq_true c20
        have c20b1 : decide (2147483647 < a0_10.size) = true := decide_eq_true (by omega)
        clear c20
        obtain rfl := Option.some.inj H
        go_enter Tryd.func6, Tryd.ntmps6
        go_wp2_with (first | ((with_reducible refine gate_dst (N := 1) rfl ?_); refine box_event ?hg (N := 1) ?hd (cs := #[.int .i64 a0_0, .int .i64 a0_1, .int .i64 a0_2, .int .i64 a0_3, .string a0_4, .string a0_5, .string a0_6, .string a0_7, .string a0_8, .string a0_9, .string a0_10]) (t := 23) ?hr ?_; (case hd => rfl); (case hg => rfl); (case hr => first | (go_simp; done) | (go_simp; rfl)); intro gb101 hg w21 hbox hb; have n0_ := Aside0.mk (below_step belH hb); have n1_ := Aside0.mk (hbox); have n2_ := Aside0.mk ((by rw [hg]; exact (below_size belH) : w.heap.size ≤ gb101)); have n3_ := Aside0.mk ((by rw [hg]; exact (below_size belH) : w.heap.size ≤ gb101)); clear HB; have HB := n0_; have BK101 := n1_; have GW101 := n2_; have GE101 := n3_; clear n0_ n1_ n2_ n3_; clear hb hbox hg; obtain ⟨hcz22_0, hcz22_1, hcz22_2, hcz22_3, hcz22_4, hcz22_5, hcz22_6, hcz22_7, hcz22_8, hcz22_9, hcz22_10, hfz22_0, hfz22_1, hfz22_2, hfz22_3, hfz22_4, hfz22_5, hfz22_6, hfz22_7, hfz22_8, hfz22_9, hfz22_10⟩ := rows11 (w := w21) BK101))
        go_ret
        exact ⟨by first | rfl | (simp [errW_none, errW_some] <;> rfl) | (simp [*, errW_none, errW_some] <;> rfl), by repeat (first | (with_reducible first | exact HB.out | apply below_alloc | apply pw_below_drewN | apply below_drew1 | refine below_set ?_ GE101.out) | exact HB.out)⟩
       ·rw [if_neg c20] at H
        have c20b0 : decide (2147483647 < (a0_10.size : Int)) = false := decide_eq_false c20
        have c20b1 : decide (2147483647 < a0_10.size) = false := decide_eq_false (by omega)
        clear c20
        obtain rfl := Option.some.inj H
        go_enter Tryd.func6, Tryd.ntmps6
        go_wp2_with (first | ((with_reducible refine gate_dst (N := 1) rfl ?_); refine box_event ?hg (N := 1) ?hd (cs := #[.int .i64 a0_0, .int .i64 a0_1, .int .i64 a0_2, .int .i64 a0_3, .string a0_4, .string a0_5, .string a0_6, .string a0_7, .string a0_8, .string a0_9, .string a0_10]) (t := 23) ?hr ?_; (case hd => rfl); (case hg => rfl); (case hr => first | (go_simp; done) | (go_simp; rfl)); intro gb101 hg w23 hbox hb; have n0_ := Aside0.mk (below_step belH hb); have n1_ := Aside0.mk (hbox); have n2_ := Aside0.mk ((by rw [hg]; exact (below_size belH) : w.heap.size ≤ gb101)); have n3_ := Aside0.mk ((by rw [hg]; exact (below_size belH) : w.heap.size ≤ gb101)); clear HB; have HB := n0_; have BK101 := n1_; have GW101 := n2_; have GE101 := n3_; clear n0_ n1_ n2_ n3_; clear hb hbox hg; obtain ⟨hcz24_0, hcz24_1, hcz24_2, hcz24_3, hcz24_4, hcz24_5, hcz24_6, hcz24_7, hcz24_8, hcz24_9, hcz24_10, hfz24_0, hfz24_1, hfz24_2, hfz24_3, hfz24_4, hfz24_5, hfz24_6, hfz24_7, hfz24_8, hfz24_9, hfz24_10⟩ := rows11 (w := w23) BK101))
        go_ret
        exact ⟨by first | rfl | (simp [errW_none, errW_some] <;> rfl) | (simp [*, errW_none, errW_some] <;> rfl), by repeat (first | (with_reducible first | exact HB.out | apply below_alloc | apply pw_below_drewN | apply below_drew1 | refine below_set ?_ GE101.out) | exact HB.out)⟩

/-! ### laws_printable: function 17 -/
/-! ### laws_cleanPath: function 7 -/
end Go.Proofs.YtokojamaigebaaaDoor.L
