-- written by a program of this session (wip/tools/pp.py)
import Derived.Test.YtokojamaigebaaaDoorL0
import Derived.Test.YtokojamaigebaaaDoorL3
namespace Go.Proofs.YtokojamaigebaaaDoor.L
open Go.RowKit Go.Proofs.YtokojamaigebaaaDoorW.PrintWords Go.Proofs.YtokojamaigebaaaDoorW.PrintLast Go.Proofs.YtokojamaigebaaaDoor.M Go.Proofs.YtokojamaigebaaaDoor.MtDoor Go.Proofs.YtokojamaigebaaaDoorW.PrintMore
attribute [local go_sem] max2_int min2_int max_two min_two max_three min_three max_four min_four   -- for this text's walks alone
set_option linter.unusedVariables false
set_option linter.unusedSimpArgs false

/-! ### spec_mountValid: function 31 -/
mutual
def spec_mountValid.l0 : Nat → List Int → Int → Int → Int → Int → Int → Int → ByteArray → ByteArray → ByteArray → ByteArray → ByteArray → ByteArray → ByteArray → Option (Bool)
 | 0, _, _, _, _, _, _, _, _, _, _, _, _, _, _ => none
 | k + 1, x15, x16, x17, x111000, x111001, x111002, x111003, x111004, x111005, x111006, x111007, x111008, x111009, x111010 => if x17 < x16 then (if 0 ≤ x17 then (if x17 < (x15.length : Int) then (if (rd x15 x17) < 0 then (some false) else (if (rd x15 x17) > 2147483647 then (some false) else (spec_mountValid.l0 k x15 x16 (wrap64 (x17 + 1)) x111000 x111001 x111002 x111003 x111004 x111005 x111006 x111007 x111008 x111009 x111010))) else (none)) else (none)) else (if x111004.toList = ([] : List UInt8) then (spec_mountValid.j1 k true x111000 x111001 x111002 x111003 x111004 x111005 x111006 x111007 x111008 x111009 x111010) else (if x111005.toList = ([] : List UInt8) then (spec_mountValid.j1 k true x111000 x111001 x111002 x111003 x111004 x111005 x111006 x111007 x111008 x111009 x111010) else (if x111009.toList = ([] : List UInt8) then (spec_mountValid.j1 k true x111000 x111001 x111002 x111003 x111004 x111005 x111006 x111007 x111008 x111009 x111010) else ((spec_printable.f k x111004 true).bind fun t115 => (if t115 = true then ((spec_printable.f k x111005 true).bind fun t116 => (if t116 = true then ((spec_printable.f k x111009 true).bind fun t117 => (if t117 = true then ((spec_word.f k x111006).bind fun t118 => (if t118 = true then ((spec_word.f k x111008).bind fun t119 => (if t119 = true then ((spec_word.f k x111010).bind fun t120 => (spec_mountValid.j1 k (!t120) x111000 x111001 x111002 x111003 x111004 x111005 x111006 x111007 x111008 x111009 x111010)) else (spec_mountValid.j1 k true x111000 x111001 x111002 x111003 x111004 x111005 x111006 x111007 x111008 x111009 x111010))) else (spec_mountValid.j1 k true x111000 x111001 x111002 x111003 x111004 x111005 x111006 x111007 x111008 x111009 x111010))) else (spec_mountValid.j1 k true x111000 x111001 x111002 x111003 x111004 x111005 x111006 x111007 x111008 x111009 x111010))) else (spec_mountValid.j1 k true x111000 x111001 x111002 x111003 x111004 x111005 x111006 x111007 x111008 x111009 x111010))) else (spec_mountValid.j1 k true x111000 x111001 x111002 x111003 x111004 x111005 x111006 x111007 x111008 x111009 x111010))))))
def spec_mountValid.j1 : Nat → Bool → Int → Int → Int → Int → ByteArray → ByteArray → ByteArray → ByteArray → ByteArray → ByteArray → ByteArray → Option (Bool)
 | 0, _, _, _, _, _, _, _, _, _, _, _, _ => none
 | k + 1, x76, x111000, x111001, x111002, x111003, x111004, x111005, x111006, x111007, x111008, x111009, x111010 => if x76 = true then (some false) else (if x111007.toList = ([] : List UInt8) then (some true) else ((spec_fields.f k x111007).bind fun t121 => (spec_mountValid.l1 k t121 (t121.length : Int) 0)))
def spec_mountValid.l1 : Nat → List ByteArray → Int → Int → Option (Bool)
 | 0, _, _, _ => none
 | k + 1, x82, x83, x84 => if x84 < x83 then (if 0 ≤ x84 then (if x84 < (x82.length : Int) then ((spec_word.f k (rdOf ByteArray.empty x82 x84)).bind fun t125 => (if t125 = true then (if (rdOf ByteArray.empty x82 x84).toList = ([45] : List UInt8) then (some false) else (spec_mountValid.l1 k x82 x83 (wrap64 (x84 + 1)))) else (some false))) else (none)) else (none)) else (some true)
end
def spec_mountValid.f (k : Nat) (a0_0 : Int) (a0_1 : Int) (a0_2 : Int) (a0_3 : Int) (a0_4 : ByteArray) (a0_5 : ByteArray) (a0_6 : ByteArray) (a0_7 : ByteArray) (a0_8 : ByteArray) (a0_9 : ByteArray) (a0_10 : ByteArray) : Option (Bool) := (some (([a0_0, a0_1, a0_2, a0_3] : List Int) : List Int)).bind fun y111 => (spec_mountValid.l0 k y111 (y111.length : Int) 0 a0_0 a0_1 a0_2 a0_3 a0_4 a0_5 a0_6 a0_7 a0_8 a0_9 a0_10)
theorem spec_mountValid.mono_l : ∀ k, (∀ y0 y1 y2 y3 y4 y5 y6 y7 y8 y9 y10 y11 y12 y13, LeO (spec_mountValid.l0 k y0 y1 y2 y3 y4 y5 y6 y7 y8 y9 y10 y11 y12 y13) (spec_mountValid.l0 (k + 1) y0 y1 y2 y3 y4 y5 y6 y7 y8 y9 y10 y11 y12 y13)) ∧ (∀ y0 y1 y2 y3 y4 y5 y6 y7 y8 y9 y10 y11, LeO (spec_mountValid.j1 k y0 y1 y2 y3 y4 y5 y6 y7 y8 y9 y10 y11) (spec_mountValid.j1 (k + 1) y0 y1 y2 y3 y4 y5 y6 y7 y8 y9 y10 y11)) ∧ (∀ y0 y1 y2, LeO (spec_mountValid.l1 k y0 y1 y2) (spec_mountValid.l1 (k + 1) y0 y1 y2))
 | 0 => ⟨fun _ _ _ _ _ _ _ _ _ _ _ _ _ _ r h => by simp [spec_mountValid.l0] at h, fun _ _ _ _ _ _ _ _ _ _ _ _ r h => by simp [spec_mountValid.j1] at h, fun _ _ _ r h => by simp [spec_mountValid.l1] at h⟩
 | k + 1 => by
  obtain ⟨ih0, ih1, ih2⟩ := spec_mountValid.mono_l k
  refine ⟨?_, ?_, ?_⟩
  ·intro y0 y1 y2 y3 y4 y5 y6 y7 y8 y9 y10 y11 y12 y13
   unfold spec_mountValid.l0
   repeat' first
   | (with_reducible exact ih0 _ _ _ _ _ _ _ _ _ _ _ _ _ _)
   | (with_reducible exact ih1 _ _ _ _ _ _ _ _ _ _ _ _)
   | (with_reducible exact ih2 _ _ _)
   | (with_reducible exact spec_fields.mono _ _)
   | (with_reducible exact spec_printable.mono _ _ _)
   | (with_reducible exact spec_word.mono _ _)
   | (with_reducible exact LeO.refl _)
   | (with_reducible exact LeO.none _)
   | (with_reducible refine LeO.ite ?_ ?_)
   | (with_reducible refine LeO.bind ?_ (fun _ => ?_))
   | exact ih0 _ _ _ _ _ _ _ _ _ _ _ _ _ _
   | exact ih1 _ _ _ _ _ _ _ _ _ _ _ _
   | exact ih2 _ _ _
   | exact spec_fields.mono _ _
   | exact spec_printable.mono _ _ _
   | exact spec_word.mono _ _
   | exact LeO.none _
   | refine LeO.ite ?_ ?_
   | refine LeO.bind ?_ (fun _ => ?_)
  ·intro y0 y1 y2 y3 y4 y5 y6 y7 y8 y9 y10 y11
   unfold spec_mountValid.j1
   repeat' first
   | (with_reducible exact ih0 _ _ _ _ _ _ _ _ _ _ _ _ _ _)
   | (with_reducible exact ih1 _ _ _ _ _ _ _ _ _ _ _ _)
   | (with_reducible exact ih2 _ _ _)
   | (with_reducible exact spec_fields.mono _ _)
   | (with_reducible exact spec_printable.mono _ _ _)
   | (with_reducible exact spec_word.mono _ _)
   | (with_reducible exact LeO.refl _)
   | (with_reducible exact LeO.none _)
   | (with_reducible refine LeO.ite ?_ ?_)
   | (with_reducible refine LeO.bind ?_ (fun _ => ?_))
   | exact ih0 _ _ _ _ _ _ _ _ _ _ _ _ _ _
   | exact ih1 _ _ _ _ _ _ _ _ _ _ _ _
   | exact ih2 _ _ _
   | exact spec_fields.mono _ _
   | exact spec_printable.mono _ _ _
   | exact spec_word.mono _ _
   | exact LeO.none _
   | refine LeO.ite ?_ ?_
   | refine LeO.bind ?_ (fun _ => ?_)
  ·intro y0 y1 y2
   unfold spec_mountValid.l1
   repeat' first
   | (with_reducible exact ih0 _ _ _ _ _ _ _ _ _ _ _ _ _ _)
   | (with_reducible exact ih1 _ _ _ _ _ _ _ _ _ _ _ _)
   | (with_reducible exact ih2 _ _ _)
   | (with_reducible exact spec_fields.mono _ _)
   | (with_reducible exact spec_printable.mono _ _ _)
   | (with_reducible exact spec_word.mono _ _)
   | (with_reducible exact LeO.refl _)
   | (with_reducible exact LeO.none _)
   | (with_reducible refine LeO.ite ?_ ?_)
   | (with_reducible refine LeO.bind ?_ (fun _ => ?_))
   | exact ih0 _ _ _ _ _ _ _ _ _ _ _ _ _ _
   | exact ih1 _ _ _ _ _ _ _ _ _ _ _ _
   | exact ih2 _ _ _
   | exact spec_fields.mono _ _
   | exact spec_printable.mono _ _ _
   | exact spec_word.mono _ _
   | exact LeO.none _
   | refine LeO.ite ?_ ?_
   | refine LeO.bind ?_ (fun _ => ?_)
theorem spec_mountValid.mono : ∀ a0 a1 a2 a3 a4 a5 a6 a7 a8 a9 a10 k, LeO (spec_mountValid.f k a0 a1 a2 a3 a4 a5 a6 a7 a8 a9 a10) (spec_mountValid.f (k + 1) a0 a1 a2 a3 a4 a5 a6 a7 a8 a9 a10) := by
 intro a0 a1 a2 a3 a4 a5 a6 a7 a8 a9 a10 k
 obtain ⟨ih0, ih1, ih2⟩ := spec_mountValid.mono_l k
 unfold spec_mountValid.f
 repeat' first
   | (with_reducible exact ih0 _ _ _ _ _ _ _ _ _ _ _ _ _ _)
   | (with_reducible exact ih1 _ _ _ _ _ _ _ _ _ _ _ _)
   | (with_reducible exact ih2 _ _ _)
   | (with_reducible exact spec_fields.mono _ _)
   | (with_reducible exact spec_printable.mono _ _ _)
   | (with_reducible exact spec_word.mono _ _)
   | (with_reducible exact LeO.refl _)
   | (with_reducible exact LeO.none _)
   | (with_reducible refine LeO.ite ?_ ?_)
   | (with_reducible refine LeO.bind ?_ (fun _ => ?_))
   | exact ih0 _ _ _ _ _ _ _ _ _ _ _ _ _ _
   | exact ih1 _ _ _ _ _ _ _ _ _ _ _ _
   | exact ih2 _ _ _
   | exact spec_fields.mono _ _
   | exact spec_printable.mono _ _ _
   | exact spec_word.mono _ _
   | exact LeO.none _
   | refine LeO.ite ?_ ?_
   | refine LeO.bind ?_ (fun _ => ?_)
set_option maxHeartbeats 8000000 in
set_option maxRecDepth 100000 in
theorem spec_mountValid.calls (k : Nat) (a0_0 : Int) (a0_1 : Int) (a0_2 : Int) (a0_3 : Int) (a0_4 : ByteArray) (a0_5 : ByteArray) (a0_6 : ByteArray) (a0_7 : ByteArray) (a0_8 : ByteArray) (a0_9 : ByteArray) (a0_10 : ByteArray) (r : Bool) (w : World) (h : spec_mountValid.f k a0_0 a0_1 a0_2 a0_3 a0_4 a0_5 a0_6 a0_7 a0_8 a0_9 a0_10 = some r) :
  Calls Tryd.prog 31 #[.agg #[.int .i64 a0_0, .int .i64 a0_1, .int .i64 a0_2, .int .i64 a0_3, .string a0_4, .string a0_5, .string a0_6, .string a0_7, .string a0_8, .string a0_9, .string a0_10]] w fun e w' => e = .returned (.bool r) ∧ Below w.heap.size w w' := by
 have hu62 := Tryd.underlying62
 have HB := Aside0.mk (Below.refl w.heap.size w)
 have H : ((some (([a0_0, a0_1, a0_2, a0_3] : List Int) : List Int)).bind fun y111 => (spec_mountValid.l0 k y111 (y111.length : Int) 0 a0_0 a0_1 a0_2 a0_3 a0_4 a0_5 a0_6 a0_7 a0_8 a0_9 a0_10)) = some r := h
 clear h
 obtain ⟨y111, hy111⟩ : ∃ y_ : List Int, y_ = (([a0_0, a0_1, a0_2, a0_3] : List Int)) := ⟨_, rfl⟩
 replace H : (spec_mountValid.l0 k y111 (y111.length : Int) 0 a0_0 a0_1 a0_2 a0_3 a0_4 a0_5 a0_6 a0_7 a0_8 a0_9 a0_10) = some r := by first | (rw [hy111]; with_reducible exact H) | (have H2_ := (Option.bind_some _ _).symm.trans H; rw [hy111]; with_reducible exact H2_) | (have H2_ := (Option.bind_some _ _).symm.trans H; with_reducible exact H2_) | with_reducible exact H | (rw [hy111]; exact H) | exact H
 have Ny111 := Aside0.mk hy111
 clear hy111
 have H' := Aside0.mk H
 clear H
 go_enter Tryd.func31, Tryd.ntmps31
 go_wp2_with (first | ((with_reducible refine gate_dst (N := 1) rfl ?_); refine box_event ?hg (N := 1) ?hd (cs := #[.int .i64 a0_0, .int .i64 a0_1, .int .i64 a0_2, .int .i64 a0_3, .string a0_4, .string a0_5, .string a0_6, .string a0_7, .string a0_8, .string a0_9, .string a0_10]) (t := 62) ?hr ?_; (case hd => rfl); (case hg => rfl); (case hr => first | (go_simp; done) | (go_simp; rfl)); intro gb110 hg w2 hbox hb; have n0_ := Aside0.mk (below_step belH hb); have n1_ := Aside0.mk (hbox); have n2_ := Aside0.mk ((by rw [hg]; exact (below_size belH) : w.heap.size ≤ gb110)); have n3_ := Aside0.mk ((by rw [hg]; exact (below_size belH) : w.heap.size ≤ gb110)); clear HB; have HB := n0_; have BK110 := n1_; have GW110 := n2_; have GE110 := n3_; clear n0_ n1_ n2_ n3_; clear hb hbox hg; obtain ⟨hcz3_0, hcz3_1, hcz3_2, hcz3_3, hcz3_4, hcz3_5, hcz3_6, hcz3_7, hcz3_8, hcz3_9, hcz3_10, hfz3_0, hfz3_1, hfz3_2, hfz3_3, hfz3_4, hfz3_5, hfz3_6, hfz3_7, hfz3_8, hfz3_9, hfz3_10⟩ := rows11 (w := w2) BK110) | ((with_reducible refine gate_dst (N := 15) rfl ?_); refine Kd.R_lit (Kd.int .i64) _ 3 ?hg (N := 15) ?hd (xs := ([a0_0, a0_1, a0_2, a0_3] : List Int)) (inner := [.int .i64 a0_0, .int .i64 a0_1, .int .i64 a0_2, .int .i64 a0_3]) (ok := fun _ => True) (okp := fun _ => True) ?hr ?hp (fun _ hk => hk) trivial (Below.refl _ _) (Nat.le_refl _) (by simp) ?_; (case hd => rfl); (case hg => rfl); (case hr => first | (go_simp; done) | (go_simp; rfl)); (case hp => exact (Reps.one (show Kd.M (Kd.int .i64) _ _ _ a0_0 [.int .i64 a0_0] from rfl) (Reps.one (show Kd.M (Kd.int .i64) _ _ _ a0_1 [.int .i64 a0_1] from rfl) (Reps.one (show Kd.M (Kd.int .i64) _ _ _ a0_2 [.int .i64 a0_2] from rfl) (Reps.one (show Kd.M (Kd.int .i64) _ _ _ a0_3 [.int .i64 a0_3] from rfl) (Reps.none _ _)))))); intro v112 w4 ho5 hb hg_ hnew_; clear hg_ hnew_; (first | rw [← Ny111.out] at ho5 | (simp only [Int.reduceToNat] at ho5; rw [← Ny111.out] at ho5)); have n0_ := Aside0.mk (Kd.R_lower ho5 (below_size belS)); have n1_ := Aside0.mk (blk_below (g := gb110) (o := .cells #[.int .i64 a0_0, .int .i64 a0_1, .int .i64 a0_2, .int .i64 a0_3, .string a0_4, .string a0_5, .string a0_6, .string a0_7, .string a0_8, .string a0_9, .string a0_10] 62 (0, 0)) (by refine bY ?_; exact BK110.out) hb); have n2_ := Aside0.mk (below_step belS hb); clear BK110; clear HB; have HO113 := n0_; have BK110 := n1_; have HB := n2_; clear n0_ n1_ n2_; clear hb ho5; obtain ⟨Ao6, co6, eo6⟩ := Kd.R_slice HO113.out; subst eo6))
 go_loopg [17] k (fun kq v17 w' => ∃ (x17_1 : Int), v17 = .int .i64 x17_1 ∧ Aside0 (spec_mountValid.l0 kq y111 (y111.length : Int) x17_1 a0_0 a0_1 a0_2 a0_3 a0_4 a0_5 a0_6 a0_7 a0_8 a0_9 a0_10 = some r) ∧ Aside0 (kq ≤ k) ∧ Aside0 (Kd.R (Kd.int .i64) 3 w' w.heap.size (fun _ => True) (.slice Ao6 y111.length co6) y111) ∧ Aside0 (w'.heap[gb110]? = some (.cells #[.int .i64 a0_0, .int .i64 a0_1, .int .i64 a0_2, .int .i64 a0_3, .string a0_4, .string a0_5, .string a0_6, .string a0_7, .string a0_8, .string a0_9, .string a0_10] 62 (0, 0))) ∧ Aside0 (Below w.heap.size w w'))
 case atStart => exact ⟨(0), (by first | rfl | (simp; done) | (simp [*]; done) | (simp [bne_nil]; done) | (simp [bne_nil, *]; done)), H', ⟨Nat.le_refl _⟩, ⟨by (with_reducible repeat (first | apply Kd.R_alloc | apply Kd.R_drewN | apply Kd.R_drew)); exact HO113.out⟩, ⟨by refine bY ?_; exact BK110.out⟩, ⟨by repeat (first | (with_reducible first | exact HB.out | apply below_alloc | apply pw_below_drewN | apply below_drew1 | refine below_set ?_ GE110.out) | exact HB.out)⟩⟩
 case round =>
  clear H'
  try clear p2
  try clear c3
  try clear hcz3_0
  try clear hcz3_1
  try clear hcz3_10
  try clear hcz3_2
  try clear hcz3_3
  try clear hcz3_4
  try clear hcz3_5
  try clear hcz3_6
  try clear hcz3_7
  try clear hcz3_8
  try clear hcz3_9
  try clear hfz3_0
  try clear hfz3_1
  try clear hfz3_10
  try clear hfz3_2
  try clear hfz3_3
  try clear hfz3_4
  try clear hfz3_5
  try clear hfz3_6
  try clear hfz3_7
  try clear hfz3_8
  try clear hfz3_9
  obtain ⟨x17_1, rfl, HA, HK1, HO_15, BK110, HB⟩ := hrel
  cases gk with
  | zero => exact absurd HA.out (by simp [spec_mountValid.l0])
  | succ k1 =>
   have H := HA.out
   clear HA
   simp only [spec_mountValid.l0] at H
   by_cases c7 : x17_1 < (y111.length : Int)
   ·rw [if_pos c7] at H
    have c7b0 : decide (x17_1 < (y111.length : Int)) = true := decide_eq_true c7
    clear c7
    by_cases c8 : 0 ≤ x17_1
    ·rw [if_pos c8] at H
     have c8b0 : decide (0 ≤ x17_1) = true := decide_eq_true c8
     clear c8
     by_cases c9 : x17_1 < (y111.length : Int)
     ·rw [if_pos c9] at H
      have c9b0 : decide (x17_1 < (y111.length : Int)) = true := decide_eq_true c9
      clear c9
      by_cases c10 : (rd y111 x17_1) < 0
      ·rw [if_pos c10] at H
       have c10b0 : decide ((rd y111 x17_1) < 0) = true := decide_eq_true c10
       clear c10
       obtain rfl := Option.some.inj H
       have p114 : 0 ≤ (x17_1 : Int) := of_decide_eq_true (by first | (with_reducible assumption) | assumption)
       have q114 : x17_1 < (y111.length : Int) := of_decide_eq_true (by first | (with_reducible assumption) | assumption)
       obtain ⟨ad114, e114, hx114_0⟩ := Kd.at_int (Kd.R_reads' HO_15.out).2.2 x17_1 p114 q114
       cases e114
       replace p114 := eq_true p114
       replace q114 := eq_true q114
       go_wp2
       go_ret
       exact ⟨by first | rfl | (simp [errW_none, errW_some] <;> rfl) | (simp [*, errW_none, errW_some] <;> rfl), by repeat (first | (with_reducible first | exact HB.out | apply below_alloc | apply pw_below_drewN | apply below_drew1 | refine below_set ?_ GE110.out) | exact HB.out)⟩
      ·rw [if_neg c10] at H
       have c10b0 : decide ((rd y111 x17_1) < 0) = false := decide_eq_false c10
       clear c10
       by_cases c11 : (rd y111 x17_1) > 2147483647
       ·rw [if_pos c11] at H
        have c11b0 : decide (2147483647 < (rd y111 x17_1)) = true := decide_eq_true c11
        clear c11
        obtain rfl := Option.some.inj H
        have p114 : 0 ≤ (x17_1 : Int) := of_decide_eq_true (by first | (with_reducible assumption) | assumption)
        have q114 : x17_1 < (y111.length : Int) := of_decide_eq_true (by first | (with_reducible assumption) | assumption)
        obtain ⟨ad114, e114, hx114_0⟩ := Kd.at_int (Kd.R_reads' HO_15.out).2.2 x17_1 p114 q114
        cases e114
        replace p114 := eq_true p114
        replace q114 := eq_true q114
        go_wp2
        go_ret
        exact ⟨by first | rfl | (simp [errW_none, errW_some] <;> rfl) | (simp [*, errW_none, errW_some] <;> rfl), by repeat (first | (with_reducible first | exact HB.out | apply below_alloc | apply pw_below_drewN | apply below_drew1 | refine below_set ?_ GE110.out) | exact HB.out)⟩
       ·rw [if_neg c11] at H
        have c11b0 : decide (2147483647 < (rd y111 x17_1)) = false := decide_eq_false c11
        clear c11
        have H' := Aside0.mk H
        clear H
        have p114 : 0 ≤ (x17_1 : Int) := of_decide_eq_true (by first | (with_reducible assumption) | assumption)
        have q114 : x17_1 < (y111.length : Int) := of_decide_eq_true (by first | (with_reducible assumption) | assumption)
        obtain ⟨ad114, e114, hx114_0⟩ := Kd.at_int (Kd.R_reads' HO_15.out).2.2 x17_1 p114 q114
        cases e114
        replace p114 := eq_true p114
        replace q114 := eq_true q114
        go_wp2
        go_roundg k1
        case measure => have := HK1.out; omega
        case rel => exact ⟨(wrap64 (x17_1 + 1)), (by first | rfl | (simp; done) | (simp [*]; done) | (simp [bne_nil]; done) | (simp [bne_nil, *]; done)), H', ⟨by have := HK1.out; omega⟩, ⟨by (with_reducible repeat (first | apply Kd.R_alloc | apply Kd.R_drewN | apply Kd.R_drew)); exact HO_15.out⟩, ⟨by refine bY ?_; exact BK110.out⟩, ⟨by repeat (first | (with_reducible first | exact HB.out | apply below_alloc | apply pw_below_drewN | apply below_drew1 | refine below_set ?_ GE110.out) | exact HB.out)⟩⟩
     ·rw [if_neg c9] at H
      exact absurd H (by simp)
    ·rw [if_neg c8] at H
     exact absurd H (by simp)
   ·rw [if_neg c7] at H
    have c7b0 : decide (x17_1 < (y111.length : Int)) = false := decide_eq_false c7
    clear c7
    have HC12 := Aside0.mk H
    clear H
    go_upto_region 7 with (fail)
    go_cut [76] (fun v76 wc => ∃ (kq : Nat) (x76_11 : Bool), v76 = .bool x76_11 ∧ Aside0 (spec_mountValid.j1 kq x76_11 a0_0 a0_1 a0_2 a0_3 a0_4 a0_5 a0_6 a0_7 a0_8 a0_9 a0_10 = some r) ∧ Aside0 (kq ≤ k1) ∧ Aside0 (wc.heap[gb110]? = some (.cells #[.int .i64 a0_0, .int .i64 a0_1, .int .i64 a0_2, .int .i64 a0_3, .string a0_4, .string a0_5, .string a0_6, .string a0_7, .string a0_8, .string a0_9, .string a0_10] 62 (0, 0))) ∧ Aside0 (Below w.heap.size w wc))
    case first =>
     have H := HC12.out
     clear HC12
     by_cases c13 : a0_4.toList = ([] : List UInt8)
     ·rw [if_pos c13] at H
      have c13b0 : (a0_4.toList == ([] : List UInt8)) = true := beq_iff_eq.mpr c13
      have c13b1 : (a0_4.toList != ([] : List UInt8)) = false := bne_eq_false_iff_eq.mpr c13
      clear c13
      (first | rw [c13b0] | (simp only [i64_w, i32_w]; rw [c13b0]) | skip)
      have H' := Aside0.mk H
      clear H
      obtain ⟨hcz14_0, hcz14_1, hcz14_2, hcz14_3, hcz14_4, hcz14_5, hcz14_6, hcz14_7, hcz14_8, hcz14_9, hcz14_10, hfz14_0, hfz14_1, hfz14_2, hfz14_3, hfz14_4, hfz14_5, hfz14_6, hfz14_7, hfz14_8, hfz14_9, hfz14_10⟩ := rows11 (w := wr) BK110
      go_wp2
      go_meet
      case rel => exact ⟨_, (true), (by first | rfl | (simp; done) | (simp [*]; done) | (simp [bne_nil]; done) | (simp [bne_nil, *]; done)), H', ⟨by have := HK1.out; first | omega | exact Nat.le_refl _⟩, ⟨by refine bY ?_; exact BK110.out⟩, ⟨by repeat (first | (with_reducible first | exact HB.out | apply below_alloc | apply pw_below_drewN | apply below_drew1 | refine below_set ?_ GE110.out) | exact HB.out)⟩⟩
     ·rw [if_neg c13] at H
      have c13b0 : (a0_4.toList == ([] : List UInt8)) = false := beq_eq_false_iff_ne.mpr c13
      have c13b1 : (a0_4.toList != ([] : List UInt8)) = true := bne_iff_ne.mpr c13
      (first | rw [c13b0] | (simp only [i64_w, i32_w]; rw [c13b0]) | skip)
      by_cases c15 : a0_5.toList = ([] : List UInt8)
      ·rw [if_pos c15] at H
       have c15b0 : (a0_5.toList == ([] : List UInt8)) = true := beq_iff_eq.mpr c15
       have c15b1 : (a0_5.toList != ([] : List UInt8)) = false := bne_eq_false_iff_eq.mpr c15
       clear c15
       have H' := Aside0.mk H
       clear H
       obtain ⟨hcz16_0, hcz16_1, hcz16_2, hcz16_3, hcz16_4, hcz16_5, hcz16_6, hcz16_7, hcz16_8, hcz16_9, hcz16_10, hfz16_0, hfz16_1, hfz16_2, hfz16_3, hfz16_4, hfz16_5, hfz16_6, hfz16_7, hfz16_8, hfz16_9, hfz16_10⟩ := rows11 (w := wr) BK110
       go_wp2
       go_meet
       case rel => exact ⟨_, (true), (by first | rfl | (simp; done) | (simp [*]; done) | (simp [bne_nil]; done) | (simp [bne_nil, *]; done)), H', ⟨by have := HK1.out; first | omega | exact Nat.le_refl _⟩, ⟨by refine bY ?_; exact BK110.out⟩, ⟨by repeat (first | (with_reducible first | exact HB.out | apply below_alloc | apply pw_below_drewN | apply below_drew1 | refine below_set ?_ GE110.out) | exact HB.out)⟩⟩
      ·rw [if_neg c15] at H
       have c15b0 : (a0_5.toList == ([] : List UInt8)) = false := beq_eq_false_iff_ne.mpr c15
       have c15b1 : (a0_5.toList != ([] : List UInt8)) = true := bne_iff_ne.mpr c15
       by_cases c17 : a0_9.toList = ([] : List UInt8)
       ·rw [if_pos c17] at H
        have c17b0 : (a0_9.toList == ([] : List UInt8)) = true := beq_iff_eq.mpr c17
        have c17b1 : (a0_9.toList != ([] : List UInt8)) = false := bne_eq_false_iff_eq.mpr c17
        clear c17
        have H' := Aside0.mk H
        clear H
        obtain ⟨hcz18_0, hcz18_1, hcz18_2, hcz18_3, hcz18_4, hcz18_5, hcz18_6, hcz18_7, hcz18_8, hcz18_9, hcz18_10, hfz18_0, hfz18_1, hfz18_2, hfz18_3, hfz18_4, hfz18_5, hfz18_6, hfz18_7, hfz18_8, hfz18_9, hfz18_10⟩ := rows11 (w := wr) BK110
        go_wp2
        go_meet
        case rel => exact ⟨_, (true), (by first | rfl | (simp; done) | (simp [*]; done) | (simp [bne_nil]; done) | (simp [bne_nil, *]; done)), H', ⟨by have := HK1.out; first | omega | exact Nat.le_refl _⟩, ⟨by refine bY ?_; exact BK110.out⟩, ⟨by repeat (first | (with_reducible first | exact HB.out | apply below_alloc | apply pw_below_drewN | apply below_drew1 | refine below_set ?_ GE110.out) | exact HB.out)⟩⟩
       ·rw [if_neg c17] at H
        have c17b0 : (a0_9.toList == ([] : List UInt8)) = false := beq_eq_false_iff_ne.mpr c17
        have c17b1 : (a0_9.toList != ([] : List UInt8)) = true := bne_iff_ne.mpr c17
        replace H := Option.bind_eq_some_iff.mp H
        obtain ⟨t115, A190, H⟩ := H
        have A19 := Aside0.mk A190
        clear A190
        by_cases c20 : t115 = true
        ·subst c20
         have H1 : ((spec_printable.f k1 a0_5 true).bind fun t116 => (if t116 = true then ((spec_printable.f k1 a0_9 true).bind fun t117 => (if t117 = true then ((spec_word.f k1 a0_6).bind fun t118 => (if t118 = true then ((spec_word.f k1 a0_8).bind fun t119 => (if t119 = true then ((spec_word.f k1 a0_10).bind fun t120 => (spec_mountValid.j1 k1 (!t120) a0_0 a0_1 a0_2 a0_3 a0_4 a0_5 a0_6 a0_7 a0_8 a0_9 a0_10)) else (spec_mountValid.j1 k1 true a0_0 a0_1 a0_2 a0_3 a0_4 a0_5 a0_6 a0_7 a0_8 a0_9 a0_10))) else (spec_mountValid.j1 k1 true a0_0 a0_1 a0_2 a0_3 a0_4 a0_5 a0_6 a0_7 a0_8 a0_9 a0_10))) else (spec_mountValid.j1 k1 true a0_0 a0_1 a0_2 a0_3 a0_4 a0_5 a0_6 a0_7 a0_8 a0_9 a0_10))) else (spec_mountValid.j1 k1 true a0_0 a0_1 a0_2 a0_3 a0_4 a0_5 a0_6 a0_7 a0_8 a0_9 a0_10))) = some r := by rw [if_pos rfl] at H; exact H
         clear H
         have H := H1
         clear H1
         replace H := Option.bind_eq_some_iff.mp H
         obtain ⟨t116, A210, H⟩ := H
         have A21 := Aside0.mk A210
         clear A210
         by_cases c22 : t116 = true
         ·subst c22
          have H1 : ((spec_printable.f k1 a0_9 true).bind fun t117 => (if t117 = true then ((spec_word.f k1 a0_6).bind fun t118 => (if t118 = true then ((spec_word.f k1 a0_8).bind fun t119 => (if t119 = true then ((spec_word.f k1 a0_10).bind fun t120 => (spec_mountValid.j1 k1 (!t120) a0_0 a0_1 a0_2 a0_3 a0_4 a0_5 a0_6 a0_7 a0_8 a0_9 a0_10)) else (spec_mountValid.j1 k1 true a0_0 a0_1 a0_2 a0_3 a0_4 a0_5 a0_6 a0_7 a0_8 a0_9 a0_10))) else (spec_mountValid.j1 k1 true a0_0 a0_1 a0_2 a0_3 a0_4 a0_5 a0_6 a0_7 a0_8 a0_9 a0_10))) else (spec_mountValid.j1 k1 true a0_0 a0_1 a0_2 a0_3 a0_4 a0_5 a0_6 a0_7 a0_8 a0_9 a0_10))) = some r := by rw [if_pos rfl] at H; exact H
          clear H
          have H := H1
          clear H1
          replace H := Option.bind_eq_some_iff.mp H
          obtain ⟨t117, A230, H⟩ := H
          have A23 := Aside0.mk A230
          clear A230
          by_cases c24 : t117 = true
          ·subst c24
           have H1 : ((spec_word.f k1 a0_6).bind fun t118 => (if t118 = true then ((spec_word.f k1 a0_8).bind fun t119 => (if t119 = true then ((spec_word.f k1 a0_10).bind fun t120 => (spec_mountValid.j1 k1 (!t120) a0_0 a0_1 a0_2 a0_3 a0_4 a0_5 a0_6 a0_7 a0_8 a0_9 a0_10)) else (spec_mountValid.j1 k1 true a0_0 a0_1 a0_2 a0_3 a0_4 a0_5 a0_6 a0_7 a0_8 a0_9 a0_10))) else (spec_mountValid.j1 k1 true a0_0 a0_1 a0_2 a0_3 a0_4 a0_5 a0_6 a0_7 a0_8 a0_9 a0_10))) = some r := by rw [if_pos rfl] at H; exact H
           clear H
           have H := H1
           clear H1
           replace H := Option.bind_eq_some_iff.mp H
           obtain ⟨t118, A250, H⟩ := H
           have A25 := Aside0.mk A250
           clear A250
           by_cases c26 : t118 = true
           ·subst c26
            have H1 : ((spec_word.f k1 a0_8).bind fun t119 => (if t119 = true then ((spec_word.f k1 a0_10).bind fun t120 => (spec_mountValid.j1 k1 (!t120) a0_0 a0_1 a0_2 a0_3 a0_4 a0_5 a0_6 a0_7 a0_8 a0_9 a0_10)) else (spec_mountValid.j1 k1 true a0_0 a0_1 a0_2 a0_3 a0_4 a0_5 a0_6 a0_7 a0_8 a0_9 a0_10))) = some r := by rw [if_pos rfl] at H; exact H
            clear H
            have H := H1
            clear H1
            replace H := Option.bind_eq_some_iff.mp H
            obtain ⟨t119, A270, H⟩ := H
            have A27 := Aside0.mk A270
            clear A270
            by_cases c28 : t119 = true
            ·subst c28
             have H1 : ((spec_word.f k1 a0_10).bind fun t120 => (spec_mountValid.j1 k1 (!t120) a0_0 a0_1 a0_2 a0_3 a0_4 a0_5 a0_6 a0_7 a0_8 a0_9 a0_10)) = some r := by rw [if_pos rfl] at H; exact H
             clear H
             have H := H1
             clear H1
             replace H := Option.bind_eq_some_iff.mp H
             obtain ⟨t120, A290, H⟩ := H
             have A29 := Aside0.mk A290
             clear A290
             have H' := Aside0.mk H
             clear H
             obtain ⟨hcz30_0, hcz30_1, hcz30_2, hcz30_3, hcz30_4, hcz30_5, hcz30_6, hcz30_7, hcz30_8, hcz30_9, hcz30_10, hfz30_0, hfz30_1, hfz30_2, hfz30_3, hfz30_4, hfz30_5, hfz30_6, hfz30_7, hfz30_8, hfz30_9, hfz30_10⟩ := rows11 (w := wr) BK110
             go_wp2_with (first | (go_at_call 49; (with_reducible refine (spec_printable.calls k1 a0_4 true true _ A19.out).mono ?_); rintro e w' ⟨rfl, ⟨nd, rfl⟩⟩) | (go_at_call 49; (with_reducible refine (spec_printable.calls k1 a0_5 true true _ A21.out).mono ?_); rintro e w' ⟨rfl, ⟨nd, rfl⟩⟩) | (go_at_call 49; (with_reducible refine (spec_printable.calls k1 a0_9 true true _ A23.out).mono ?_); rintro e w' ⟨rfl, ⟨nd, rfl⟩⟩) | (go_at_call 50; (with_reducible refine (spec_word.calls k1 a0_6 true _ A25.out).mono ?_); rintro e w' ⟨rfl, ⟨nd, rfl⟩⟩) | (go_at_call 50; (with_reducible refine (spec_word.calls k1 a0_8 true _ A27.out).mono ?_); rintro e w' ⟨rfl, ⟨nd, rfl⟩⟩) | (go_at_call 50; (with_reducible refine (spec_word.calls k1 a0_10 t120 _ A29.out).mono ?_); rintro e w' ⟨rfl, ⟨nd, rfl⟩⟩))
             go_meet
             case rel => exact ⟨_, (!t120), (by first | rfl | (simp; done) | (simp [*]; done) | (simp [bne_nil]; done) | (simp [bne_nil, *]; done)), H', ⟨by have := HK1.out; first | omega | exact Nat.le_refl _⟩, ⟨by refine bY ?_; exact BK110.out⟩, ⟨by repeat (first | (with_reducible first | exact HB.out | apply below_alloc | apply pw_below_drewN | apply below_drew1 | refine below_set ?_ GE110.out) | exact HB.out)⟩⟩
            ·replace c28 := Bool.eq_false_iff.mpr c28
             subst c28
             have H1 : (spec_mountValid.j1 k1 true a0_0 a0_1 a0_2 a0_3 a0_4 a0_5 a0_6 a0_7 a0_8 a0_9 a0_10) = some r := by rw [if_neg (show ¬ (false = true) by decide)] at H; exact H
             clear H
             have H := H1
             clear H1
             have H' := Aside0.mk H
             clear H
             obtain ⟨hcz31_0, hcz31_1, hcz31_2, hcz31_3, hcz31_4, hcz31_5, hcz31_6, hcz31_7, hcz31_8, hcz31_9, hcz31_10, hfz31_0, hfz31_1, hfz31_2, hfz31_3, hfz31_4, hfz31_5, hfz31_6, hfz31_7, hfz31_8, hfz31_9, hfz31_10⟩ := rows11 (w := wr) BK110
             go_wp2_with (first | (go_at_call 49; (with_reducible refine (spec_printable.calls k1 a0_4 true true _ A19.out).mono ?_); rintro e w' ⟨rfl, ⟨nd, rfl⟩⟩) | (go_at_call 49; (with_reducible refine (spec_printable.calls k1 a0_5 true true _ A21.out).mono ?_); rintro e w' ⟨rfl, ⟨nd, rfl⟩⟩) | (go_at_call 49; (with_reducible refine (spec_printable.calls k1 a0_9 true true _ A23.out).mono ?_); rintro e w' ⟨rfl, ⟨nd, rfl⟩⟩) | (go_at_call 50; (with_reducible refine (spec_word.calls k1 a0_6 true _ A25.out).mono ?_); rintro e w' ⟨rfl, ⟨nd, rfl⟩⟩) | (go_at_call 50; (with_reducible refine (spec_word.calls k1 a0_8 false _ A27.out).mono ?_); rintro e w' ⟨rfl, ⟨nd, rfl⟩⟩))
             go_meet
             case rel => exact ⟨_, (true), (by first | rfl | (simp; done) | (simp [*]; done) | (simp [bne_nil]; done) | (simp [bne_nil, *]; done)), H', ⟨by have := HK1.out; first | omega | exact Nat.le_refl _⟩, ⟨by refine bY ?_; exact BK110.out⟩, ⟨by repeat (first | (with_reducible first | exact HB.out | apply below_alloc | apply pw_below_drewN | apply below_drew1 | refine below_set ?_ GE110.out) | exact HB.out)⟩⟩
           ·replace c26 := Bool.eq_false_iff.mpr c26
            subst c26
            have H1 : (spec_mountValid.j1 k1 true a0_0 a0_1 a0_2 a0_3 a0_4 a0_5 a0_6 a0_7 a0_8 a0_9 a0_10) = some r := by rw [if_neg (show ¬ (false = true) by decide)] at H; exact H
            clear H
            have H := H1
            clear H1
            have H' := Aside0.mk H
            clear H
            obtain ⟨hcz32_0, hcz32_1, hcz32_2, hcz32_3, hcz32_4, hcz32_5, hcz32_6, hcz32_7, hcz32_8, hcz32_9, hcz32_10, hfz32_0, hfz32_1, hfz32_2, hfz32_3, hfz32_4, hfz32_5, hfz32_6, hfz32_7, hfz32_8, hfz32_9, hfz32_10⟩ := rows11 (w := wr) BK110
            go_wp2_with (first | (go_at_call 49; (with_reducible refine (spec_printable.calls k1 a0_4 true true _ A19.out).mono ?_); rintro e w' ⟨rfl, ⟨nd, rfl⟩⟩) | (go_at_call 49; (with_reducible refine (spec_printable.calls k1 a0_5 true true _ A21.out).mono ?_); rintro e w' ⟨rfl, ⟨nd, rfl⟩⟩) | (go_at_call 49; (with_reducible refine (spec_printable.calls k1 a0_9 true true _ A23.out).mono ?_); rintro e w' ⟨rfl, ⟨nd, rfl⟩⟩) | (go_at_call 50; (with_reducible refine (spec_word.calls k1 a0_6 false _ A25.out).mono ?_); rintro e w' ⟨rfl, ⟨nd, rfl⟩⟩))
            go_meet
            case rel => exact ⟨_, (true), (by first | rfl | (simp; done) | (simp [*]; done) | (simp [bne_nil]; done) | (simp [bne_nil, *]; done)), H', ⟨by have := HK1.out; first | omega | exact Nat.le_refl _⟩, ⟨by refine bY ?_; exact BK110.out⟩, ⟨by repeat (first | (with_reducible first | exact HB.out | apply below_alloc | apply pw_below_drewN | apply below_drew1 | refine below_set ?_ GE110.out) | exact HB.out)⟩⟩
          ·replace c24 := Bool.eq_false_iff.mpr c24
           subst c24
           have H1 : (spec_mountValid.j1 k1 true a0_0 a0_1 a0_2 a0_3 a0_4 a0_5 a0_6 a0_7 a0_8 a0_9 a0_10) = some r := by rw [if_neg (show ¬ (false = true) by decide)] at H; exact H
           clear H
           have H := H1
           clear H1
           have H' := Aside0.mk H
           clear H
           obtain ⟨hcz33_0, hcz33_1, hcz33_2, hcz33_3, hcz33_4, hcz33_5, hcz33_6, hcz33_7, hcz33_8, hcz33_9, hcz33_10, hfz33_0, hfz33_1, hfz33_2, hfz33_3, hfz33_4, hfz33_5, hfz33_6, hfz33_7, hfz33_8, hfz33_9, hfz33_10⟩ := rows11 (w := wr) BK110
           go_wp2_with (first | (go_at_call 49; (with_reducible refine (spec_printable.calls k1 a0_4 true true _ A19.out).mono ?_); rintro e w' ⟨rfl, ⟨nd, rfl⟩⟩) | (go_at_call 49; (with_reducible refine (spec_printable.calls k1 a0_5 true true _ A21.out).mono ?_); rintro e w' ⟨rfl, ⟨nd, rfl⟩⟩) | (go_at_call 49; (with_reducible refine (spec_printable.calls k1 a0_9 true false _ A23.out).mono ?_); rintro e w' ⟨rfl, ⟨nd, rfl⟩⟩))
           go_meet
           case rel => exact ⟨_, (true), (by first | rfl | (simp; done) | (simp [*]; done) | (simp [bne_nil]; done) | (simp [bne_nil, *]; done)), H', ⟨by have := HK1.out; first | omega | exact Nat.le_refl _⟩, ⟨by refine bY ?_; exact BK110.out⟩, ⟨by repeat (first | (with_reducible first | exact HB.out | apply below_alloc | apply pw_below_drewN | apply below_drew1 | refine below_set ?_ GE110.out) | exact HB.out)⟩⟩
         ·replace c22 := Bool.eq_false_iff.mpr c22
          subst c22
          have H1 : (spec_mountValid.j1 k1 true a0_0 a0_1 a0_2 a0_3 a0_4 a0_5 a0_6 a0_7 a0_8 a0_9 a0_10) = some r := by rw [if_neg (show ¬ (false = true) by decide)] at H; exact H
          clear H
          have H := H1
          clear H1
          have H' := Aside0.mk H
          clear H
          obtain ⟨hcz34_0, hcz34_1, hcz34_2, hcz34_3, hcz34_4, hcz34_5, hcz34_6, hcz34_7, hcz34_8, hcz34_9, hcz34_10, hfz34_0, hfz34_1, hfz34_2, hfz34_3, hfz34_4, hfz34_5, hfz34_6, hfz34_7, hfz34_8, hfz34_9, hfz34_10⟩ := rows11 (w := wr) BK110
          go_wp2_with (first | (go_at_call 49; (with_reducible refine (spec_printable.calls k1 a0_4 true true _ A19.out).mono ?_); rintro e w' ⟨rfl, ⟨nd, rfl⟩⟩) | (go_at_call 49; (with_reducible refine (spec_printable.calls k1 a0_5 true false _ A21.out).mono ?_); rintro e w' ⟨rfl, ⟨nd, rfl⟩⟩))
          go_meet
          case rel => exact ⟨_, (true), (by first | rfl | (simp; done) | (simp [*]; done) | (simp [bne_nil]; done) | (simp [bne_nil, *]; done)), H', ⟨by have := HK1.out; first | omega | exact Nat.le_refl _⟩, ⟨by refine bY ?_; exact BK110.out⟩, ⟨by repeat (first | (with_reducible first | exact HB.out | apply below_alloc | apply pw_below_drewN | apply below_drew1 | refine below_set ?_ GE110.out) | exact HB.out)⟩⟩
        ·replace c20 := Bool.eq_false_iff.mpr c20
         subst c20
         have H1 : (spec_mountValid.j1 k1 true a0_0 a0_1 a0_2 a0_3 a0_4 a0_5 a0_6 a0_7 a0_8 a0_9 a0_10) = some r := by rw [if_neg (show ¬ (false = true) by decide)] at H; exact H
         clear H
         have H := H1
         clear H1
         have H' := Aside0.mk H
         clear H
         obtain ⟨hcz35_0, hcz35_1, hcz35_2, hcz35_3, hcz35_4, hcz35_5, hcz35_6, hcz35_7, hcz35_8, hcz35_9, hcz35_10, hfz35_0, hfz35_1, hfz35_2, hfz35_3, hfz35_4, hfz35_5, hfz35_6, hfz35_7, hfz35_8, hfz35_9, hfz35_10⟩ := rows11 (w := wr) BK110
         go_wp2_with (first | (go_at_call 49; (with_reducible refine (spec_printable.calls k1 a0_4 true false _ A19.out).mono ?_); rintro e w' ⟨rfl, ⟨nd, rfl⟩⟩))
         go_meet
         case rel => exact ⟨_, (true), (by first | rfl | (simp; done) | (simp [*]; done) | (simp [bne_nil]; done) | (simp [bne_nil, *]; done)), H', ⟨by have := HK1.out; first | omega | exact Nat.le_refl _⟩, ⟨by refine bY ?_; exact BK110.out⟩, ⟨by repeat (first | (with_reducible first | exact HB.out | apply below_alloc | apply pw_below_drewN | apply below_drew1 | refine below_set ?_ GE110.out) | exact HB.out)⟩⟩
    case rest =>
     clear HC12
     try clear c1
     try clear p1
     try clear q1
     try clear hx1
     try clear c2
     try clear p2
     try clear c3
     try clear p6
     try clear c7
     try clear c7b0
     try clear c8
     try clear c8b0
     try clear c9
     try clear c9b0
     try clear c10
     try clear c10b0
     try clear c11
     try clear c11b0
     try clear p11
     try clear q11
     try clear hx11
     try clear c13
     try clear c13b0
     try clear c13b1
     try clear c15
     try clear c15b0
     try clear c15b1
     try clear c17
     try clear c17b0
     try clear c17b1
     try clear c20
     try clear c22
     try clear c24
     try clear c26
     try clear c28
     try clear c31
     try clear hcz14_0
     try clear hcz14_1
     try clear hcz14_10
     try clear hcz14_2
     try clear hcz14_3
     try clear hcz14_4
     try clear hcz14_5
     try clear hcz14_6
     try clear hcz14_7
     try clear hcz14_8
     try clear hcz14_9
     try clear hcz16_0
     try clear hcz16_1
     try clear hcz16_10
     try clear hcz16_2
     try clear hcz16_3
     try clear hcz16_4
     try clear hcz16_5
     try clear hcz16_6
     try clear hcz16_7
     try clear hcz16_8
     try clear hcz16_9
     try clear hcz18_0
     try clear hcz18_1
     try clear hcz18_10
     try clear hcz18_2
     try clear hcz18_3
     try clear hcz18_4
     try clear hcz18_5
     try clear hcz18_6
     try clear hcz18_7
     try clear hcz18_8
     try clear hcz18_9
     try clear hcz30_0
     try clear hcz30_1
     try clear hcz30_10
     try clear hcz30_2
     try clear hcz30_3
     try clear hcz30_4
     try clear hcz30_5
     try clear hcz30_6
     try clear hcz30_7
     try clear hcz30_8
     try clear hcz30_9
     try clear hcz31_0
     try clear hcz31_1
     try clear hcz31_10
     try clear hcz31_2
     try clear hcz31_3
     try clear hcz31_4
     try clear hcz31_5
     try clear hcz31_6
     try clear hcz31_7
     try clear hcz31_8
     try clear hcz31_9
     try clear hcz32_0
     try clear hcz32_1
     try clear hcz32_10
     try clear hcz32_2
     try clear hcz32_3
     try clear hcz32_4
     try clear hcz32_5
     try clear hcz32_6
     try clear hcz32_7
     try clear hcz32_8
     try clear hcz32_9
     try clear hcz33_0
     try clear hcz33_1
     try clear hcz33_10
     try clear hcz33_2
     try clear hcz33_3
     try clear hcz33_4
     try clear hcz33_5
     try clear hcz33_6
     try clear hcz33_7
     try clear hcz33_8
     try clear hcz33_9
     try clear hcz34_0
     try clear hcz34_1
     try clear hcz34_10
     try clear hcz34_2
     try clear hcz34_3
     try clear hcz34_4
     try clear hcz34_5
     try clear hcz34_6
     try clear hcz34_7
     try clear hcz34_8
     try clear hcz34_9
     try clear hcz35_0
     try clear hcz35_1
     try clear hcz35_10
     try clear hcz35_2
     try clear hcz35_3
     try clear hcz35_4
     try clear hcz35_5
     try clear hcz35_6
     try clear hcz35_7
     try clear hcz35_8
     try clear hcz35_9
     try clear hcz3_0
     try clear hcz3_1
     try clear hcz3_10
     try clear hcz3_2
     try clear hcz3_3
     try clear hcz3_4
     try clear hcz3_5
     try clear hcz3_6
     try clear hcz3_7
     try clear hcz3_8
     try clear hcz3_9
     try clear hfz14_0
     try clear hfz14_1
     try clear hfz14_10
     try clear hfz14_2
     try clear hfz14_3
     try clear hfz14_4
     try clear hfz14_5
     try clear hfz14_6
     try clear hfz14_7
     try clear hfz14_8
     try clear hfz14_9
     try clear hfz16_0
     try clear hfz16_1
     try clear hfz16_10
     try clear hfz16_2
     try clear hfz16_3
     try clear hfz16_4
     try clear hfz16_5
     try clear hfz16_6
     try clear hfz16_7
     try clear hfz16_8
     try clear hfz16_9
     try clear hfz18_0
     try clear hfz18_1
     try clear hfz18_10
     try clear hfz18_2
     try clear hfz18_3
     try clear hfz18_4
     try clear hfz18_5
     try clear hfz18_6
     try clear hfz18_7
     try clear hfz18_8
     try clear hfz18_9
     try clear hfz30_0
     try clear hfz30_1
     try clear hfz30_10
     try clear hfz30_2
     try clear hfz30_3
     try clear hfz30_4
     try clear hfz30_5
     try clear hfz30_6
     try clear hfz30_7
     try clear hfz30_8
     try clear hfz30_9
     try clear hfz31_0
     try clear hfz31_1
     try clear hfz31_10
     try clear hfz31_2
     try clear hfz31_3
     try clear hfz31_4
     try clear hfz31_5
     try clear hfz31_6
     try clear hfz31_7
     try clear hfz31_8
     try clear hfz31_9
     try clear hfz32_0
     try clear hfz32_1
     try clear hfz32_10
     try clear hfz32_2
     try clear hfz32_3
     try clear hfz32_4
     try clear hfz32_5
     try clear hfz32_6
     try clear hfz32_7
     try clear hfz32_8
     try clear hfz32_9
     try clear hfz33_0
     try clear hfz33_1
     try clear hfz33_10
     try clear hfz33_2
     try clear hfz33_3
     try clear hfz33_4
     try clear hfz33_5
     try clear hfz33_6
     try clear hfz33_7
     try clear hfz33_8
     try clear hfz33_9
     try clear hfz34_0
     try clear hfz34_1
     try clear hfz34_10
     try clear hfz34_2
     try clear hfz34_3
     try clear hfz34_4
     try clear hfz34_5
     try clear hfz34_6
     try clear hfz34_7
     try clear hfz34_8
     try clear hfz34_9
     try clear hfz35_0
     try clear hfz35_1
     try clear hfz35_10
     try clear hfz35_2
     try clear hfz35_3
     try clear hfz35_4
     try clear hfz35_5
     try clear hfz35_6
     try clear hfz35_7
     try clear hfz35_8
     try clear hfz35_9
     try clear hfz3_0
     try clear hfz3_1
     try clear hfz3_10
     try clear hfz3_2
     try clear hfz3_3
     try clear hfz3_4
     try clear hfz3_5
     try clear hfz3_6
     try clear hfz3_7
     try clear hfz3_8
     try clear hfz3_9
     try clear hx114_0
     try clear p114
     try clear p2
     try clear q114
     obtain ⟨kq, x76_11, rfl, HA, HJ11, BK110, HB⟩ := hcut
     cases kq with
     | zero => exact absurd HA.out (by simp [spec_mountValid.j1])
     | succ kj11 =>
      have H := HA.out
      clear HA
      simp only [spec_mountValid.j1] at H
      by_cases c36 : x76_11 = true
      ·subst c36
       have H1 : (some false) = some r := by rw [if_pos rfl] at H; exact H
       clear H
       have H := H1
       clear H1
       obtain rfl := Option.some.inj H
       go_wp2
       go_ret
       exact ⟨by first | rfl | (simp [errW_none, errW_some] <;> rfl) | (simp [*, errW_none, errW_some] <;> rfl), by repeat (first | (with_reducible first | exact HB.out | apply below_alloc | apply pw_below_drewN | apply below_drew1 | refine below_set ?_ GE110.out) | exact HB.out)⟩
      ·replace c36 := Bool.eq_false_iff.mpr c36
       subst c36
       have H1 : (if a0_7.toList = ([] : List UInt8) then (some true) else ((spec_fields.f kj11 a0_7).bind fun t121 => (spec_mountValid.l1 kj11 t121 (t121.length : Int) 0))) = some r := by rw [if_neg (show ¬ (false = true) by decide)] at H; exact H
       clear H
       have H := H1
       clear H1
       by_cases c37 : a0_7.toList = ([] : List UInt8)
       ·rw [if_pos c37] at H
        have c37b0 : (a0_7.toList == ([] : List UInt8)) = true := beq_iff_eq.mpr c37
        have c37b1 : (a0_7.toList != ([] : List UInt8)) = false := bne_eq_false_iff_eq.mpr c37
        clear c37
        obtain rfl := Option.some.inj H
        obtain ⟨hcz38_0, hcz38_1, hcz38_2, hcz38_3, hcz38_4, hcz38_5, hcz38_6, hcz38_7, hcz38_8, hcz38_9, hcz38_10, hfz38_0, hfz38_1, hfz38_2, hfz38_3, hfz38_4, hfz38_5, hfz38_6, hfz38_7, hfz38_8, hfz38_9, hfz38_10⟩ := rows11 (w := wc) BK110
        go_wp2
        go_ret
        exact ⟨by first | rfl | (simp [errW_none, errW_some] <;> rfl) | (simp [*, errW_none, errW_some] <;> rfl), by repeat (first | (with_reducible first | exact HB.out | apply below_alloc | apply pw_below_drewN | apply below_drew1 | refine below_set ?_ GE110.out) | exact HB.out)⟩
       ·rw [if_neg c37] at H
        have c37b0 : (a0_7.toList == ([] : List UInt8)) = false := beq_eq_false_iff_ne.mpr c37
        have c37b1 : (a0_7.toList != ([] : List UInt8)) = true := bne_iff_ne.mpr c37
        replace H := Option.bind_eq_some_iff.mp H
        obtain ⟨t121, A390, H⟩ := H
        have A39 := Aside0.mk A390
        clear A390
        have H' := Aside0.mk H
        clear H
        obtain ⟨hcz40_0, hcz40_1, hcz40_2, hcz40_3, hcz40_4, hcz40_5, hcz40_6, hcz40_7, hcz40_8, hcz40_9, hcz40_10, hfz40_0, hfz40_1, hfz40_2, hfz40_3, hfz40_4, hfz40_5, hfz40_6, hfz40_7, hfz40_8, hfz40_9, hfz40_10⟩ := rows11 (w := wc) BK110
        go_wp2_with (first | ((with_reducible refine gate_callee (f := 28) rfl ?_); refine goesL_ (some 82) rfl rfl Tryd.func28 (by kernel_rfl) rfl #[.string a0_7] rfl (by (try simp only [List.map_toArray, List.map_cons, List.map_nil]); first | done | rfl | (simp only [List.length_drop, List.length_take]; rfl)) ?_; (with_reducible refine (spec_fields.calls kj11 a0_7 t121 _ A39.out).mono ?_); rintro e w41 ⟨v122, rfl, ho0, hb⟩; refine ⟨_, rfl, ?_⟩; have n0_ := Aside0.mk (Kd.R_lower ho0 (below_size belS)); have n1_ := Aside0.mk (blk_below (g := gb110) (o := .cells #[.int .i64 a0_0, .int .i64 a0_1, .int .i64 a0_2, .int .i64 a0_3, .string a0_4, .string a0_5, .string a0_6, .string a0_7, .string a0_8, .string a0_9, .string a0_10] 62 (0, 0)) (by refine bY ?_; exact BK110.out) hb); have n2_ := Aside0.mk (below_step belS hb); clear BK110; clear HB; have HO123 := n0_; have BK110 := n1_; have HB := n2_; clear n0_ n1_ n2_; (try clear hb); (try clear hb2); (try clear hk); (try clear hi); (try clear ho0); obtain ⟨Ao42, co42, eo42⟩ := Kd.R_slice HO123.out; subst eo42))
        go_loopg [84] kj11 (fun kq v84 w' => ∃ (x84_3 : Int), v84 = .int .i64 x84_3 ∧ Aside0 (spec_mountValid.l1 kq t121 (t121.length : Int) x84_3 = some r) ∧ Aside0 (kq ≤ kj11) ∧ Aside0 (Kd.R Kd.string 9 w' w.heap.size (fun _ => True) (.slice Ao42 t121.length co42) t121) ∧ Aside0 (w'.heap[gb110]? = some (.cells #[.int .i64 a0_0, .int .i64 a0_1, .int .i64 a0_2, .int .i64 a0_3, .string a0_4, .string a0_5, .string a0_6, .string a0_7, .string a0_8, .string a0_9, .string a0_10] 62 (0, 0))) ∧ Aside0 (Below w.heap.size w w'))
        case atStart => exact ⟨(0), (by first | rfl | (simp; done) | (simp [*]; done) | (simp [bne_nil]; done) | (simp [bne_nil, *]; done)), H', ⟨Nat.le_refl _⟩, ⟨by (with_reducible repeat (first | apply Kd.R_alloc | apply Kd.R_drewN | apply Kd.R_drew)); exact HO123.out⟩, ⟨by refine bY ?_; exact BK110.out⟩, ⟨by repeat (first | (with_reducible first | exact HB.out | apply below_alloc | apply pw_below_drewN | apply below_drew1 | refine below_set ?_ GE110.out) | exact HB.out)⟩⟩
        case round =>
         clear H'
         try clear c1
         try clear p1
         try clear q1
         try clear hx1
         try clear c2
         try clear p2
         try clear c3
         try clear p6
         try clear c7
         try clear c7b0
         try clear c8
         try clear c8b0
         try clear c9
         try clear c9b0
         try clear c10
         try clear c10b0
         try clear c11
         try clear c11b0
         try clear p11
         try clear q11
         try clear hx11
         try clear c13
         try clear c13b0
         try clear c13b1
         try clear c15
         try clear c15b0
         try clear c15b1
         try clear c17
         try clear c17b0
         try clear c17b1
         try clear c20
         try clear c22
         try clear c24
         try clear c26
         try clear c28
         try clear c31
         try clear c36
         try clear c37
         try clear c37b0
         try clear c37b1
         try clear hcz14_0
         try clear hcz14_1
         try clear hcz14_10
         try clear hcz14_2
         try clear hcz14_3
         try clear hcz14_4
         try clear hcz14_5
         try clear hcz14_6
         try clear hcz14_7
         try clear hcz14_8
         try clear hcz14_9
         try clear hcz16_0
         try clear hcz16_1
         try clear hcz16_10
         try clear hcz16_2
         try clear hcz16_3
         try clear hcz16_4
         try clear hcz16_5
         try clear hcz16_6
         try clear hcz16_7
         try clear hcz16_8
         try clear hcz16_9
         try clear hcz18_0
         try clear hcz18_1
         try clear hcz18_10
         try clear hcz18_2
         try clear hcz18_3
         try clear hcz18_4
         try clear hcz18_5
         try clear hcz18_6
         try clear hcz18_7
         try clear hcz18_8
         try clear hcz18_9
         try clear hcz30_0
         try clear hcz30_1
         try clear hcz30_10
         try clear hcz30_2
         try clear hcz30_3
         try clear hcz30_4
         try clear hcz30_5
         try clear hcz30_6
         try clear hcz30_7
         try clear hcz30_8
         try clear hcz30_9
         try clear hcz31_0
         try clear hcz31_1
         try clear hcz31_10
         try clear hcz31_2
         try clear hcz31_3
         try clear hcz31_4
         try clear hcz31_5
         try clear hcz31_6
         try clear hcz31_7
         try clear hcz31_8
         try clear hcz31_9
         try clear hcz32_0
         try clear hcz32_1
         try clear hcz32_10
         try clear hcz32_2
         try clear hcz32_3
         try clear hcz32_4
         try clear hcz32_5
         try clear hcz32_6
         try clear hcz32_7
         try clear hcz32_8
         try clear hcz32_9
         try clear hcz33_0
         try clear hcz33_1
         try clear hcz33_10
         try clear hcz33_2
         try clear hcz33_3
         try clear hcz33_4
         try clear hcz33_5
         try clear hcz33_6
         try clear hcz33_7
         try clear hcz33_8
         try clear hcz33_9
         try clear hcz34_0
         try clear hcz34_1
         try clear hcz34_10
         try clear hcz34_2
         try clear hcz34_3
         try clear hcz34_4
         try clear hcz34_5
         try clear hcz34_6
         try clear hcz34_7
         try clear hcz34_8
         try clear hcz34_9
         try clear hcz35_0
         try clear hcz35_1
         try clear hcz35_10
         try clear hcz35_2
         try clear hcz35_3
         try clear hcz35_4
         try clear hcz35_5
         try clear hcz35_6
         try clear hcz35_7
         try clear hcz35_8
         try clear hcz35_9
         try clear hcz38_0
         try clear hcz38_1
         try clear hcz38_10
         try clear hcz38_2
         try clear hcz38_3
         try clear hcz38_4
         try clear hcz38_5
         try clear hcz38_6
         try clear hcz38_7
         try clear hcz38_8
         try clear hcz38_9
         try clear hcz3_0
         try clear hcz3_1
         try clear hcz3_10
         try clear hcz3_2
         try clear hcz3_3
         try clear hcz3_4
         try clear hcz3_5
         try clear hcz3_6
         try clear hcz3_7
         try clear hcz3_8
         try clear hcz3_9
         try clear hcz40_0
         try clear hcz40_1
         try clear hcz40_10
         try clear hcz40_2
         try clear hcz40_3
         try clear hcz40_4
         try clear hcz40_5
         try clear hcz40_6
         try clear hcz40_7
         try clear hcz40_8
         try clear hcz40_9
         try clear hfz14_0
         try clear hfz14_1
         try clear hfz14_10
         try clear hfz14_2
         try clear hfz14_3
         try clear hfz14_4
         try clear hfz14_5
         try clear hfz14_6
         try clear hfz14_7
         try clear hfz14_8
         try clear hfz14_9
         try clear hfz16_0
         try clear hfz16_1
         try clear hfz16_10
         try clear hfz16_2
         try clear hfz16_3
         try clear hfz16_4
         try clear hfz16_5
         try clear hfz16_6
         try clear hfz16_7
         try clear hfz16_8
         try clear hfz16_9
         try clear hfz18_0
         try clear hfz18_1
         try clear hfz18_10
         try clear hfz18_2
         try clear hfz18_3
         try clear hfz18_4
         try clear hfz18_5
         try clear hfz18_6
         try clear hfz18_7
         try clear hfz18_8
         try clear hfz18_9
         try clear hfz30_0
         try clear hfz30_1
         try clear hfz30_10
         try clear hfz30_2
         try clear hfz30_3
         try clear hfz30_4
         try clear hfz30_5
         try clear hfz30_6
         try clear hfz30_7
         try clear hfz30_8
         try clear hfz30_9
         try clear hfz31_0
         try clear hfz31_1
         try clear hfz31_10
         try clear hfz31_2
         try clear hfz31_3
         try clear hfz31_4
         try clear hfz31_5
         try clear hfz31_6
         try clear hfz31_7
         try clear hfz31_8
         try clear hfz31_9
         try clear hfz32_0
         try clear hfz32_1
         try clear hfz32_10
         try clear hfz32_2
         try clear hfz32_3
         try clear hfz32_4
         try clear hfz32_5
         try clear hfz32_6
         try clear hfz32_7
         try clear hfz32_8
         try clear hfz32_9
         try clear hfz33_0
         try clear hfz33_1
         try clear hfz33_10
         try clear hfz33_2
         try clear hfz33_3
         try clear hfz33_4
         try clear hfz33_5
         try clear hfz33_6
         try clear hfz33_7
         try clear hfz33_8
         try clear hfz33_9
         try clear hfz34_0
         try clear hfz34_1
         try clear hfz34_10
         try clear hfz34_2
         try clear hfz34_3
         try clear hfz34_4
         try clear hfz34_5
         try clear hfz34_6
         try clear hfz34_7
         try clear hfz34_8
         try clear hfz34_9
         try clear hfz35_0
         try clear hfz35_1
         try clear hfz35_10
         try clear hfz35_2
         try clear hfz35_3
         try clear hfz35_4
         try clear hfz35_5
         try clear hfz35_6
         try clear hfz35_7
         try clear hfz35_8
         try clear hfz35_9
         try clear hfz38_0
         try clear hfz38_1
         try clear hfz38_10
         try clear hfz38_2
         try clear hfz38_3
         try clear hfz38_4
         try clear hfz38_5
         try clear hfz38_6
         try clear hfz38_7
         try clear hfz38_8
         try clear hfz38_9
         try clear hfz3_0
         try clear hfz3_1
         try clear hfz3_10
         try clear hfz3_2
         try clear hfz3_3
         try clear hfz3_4
         try clear hfz3_5
         try clear hfz3_6
         try clear hfz3_7
         try clear hfz3_8
         try clear hfz3_9
         try clear hfz40_0
         try clear hfz40_1
         try clear hfz40_10
         try clear hfz40_2
         try clear hfz40_3
         try clear hfz40_4
         try clear hfz40_5
         try clear hfz40_6
         try clear hfz40_7
         try clear hfz40_8
         try clear hfz40_9
         try clear hx114_0
         try clear p1
         try clear p11
         try clear p114
         try clear p2
         try clear p6
         try clear q1
         try clear q11
         try clear q114
         obtain ⟨x84_3, rfl, HA, HK3, HO_82, BK110, HB⟩ := hrel
         cases gk with
         | zero => exact absurd HA.out (by simp [spec_mountValid.l1])
         | succ k3 =>
          have H := HA.out
          clear HA
          simp only [spec_mountValid.l1] at H
          by_cases c43 : x84_3 < (t121.length : Int)
          ·rw [if_pos c43] at H
           have c43b0 : decide (x84_3 < (t121.length : Int)) = true := decide_eq_true c43
           clear c43
           by_cases c44 : 0 ≤ x84_3
           ·rw [if_pos c44] at H
            have c44b0 : decide (0 ≤ x84_3) = true := decide_eq_true c44
            clear c44
            by_cases c45 : x84_3 < (t121.length : Int)
            ·rw [if_pos c45] at H
             have c45b0 : decide (x84_3 < (t121.length : Int)) = true := decide_eq_true c45
             clear c45
             replace H := Option.bind_eq_some_iff.mp H
             obtain ⟨t125, A460, H⟩ := H
             have A46 := Aside0.mk A460
             clear A460
             by_cases c47 : t125 = true
             ·subst c47
              have H1 : (if (rdOf ByteArray.empty t121 x84_3).toList = ([45] : List UInt8) then (some false) else (spec_mountValid.l1 k3 t121 (t121.length : Int) (wrap64 (x84_3 + 1)))) = some r := by rw [if_pos rfl] at H; exact H
              clear H
              have H := H1
              clear H1
              by_cases c48 : (rdOf ByteArray.empty t121 x84_3).toList = ([45] : List UInt8)
              ·rw [if_pos c48] at H
               have c48b0 : ((rdOf ByteArray.empty t121 x84_3).toList == ([45] : List UInt8)) = true := beq_iff_eq.mpr c48
               have c48b1 : ((rdOf ByteArray.empty t121 x84_3).toList != ([45] : List UInt8)) = false := bne_eq_false_iff_eq.mpr c48
               clear c48
               obtain rfl := Option.some.inj H
               have p124 : 0 ≤ (x84_3 : Int) := of_decide_eq_true (by first | (with_reducible assumption) | assumption)
               have q124 : x84_3 < (t121.length : Int) := of_decide_eq_true (by first | (with_reducible assumption) | assumption)
               obtain ⟨ad124, e124, hx124_0⟩ := Kd.at_string (Kd.R_reads' HO_82.out).2.2 x84_3 p124 q124
               cases e124
               replace p124 := eq_true p124
               replace q124 := eq_true q124
               go_wp2_with (first | ((with_reducible refine gate_callee (f := 50) rfl ?_); refine goesL_ (some 89) rfl rfl Tryd.func50 (by kernel_rfl) rfl #[.string (rdOf ByteArray.empty t121 x84_3)] rfl (by (try simp only [List.map_toArray, List.map_cons, List.map_nil]); first | done | rfl | (simp only [List.length_drop, List.length_take]; rfl)) ?_; (with_reducible refine (spec_word.calls k3 (rdOf ByteArray.empty t121 x84_3) true _ A46.out).mono ?_); rintro e w' ⟨rfl, ⟨nd, rfl⟩⟩; refine ⟨_, rfl, ?_⟩))
               go_ret
               exact ⟨by first | rfl | (simp [errW_none, errW_some] <;> rfl) | (simp [*, errW_none, errW_some] <;> rfl), by repeat (first | (with_reducible first | exact HB.out | apply below_alloc | apply pw_below_drewN | apply below_drew1 | refine below_set ?_ GE110.out) | exact HB.out)⟩
              ·rw [if_neg c48] at H
               have c48b0 : ((rdOf ByteArray.empty t121 x84_3).toList == ([45] : List UInt8)) = false := beq_eq_false_iff_ne.mpr c48
               have c48b1 : ((rdOf ByteArray.empty t121 x84_3).toList != ([45] : List UInt8)) = true := bne_iff_ne.mpr c48
               have H' := Aside0.mk H
               clear H
               have p124 : 0 ≤ (x84_3 : Int) := of_decide_eq_true (by first | (with_reducible assumption) | assumption)
               have q124 : x84_3 < (t121.length : Int) := of_decide_eq_true (by first | (with_reducible assumption) | assumption)
               obtain ⟨ad124, e124, hx124_0⟩ := Kd.at_string (Kd.R_reads' HO_82.out).2.2 x84_3 p124 q124
               cases e124
               replace p124 := eq_true p124
               replace q124 := eq_true q124
               go_wp2_with (first | ((with_reducible refine gate_callee (f := 50) rfl ?_); refine goesL_ (some 89) rfl rfl Tryd.func50 (by kernel_rfl) rfl #[.string (rdOf ByteArray.empty t121 x84_3)] rfl (by (try simp only [List.map_toArray, List.map_cons, List.map_nil]); first | done | rfl | (simp only [List.length_drop, List.length_take]; rfl)) ?_; (with_reducible refine (spec_word.calls k3 (rdOf ByteArray.empty t121 x84_3) true _ A46.out).mono ?_); rintro e w' ⟨rfl, ⟨nd, rfl⟩⟩; refine ⟨_, rfl, ?_⟩))
               go_roundg k3
               case measure => have := HK1.out; have := HJ11.out; have := HK3.out; omega
               case rel => exact ⟨(wrap64 (x84_3 + 1)), (by first | rfl | (simp; done) | (simp [*]; done) | (simp [bne_nil]; done) | (simp [bne_nil, *]; done)), H', ⟨by have := HK1.out; have := HJ11.out; have := HK3.out; omega⟩, ⟨by (with_reducible repeat (first | apply Kd.R_alloc | apply Kd.R_drewN | apply Kd.R_drew)); exact HO_82.out⟩, ⟨by refine bY ?_; exact BK110.out⟩, ⟨by repeat (first | (with_reducible first | exact HB.out | apply below_alloc | apply pw_below_drewN | apply below_drew1 | refine below_set ?_ GE110.out) | exact HB.out)⟩⟩
             ·replace c47 := Bool.eq_false_iff.mpr c47
              subst c47
              have H1 : (some false) = some r := by rw [if_neg (show ¬ (false = true) by decide)] at H; exact H
              clear H
              have H := H1
              clear H1
              obtain rfl := Option.some.inj H
              have p124 : 0 ≤ (x84_3 : Int) := of_decide_eq_true (by first | (with_reducible assumption) | assumption)
              have q124 : x84_3 < (t121.length : Int) := of_decide_eq_true (by first | (with_reducible assumption) | assumption)
              obtain ⟨ad124, e124, hx124_0⟩ := Kd.at_string (Kd.R_reads' HO_82.out).2.2 x84_3 p124 q124
              cases e124
              replace p124 := eq_true p124
              replace q124 := eq_true q124
              go_wp2_with (first | ((with_reducible refine gate_callee (f := 50) rfl ?_); refine goesL_ (some 89) rfl rfl Tryd.func50 (by kernel_rfl) rfl #[.string (rdOf ByteArray.empty t121 x84_3)] rfl (by (try simp only [List.map_toArray, List.map_cons, List.map_nil]); first | done | rfl | (simp only [List.length_drop, List.length_take]; rfl)) ?_; (with_reducible refine (spec_word.calls k3 (rdOf ByteArray.empty t121 x84_3) false _ A46.out).mono ?_); rintro e w' ⟨rfl, ⟨nd, rfl⟩⟩; refine ⟨_, rfl, ?_⟩))
              go_ret
              exact ⟨by first | rfl | (simp [errW_none, errW_some] <;> rfl) | (simp [*, errW_none, errW_some] <;> rfl), by repeat (first | (with_reducible first | exact HB.out | apply below_alloc | apply pw_below_drewN | apply below_drew1 | refine below_set ?_ GE110.out) | exact HB.out)⟩
            ·rw [if_neg c45] at H
             exact absurd H (by simp)
           ·rw [if_neg c44] at H
            exact absurd H (by simp)
          ·rw [if_neg c43] at H
           have c43b0 : decide (x84_3 < (t121.length : Int)) = false := decide_eq_false c43
           clear c43
           obtain rfl := Option.some.inj H
           go_wp2
           go_ret
           exact ⟨by first | rfl | (simp [errW_none, errW_some] <;> rfl) | (simp [*, errW_none, errW_some] <;> rfl), by repeat (first | (with_reducible first | exact HB.out | apply below_alloc | apply pw_below_drewN | apply below_drew1 | refine below_set ?_ GE110.out) | exact HB.out)⟩

end Go.Proofs.YtokojamaigebaaaDoor.L
