-- written by a program of this session (wip/tools/pp.py)
import Derived.Test.YtokojamaigebaaaDoorL0
import Derived.Test.YtokojamaigebaaaDoorL1
import Derived.Test.YtokojamaigebaaaDoorL7
import Derived.Test.YtokojamaigebaaaDoorL9
namespace Go.Proofs.YtokojamaigebaaaDoor.L
open Go.RowKit Go.Proofs.YtokojamaigebaaaDoorW.PrintWords Go.Proofs.YtokojamaigebaaaDoorW.PrintLast Go.Proofs.YtokojamaigebaaaDoor.M Go.Proofs.YtokojamaigebaaaDoor.MtDoor Go.Proofs.YtokojamaigebaaaDoorW.PrintMore
attribute [local go_sem] max2_int min2_int max_two min_two max_three min_three max_four min_four   -- for this text's walks alone
set_option linter.unusedVariables false
set_option linter.unusedSimpArgs false

attribute [local go_sem high] eqA23
/-! ### laws_FnMountsOrder: function 4 -/
mutual
def laws_FnMountsOrder.j0 : Nat → List (S23) → Bool → Int → List ByteArray → Option (Bool)
 | 0, _, _, _, _ => none
 | k + 1, x0, x19, x214000, x214001 => if x19 = true then (some true) else ((laws_printed.f k x0).bind fun bt216 => (if bt216.2 = true then (if x214000 < 0 then (laws_FnMountsOrder.j1 k x0 bt216.1 true x214000 x214001) else (if x214000 > 4 then (laws_FnMountsOrder.j1 k x0 bt216.1 true x214000 x214001) else (if x214000 > 1 then (if (x214001.length : Int) = 1 then (laws_FnMountsOrder.j1 k x0 bt216.1 (decide ((x214001.length : Int) > 20)) x214000 x214001) else (laws_FnMountsOrder.j1 k x0 bt216.1 true x214000 x214001)) else (laws_FnMountsOrder.j1 k x0 bt216.1 (decide ((x214001.length : Int) > 20)) x214000 x214001)))) else (laws_FnMountsOrder.j1 k x0 bt216.1 true x214000 x214001)))
def laws_FnMountsOrder.j1 : Nat → List (S23) → ByteArray → Bool → Int → List ByteArray → Option (Bool)
 | 0, _, _, _, _, _ => none
 | k + 1, x0, x5, x53, x214000, x214001 => if x53 = true then (some true) else ((impl_Mounts.f x5 x214000 x214001).bind fun bt218 => (laws_FnMountsOrder.l0 k x0 bt218.2 0 bt218.1 (bt218.1.length : Int) 0))
def laws_FnMountsOrder.l0 : Nat → List (S23) → Int → Int → List (S23) → Int → Int → Option (Bool)
 | 0, _, _, _, _, _, _ => none
 | k + 1, x0, x8, x9, x60, x61, x62 => if x62 < x61 then (if 0 ≤ x62 then (if x62 < (x60.length : Int) then (laws_FnMountsOrder.l1 k x0 x8 x9 x60 x61 x62 ((rd_T23 x60 x62).f0) ((rd_T23 x60 x62).f1) ((rd_T23 x60 x62).f2) ((rd_T23 x60 x62).f3) ((rd_T23 x60 x62).f4) ((rd_T23 x60 x62).f5) ((rd_T23 x60 x62).f6) ((rd_T23 x60 x62).f7) ((rd_T23 x60 x62).f8) ((rd_T23 x60 x62).f9) ((rd_T23 x60 x62).f10)) else (none)) else (none)) else (if x8 = 0 then ((laws_mounts.f).bind fun t222 => (some t222)) else (some false))
def laws_FnMountsOrder.l1 : Nat → List (S23) → Int → Int → List (S23) → Int → Int → Int → Int → Int → Int → ByteArray → ByteArray → ByteArray → ByteArray → ByteArray → ByteArray → ByteArray → Option (Bool)
 | 0, _, _, _, _, _, _, _, _, _, _, _, _, _, _, _, _, _ => none
 | k + 1, x0, x8, x9, x60, x61, x62, x225000, x225001, x225002, x225003, x225004, x225005, x225006, x225007, x225008, x225009, x225010 => if x9 < (x0.length : Int) then (if 0 ≤ x9 then (if (!(((rd_T23 x0 x9).f0) == x225000) || (!(((rd_T23 x0 x9).f1) == x225001) || (!(((rd_T23 x0 x9).f2) == x225002) || (!(((rd_T23 x0 x9).f3) == x225003) || (!((((rd_T23 x0 x9).f4).toList) == x225004.toList) || (!((((rd_T23 x0 x9).f5).toList) == x225005.toList) || (!((((rd_T23 x0 x9).f6).toList) == x225006.toList) || (!((((rd_T23 x0 x9).f7).toList) == x225007.toList) || (!((((rd_T23 x0 x9).f8).toList) == x225008.toList) || (!((((rd_T23 x0 x9).f9).toList) == x225009.toList) || (!((((rd_T23 x0 x9).f10).toList) == x225010.toList)))))))))))) = true then (laws_FnMountsOrder.l1 k x0 x8 (wrap64 (x9 + 1)) x60 x61 x62 x225000 x225001 x225002 x225003 x225004 x225005 x225006 x225007 x225008 x225009 x225010) else (if x9 = (x0.length : Int) then (some false) else (laws_FnMountsOrder.l0 k x0 x8 (wrap64 (x9 + 1)) x60 x61 (wrap64 (x62 + 1))))) else (none)) else (if x9 = (x0.length : Int) then (some false) else (laws_FnMountsOrder.l0 k x0 x8 (wrap64 (x9 + 1)) x60 x61 (wrap64 (x62 + 1))))
end
def laws_FnMountsOrder.f (k : Nat) (l0 : List (S23)) (a1_0 : Int) (l1_1 : List ByteArray) : Option (Bool) := (laws_zzFits1.f k l0).bind fun t214 => (if t214 = true then ((laws_zzFits3.f k a1_0 l1_1).bind fun t215 => (laws_FnMountsOrder.j0 k l0 (!t215) a1_0 l1_1)) else (laws_FnMountsOrder.j0 k l0 true a1_0 l1_1))
theorem laws_FnMountsOrder.mono_l : ∀ k, (∀ y0 y1 y2 y3, LeO (laws_FnMountsOrder.j0 k y0 y1 y2 y3) (laws_FnMountsOrder.j0 (k + 1) y0 y1 y2 y3)) ∧ (∀ y0 y1 y2 y3 y4, LeO (laws_FnMountsOrder.j1 k y0 y1 y2 y3 y4) (laws_FnMountsOrder.j1 (k + 1) y0 y1 y2 y3 y4)) ∧ (∀ y0 y1 y2 y3 y4 y5, LeO (laws_FnMountsOrder.l0 k y0 y1 y2 y3 y4 y5) (laws_FnMountsOrder.l0 (k + 1) y0 y1 y2 y3 y4 y5)) ∧ (∀ y0 y1 y2 y3 y4 y5 y6 y7 y8 y9 y10 y11 y12 y13 y14 y15 y16, LeO (laws_FnMountsOrder.l1 k y0 y1 y2 y3 y4 y5 y6 y7 y8 y9 y10 y11 y12 y13 y14 y15 y16) (laws_FnMountsOrder.l1 (k + 1) y0 y1 y2 y3 y4 y5 y6 y7 y8 y9 y10 y11 y12 y13 y14 y15 y16))
 | 0 => ⟨fun _ _ _ _ r h => by simp [laws_FnMountsOrder.j0] at h, fun _ _ _ _ _ r h => by simp [laws_FnMountsOrder.j1] at h, fun _ _ _ _ _ _ r h => by simp [laws_FnMountsOrder.l0] at h, fun _ _ _ _ _ _ _ _ _ _ _ _ _ _ _ _ _ r h => by simp [laws_FnMountsOrder.l1] at h⟩
 | k + 1 => by
  obtain ⟨ih0, ih1, ih2, ih3⟩ := laws_FnMountsOrder.mono_l k
  refine ⟨?_, ?_, ?_, ?_⟩
  ·intro y0 y1 y2 y3
   unfold laws_FnMountsOrder.j0
   repeat' first
   | (with_reducible exact ih0 _ _ _ _)
   | (with_reducible exact ih1 _ _ _ _ _)
   | (with_reducible exact ih2 _ _ _ _ _ _)
   | (with_reducible exact ih3 _ _ _ _ _ _ _ _ _ _ _ _ _ _ _ _ _)
   | (with_reducible exact laws_printed.mono _ _)
   | (with_reducible exact laws_zzFits1.mono _ _)
   | (with_reducible exact laws_zzFits3.mono _ _ _)
   | (with_reducible exact LeO.refl _)
   | (with_reducible exact LeO.none _)
   | (with_reducible refine LeO.ite ?_ ?_)
   | (with_reducible refine LeO.bind ?_ (fun _ => ?_))
   | exact ih0 _ _ _ _
   | exact ih1 _ _ _ _ _
   | exact ih2 _ _ _ _ _ _
   | exact ih3 _ _ _ _ _ _ _ _ _ _ _ _ _ _ _ _ _
   | exact laws_printed.mono _ _
   | exact laws_zzFits1.mono _ _
   | exact laws_zzFits3.mono _ _ _
   | exact LeO.none _
   | refine LeO.ite ?_ ?_
   | refine LeO.bind ?_ (fun _ => ?_)
  ·intro y0 y1 y2 y3 y4
   unfold laws_FnMountsOrder.j1
   repeat' first
   | (with_reducible exact ih0 _ _ _ _)
   | (with_reducible exact ih1 _ _ _ _ _)
   | (with_reducible exact ih2 _ _ _ _ _ _)
   | (with_reducible exact ih3 _ _ _ _ _ _ _ _ _ _ _ _ _ _ _ _ _)
   | (with_reducible exact laws_printed.mono _ _)
   | (with_reducible exact laws_zzFits1.mono _ _)
   | (with_reducible exact laws_zzFits3.mono _ _ _)
   | (with_reducible exact LeO.refl _)
   | (with_reducible exact LeO.none _)
   | (with_reducible refine LeO.ite ?_ ?_)
   | (with_reducible refine LeO.bind ?_ (fun _ => ?_))
   | exact ih0 _ _ _ _
   | exact ih1 _ _ _ _ _
   | exact ih2 _ _ _ _ _ _
   | exact ih3 _ _ _ _ _ _ _ _ _ _ _ _ _ _ _ _ _
   | exact laws_printed.mono _ _
   | exact laws_zzFits1.mono _ _
   | exact laws_zzFits3.mono _ _ _
   | exact LeO.none _
   | refine LeO.ite ?_ ?_
   | refine LeO.bind ?_ (fun _ => ?_)
  ·intro y0 y1 y2 y3 y4 y5
   unfold laws_FnMountsOrder.l0
   repeat' first
   | (with_reducible exact ih0 _ _ _ _)
   | (with_reducible exact ih1 _ _ _ _ _)
   | (with_reducible exact ih2 _ _ _ _ _ _)
   | (with_reducible exact ih3 _ _ _ _ _ _ _ _ _ _ _ _ _ _ _ _ _)
   | (with_reducible exact laws_printed.mono _ _)
   | (with_reducible exact laws_zzFits1.mono _ _)
   | (with_reducible exact laws_zzFits3.mono _ _ _)
   | (with_reducible exact LeO.refl _)
   | (with_reducible exact LeO.none _)
   | (with_reducible refine LeO.ite ?_ ?_)
   | (with_reducible refine LeO.bind ?_ (fun _ => ?_))
   | exact ih0 _ _ _ _
   | exact ih1 _ _ _ _ _
   | exact ih2 _ _ _ _ _ _
   | exact ih3 _ _ _ _ _ _ _ _ _ _ _ _ _ _ _ _ _
   | exact laws_printed.mono _ _
   | exact laws_zzFits1.mono _ _
   | exact laws_zzFits3.mono _ _ _
   | exact LeO.none _
   | refine LeO.ite ?_ ?_
   | refine LeO.bind ?_ (fun _ => ?_)
  ·intro y0 y1 y2 y3 y4 y5 y6 y7 y8 y9 y10 y11 y12 y13 y14 y15 y16
   unfold laws_FnMountsOrder.l1
   repeat' first
   | (with_reducible exact ih0 _ _ _ _)
   | (with_reducible exact ih1 _ _ _ _ _)
   | (with_reducible exact ih2 _ _ _ _ _ _)
   | (with_reducible exact ih3 _ _ _ _ _ _ _ _ _ _ _ _ _ _ _ _ _)
   | (with_reducible exact laws_printed.mono _ _)
   | (with_reducible exact laws_zzFits1.mono _ _)
   | (with_reducible exact laws_zzFits3.mono _ _ _)
   | (with_reducible exact LeO.refl _)
   | (with_reducible exact LeO.none _)
   | (with_reducible refine LeO.ite ?_ ?_)
   | (with_reducible refine LeO.bind ?_ (fun _ => ?_))
   | exact ih0 _ _ _ _
   | exact ih1 _ _ _ _ _
   | exact ih2 _ _ _ _ _ _
   | exact ih3 _ _ _ _ _ _ _ _ _ _ _ _ _ _ _ _ _
   | exact laws_printed.mono _ _
   | exact laws_zzFits1.mono _ _
   | exact laws_zzFits3.mono _ _ _
   | exact LeO.none _
   | refine LeO.ite ?_ ?_
   | refine LeO.bind ?_ (fun _ => ?_)
theorem laws_FnMountsOrder.mono : ∀ a0 a1 a2 k, LeO (laws_FnMountsOrder.f k a0 a1 a2) (laws_FnMountsOrder.f (k + 1) a0 a1 a2) := by
 intro a0 a1 a2 k
 obtain ⟨ih0, ih1, ih2, ih3⟩ := laws_FnMountsOrder.mono_l k
 unfold laws_FnMountsOrder.f
 repeat' first
   | (with_reducible exact ih0 _ _ _ _)
   | (with_reducible exact ih1 _ _ _ _ _)
   | (with_reducible exact ih2 _ _ _ _ _ _)
   | (with_reducible exact ih3 _ _ _ _ _ _ _ _ _ _ _ _ _ _ _ _ _)
   | (with_reducible exact laws_printed.mono _ _)
   | (with_reducible exact laws_zzFits1.mono _ _)
   | (with_reducible exact laws_zzFits3.mono _ _ _)
   | (with_reducible exact LeO.refl _)
   | (with_reducible exact LeO.none _)
   | (with_reducible refine LeO.ite ?_ ?_)
   | (with_reducible refine LeO.bind ?_ (fun _ => ?_))
   | exact ih0 _ _ _ _
   | exact ih1 _ _ _ _ _
   | exact ih2 _ _ _ _ _ _
   | exact ih3 _ _ _ _ _ _ _ _ _ _ _ _ _ _ _ _ _
   | exact laws_printed.mono _ _
   | exact laws_zzFits1.mono _ _
   | exact laws_zzFits3.mono _ _ _
   | exact LeO.none _
   | refine LeO.ite ?_ ?_
   | refine LeO.bind ?_ (fun _ => ?_)
set_option maxHeartbeats 8000000 in
set_option maxRecDepth 100000 in
theorem laws_FnMountsOrder.calls (k : Nat) (A0 : Option Addr) (c0 : Nat) (l0 : List (S23)) (a1_0 : Int) (A1_1 : Option Addr) (c1_1 : Nat) (l1_1 : List ByteArray) (r : Bool) (w : World) (hr0 : Kd.C k23 w A0 l0.length l0) (hc0 : l0.length ≤ c0) (hr1_1 : Kd.C Kd.string w A1_1 l1_1.length l1_1) (hc1_1 : l1_1.length ≤ c1_1) (h : laws_FnMountsOrder.f k l0 a1_0 l1_1 = some r) (hTabs : Tabs w := by first | exact hTabs | exact Tabs.below hTabs (by repeat (first | (with_reducible first | exact HB.out | apply below_alloc | apply pw_below_drewN | apply below_drew1 | refine below_set ?_ (Aside0.out (by assumption))) | exact HB.out))) :
  Calls Tryd.prog 4 #[.slice A0 l0.length c0, .agg #[.int .i64 a1_0, .slice A1_1 l1_1.length c1_1]] w fun e w' => e = .returned (.bool r) ∧ Below w.heap.size w w' := by
 have hu33 := Tryd.underlying33
 have hu23 := Tryd.underlying23
 have HR0 := Aside0.mk hr0
 have HC0 := Aside0.mk hc0
 clear hr0 hc0
 have HR1_1 := Aside0.mk hr1_1
 have HC1_1 := Aside0.mk hc1_1
 clear hr1_1 hc1_1
 have HB := Aside0.mk (Below.refl w.heap.size w)
 have H : ((laws_zzFits1.f k l0).bind fun t214 => (if t214 = true then ((laws_zzFits3.f k a1_0 l1_1).bind fun t215 => (laws_FnMountsOrder.j0 k l0 (!t215) a1_0 l1_1)) else (laws_FnMountsOrder.j0 k l0 true a1_0 l1_1))) = some r := h
 clear h
 have HC3 := Aside0.mk H
 clear H
 go_enter Tryd.func4, Tryd.ntmps4
 go_upto_region 1 with (first | ((with_reducible refine gate_dst (N := 3) rfl ?_); (try (refine gate_guard (by rfl) ?_; dsimp only)); refine box_event ?hg (N := 3) ?hd (cs := #[.int .i64 a1_0, .slice A1_1 l1_1.length c1_1]) (t := 33) ?hr ?_; (case hd => rfl); (case hg => rfl); (case hr => first | (go_simp; done) | (go_simp; rfl)); intro gb213 hg w4 hbox hb; have n0_ := Aside0.mk (below_step belH hb); have n1_ := Aside0.mk (hbox); have n2_ := Aside0.mk ((by rw [hg]; exact (below_size belH) : w.heap.size ≤ gb213)); have n3_ := Aside0.mk ((by rw [hg]; exact (below_size belH) : w.heap.size ≤ gb213)); clear HB; have HB := n0_; have BK213 := n1_; have GW213 := n2_; have GE213 := n3_; clear n0_ n1_ n2_ n3_; clear hb hbox hg))
 repeat (go_quiet (first | ((with_reducible refine gate_dst (N := 3) rfl ?_); (try (refine gate_guard (by rfl) ?_; dsimp only)); refine box_event ?hg (N := 3) ?hd (cs := #[.int .i64 a1_0, .slice A1_1 l1_1.length c1_1]) (t := 33) ?hr ?_; (case hd => rfl); (case hg => rfl); (case hr => first | (go_simp; done) | (go_simp; rfl)); intro gb213 hg w4 hbox hb; have n0_ := Aside0.mk (below_step belH hb); have n1_ := Aside0.mk (hbox); have n2_ := Aside0.mk ((by rw [hg]; exact (below_size belH) : w.heap.size ≤ gb213)); have n3_ := Aside0.mk ((by rw [hg]; exact (below_size belH) : w.heap.size ≤ gb213)); clear HB; have HB := n0_; have BK213 := n1_; have GW213 := n2_; have GE213 := n3_; clear n0_ n1_ n2_ n3_; clear hb hbox hg)); go_upto_region 1 with (first | ((with_reducible refine gate_dst (N := 3) rfl ?_); (try (refine gate_guard (by rfl) ?_; dsimp only)); refine box_event ?hg (N := 3) ?hd (cs := #[.int .i64 a1_0, .slice A1_1 l1_1.length c1_1]) (t := 33) ?hr ?_; (case hd => rfl); (case hg => rfl); (case hr => first | (go_simp; done) | (go_simp; rfl)); intro gb213 hg w4 hbox hb; have n0_ := Aside0.mk (below_step belH hb); have n1_ := Aside0.mk (hbox); have n2_ := Aside0.mk ((by rw [hg]; exact (below_size belH) : w.heap.size ≤ gb213)); have n3_ := Aside0.mk ((by rw [hg]; exact (below_size belH) : w.heap.size ≤ gb213)); clear HB; have HB := n0_; have BK213 := n1_; have GW213 := n2_; have GE213 := n3_; clear n0_ n1_ n2_ n3_; clear hb hbox hg)))
 (try simp only [Act.put, List.setIfInBounds_toArray, List.set_cons_zero, List.set_cons_succ])
 go_cut [19] (fun v19 wc => ∃ (kq : Nat) (x19_2 : Bool), v19 = .bool x19_2 ∧ Aside0 (laws_FnMountsOrder.j0 kq l0 x19_2 a1_0 l1_1 = some r) ∧ Aside0 (kq ≤ k) ∧ Aside0 (wc.heap[gb213]? = some (.cells #[.int .i64 a1_0, (.slice A1_1 l1_1.length c1_1)] 33 (0, 0))) ∧ Aside0 (Below w.heap.size w wc))
 case first =>
  have H := HC3.out
  clear HC3
  replace H := Option.bind_eq_some_iff.mp H
  obtain ⟨t214, A50, H⟩ := H
  have A5 := Aside0.mk A50
  clear A50
  by_cases c6 : t214 = true
  ·subst c6
   have H1 : ((laws_zzFits3.f k a1_0 l1_1).bind fun t215 => (laws_FnMountsOrder.j0 k l0 (!t215) a1_0 l1_1)) = some r := by rw [if_pos rfl] at H; exact H
   clear H
   have H := H1
   clear H1
   replace H := Option.bind_eq_some_iff.mp H
   obtain ⟨t215, A70, H⟩ := H
   have A7 := Aside0.mk A70
   clear A70
   have H' := Aside0.mk H
   clear H
   go_wp2_with (first | (go_at_call 11; (with_reducible refine (laws_zzFits1.calls k _ _ l0 true _ ?side1 ?side2 A5.out).mono ?_); (case side1 => repeat (first | exact (Kd.C_below HR0.out HB.out) | (with_reducible refine Kd.C_alloc ?_ _) | (with_reducible refine Kd.C_drewN ?_ _) | (with_reducible refine Kd.C_drew ?_))); (case side2 => exact HC0.out); rintro e w8 ⟨rfl, hb⟩; have n0_ := Aside0.mk (blk_below (g := gb213) (o := .cells #[.int .i64 a1_0, .slice A1_1 l1_1.length c1_1] 33 (0, 0)) (by refine bY ?_; exact BK213.out) hb); have n1_ := Aside0.mk (below_step belS hb); clear BK213; clear HB; have BK213 := n0_; have HB := n1_; clear n0_ n1_; (try clear hb); (try clear hb2); (try clear hk); (try clear hi); have hcz9_0 : w8.cell? ⟨gb213, 0, none⟩ = some (.int .i64 a1_0) := (blk_cell BK213.out 0).trans rfl; have hcz9_1 : w8.cell? ⟨gb213, 1, none⟩ = some (.slice A1_1 l1_1.length c1_1) := (blk_cell BK213.out 1).trans rfl; have hfz9_0 := blk_frozen BK213.out 0; have hfz9_1 := blk_frozen BK213.out 1) | (go_at_call 12; (with_reducible refine (laws_zzFits3.calls k a1_0 _ _ l1_1 t215 _ ?side1 ?side2 A7.out).mono ?_); (case side1 => repeat (first | exact (Kd.C_below HR1_1.out HB.out) | (with_reducible refine Kd.C_alloc ?_ _) | (with_reducible refine Kd.C_drewN ?_ _) | (with_reducible refine Kd.C_drew ?_))); (case side2 => exact HC1_1.out); rintro e w10 ⟨rfl, hb⟩; have n0_ := Aside0.mk (blk_below (g := gb213) (o := .cells #[.int .i64 a1_0, .slice A1_1 l1_1.length c1_1] 33 (0, 0)) (by refine bY ?_; exact BK213.out) hb); have n1_ := Aside0.mk (below_step belS hb); clear BK213; clear HB; have BK213 := n0_; have HB := n1_; clear n0_ n1_; (try clear hb); (try clear hb2); (try clear hk); (try clear hi)))
   repeat (go_quiet (first | (go_at_call 11; (with_reducible refine (laws_zzFits1.calls k _ _ l0 true _ ?side1 ?side2 A5.out).mono ?_); (case side1 => repeat (first | exact (Kd.C_below HR0.out HB.out) | (with_reducible refine Kd.C_alloc ?_ _) | (with_reducible refine Kd.C_drewN ?_ _) | (with_reducible refine Kd.C_drew ?_))); (case side2 => exact HC0.out); rintro e w8 ⟨rfl, hb⟩; have n0_ := Aside0.mk (blk_below (g := gb213) (o := .cells #[.int .i64 a1_0, .slice A1_1 l1_1.length c1_1] 33 (0, 0)) (by refine bY ?_; exact BK213.out) hb); have n1_ := Aside0.mk (below_step belS hb); clear BK213; clear HB; have BK213 := n0_; have HB := n1_; clear n0_ n1_; (try clear hb); (try clear hb2); (try clear hk); (try clear hi); have hcz9_0 : w8.cell? ⟨gb213, 0, none⟩ = some (.int .i64 a1_0) := (blk_cell BK213.out 0).trans rfl; have hcz9_1 : w8.cell? ⟨gb213, 1, none⟩ = some (.slice A1_1 l1_1.length c1_1) := (blk_cell BK213.out 1).trans rfl; have hfz9_0 := blk_frozen BK213.out 0; have hfz9_1 := blk_frozen BK213.out 1) | (go_at_call 12; (with_reducible refine (laws_zzFits3.calls k a1_0 _ _ l1_1 t215 _ ?side1 ?side2 A7.out).mono ?_); (case side1 => repeat (first | exact (Kd.C_below HR1_1.out HB.out) | (with_reducible refine Kd.C_alloc ?_ _) | (with_reducible refine Kd.C_drewN ?_ _) | (with_reducible refine Kd.C_drew ?_))); (case side2 => exact HC1_1.out); rintro e w10 ⟨rfl, hb⟩; have n0_ := Aside0.mk (blk_below (g := gb213) (o := .cells #[.int .i64 a1_0, .slice A1_1 l1_1.length c1_1] 33 (0, 0)) (by refine bY ?_; exact BK213.out) hb); have n1_ := Aside0.mk (below_step belS hb); clear BK213; clear HB; have BK213 := n0_; have HB := n1_; clear n0_ n1_; (try clear hb); (try clear hb2); (try clear hk); (try clear hi))); try go_wp2_with (first | (go_at_call 11; (with_reducible refine (laws_zzFits1.calls k _ _ l0 true _ ?side1 ?side2 A5.out).mono ?_); (case side1 => repeat (first | exact (Kd.C_below HR0.out HB.out) | (with_reducible refine Kd.C_alloc ?_ _) | (with_reducible refine Kd.C_drewN ?_ _) | (with_reducible refine Kd.C_drew ?_))); (case side2 => exact HC0.out); rintro e w8 ⟨rfl, hb⟩; have n0_ := Aside0.mk (blk_below (g := gb213) (o := .cells #[.int .i64 a1_0, .slice A1_1 l1_1.length c1_1] 33 (0, 0)) (by refine bY ?_; exact BK213.out) hb); have n1_ := Aside0.mk (below_step belS hb); clear BK213; clear HB; have BK213 := n0_; have HB := n1_; clear n0_ n1_; (try clear hb); (try clear hb2); (try clear hk); (try clear hi); have hcz9_0 : w8.cell? ⟨gb213, 0, none⟩ = some (.int .i64 a1_0) := (blk_cell BK213.out 0).trans rfl; have hcz9_1 : w8.cell? ⟨gb213, 1, none⟩ = some (.slice A1_1 l1_1.length c1_1) := (blk_cell BK213.out 1).trans rfl; have hfz9_0 := blk_frozen BK213.out 0; have hfz9_1 := blk_frozen BK213.out 1) | (go_at_call 12; (with_reducible refine (laws_zzFits3.calls k a1_0 _ _ l1_1 t215 _ ?side1 ?side2 A7.out).mono ?_); (case side1 => repeat (first | exact (Kd.C_below HR1_1.out HB.out) | (with_reducible refine Kd.C_alloc ?_ _) | (with_reducible refine Kd.C_drewN ?_ _) | (with_reducible refine Kd.C_drew ?_))); (case side2 => exact HC1_1.out); rintro e w10 ⟨rfl, hb⟩; have n0_ := Aside0.mk (blk_below (g := gb213) (o := .cells #[.int .i64 a1_0, .slice A1_1 l1_1.length c1_1] 33 (0, 0)) (by refine bY ?_; exact BK213.out) hb); have n1_ := Aside0.mk (below_step belS hb); clear BK213; clear HB; have BK213 := n0_; have HB := n1_; clear n0_ n1_; (try clear hb); (try clear hb2); (try clear hk); (try clear hi))))
   go_meet
   case rel => exact ⟨_, (!t215), (by first | rfl | (simp; done) | (simp [*]; done) | (simp [bne_nil]; done) | (simp [bne_nil, *]; done)), H', ⟨by first | omega | exact Nat.le_refl _⟩, ⟨by refine bY ?_; exact BK213.out⟩, ⟨by repeat (first | (with_reducible first | exact HB.out | apply below_alloc | apply pw_below_drewN | apply below_drew1 | refine below_set ?_ GE213.out) | exact HB.out)⟩⟩
  ·replace c6 := Bool.eq_false_iff.mpr c6
   subst c6
   have H1 : (laws_FnMountsOrder.j0 k l0 true a1_0 l1_1) = some r := by rw [if_neg (show ¬ (false = true) by decide)] at H; exact H
   clear H
   have H := H1
   clear H1
   have H' := Aside0.mk H
   clear H
   go_wp2_with (first | (go_at_call 11; (with_reducible refine (laws_zzFits1.calls k _ _ l0 false _ ?side1 ?side2 A5.out).mono ?_); (case side1 => repeat (first | exact (Kd.C_below HR0.out HB.out) | (with_reducible refine Kd.C_alloc ?_ _) | (with_reducible refine Kd.C_drewN ?_ _) | (with_reducible refine Kd.C_drew ?_))); (case side2 => exact HC0.out); rintro e w11 ⟨rfl, hb⟩; have n0_ := Aside0.mk (blk_below (g := gb213) (o := .cells #[.int .i64 a1_0, .slice A1_1 l1_1.length c1_1] 33 (0, 0)) (by refine bY ?_; exact BK213.out) hb); have n1_ := Aside0.mk (below_step belS hb); clear BK213; clear HB; have BK213 := n0_; have HB := n1_; clear n0_ n1_; (try clear hb); (try clear hb2); (try clear hk); (try clear hi)))
   repeat (go_quiet (first | (go_at_call 11; (with_reducible refine (laws_zzFits1.calls k _ _ l0 false _ ?side1 ?side2 A5.out).mono ?_); (case side1 => repeat (first | exact (Kd.C_below HR0.out HB.out) | (with_reducible refine Kd.C_alloc ?_ _) | (with_reducible refine Kd.C_drewN ?_ _) | (with_reducible refine Kd.C_drew ?_))); (case side2 => exact HC0.out); rintro e w11 ⟨rfl, hb⟩; have n0_ := Aside0.mk (blk_below (g := gb213) (o := .cells #[.int .i64 a1_0, .slice A1_1 l1_1.length c1_1] 33 (0, 0)) (by refine bY ?_; exact BK213.out) hb); have n1_ := Aside0.mk (below_step belS hb); clear BK213; clear HB; have BK213 := n0_; have HB := n1_; clear n0_ n1_; (try clear hb); (try clear hb2); (try clear hk); (try clear hi))); try go_wp2_with (first | (go_at_call 11; (with_reducible refine (laws_zzFits1.calls k _ _ l0 false _ ?side1 ?side2 A5.out).mono ?_); (case side1 => repeat (first | exact (Kd.C_below HR0.out HB.out) | (with_reducible refine Kd.C_alloc ?_ _) | (with_reducible refine Kd.C_drewN ?_ _) | (with_reducible refine Kd.C_drew ?_))); (case side2 => exact HC0.out); rintro e w11 ⟨rfl, hb⟩; have n0_ := Aside0.mk (blk_below (g := gb213) (o := .cells #[.int .i64 a1_0, .slice A1_1 l1_1.length c1_1] 33 (0, 0)) (by refine bY ?_; exact BK213.out) hb); have n1_ := Aside0.mk (below_step belS hb); clear BK213; clear HB; have BK213 := n0_; have HB := n1_; clear n0_ n1_; (try clear hb); (try clear hb2); (try clear hk); (try clear hi))))
   go_meet
   case rel => exact ⟨_, (true), (by first | rfl | (simp; done) | (simp [*]; done) | (simp [bne_nil]; done) | (simp [bne_nil, *]; done)), H', ⟨by first | omega | exact Nat.le_refl _⟩, ⟨by refine bY ?_; exact BK213.out⟩, ⟨by repeat (first | (with_reducible first | exact HB.out | apply below_alloc | apply pw_below_drewN | apply below_drew1 | refine below_set ?_ GE213.out) | exact HB.out)⟩⟩
 case rest =>
  clear HC3
  try clear c1
  try clear p2
  try clear c4
  try clear c6
  try clear hcz9_0
  try clear hcz9_1
  try clear hfz9_0
  try clear hfz9_1
  obtain ⟨kq, x19_2, rfl, HA, HJ2, BK213, HB⟩ := hcut
  cases kq with
  | zero => exact absurd HA.out (by simp [laws_FnMountsOrder.j0])
  | succ kj2 =>
   have H := HA.out
   clear HA
   simp only [laws_FnMountsOrder.j0] at H
   by_cases c12 : x19_2 = true
   ·subst c12
    have H1 : (some true) = some r := by rw [if_pos rfl] at H; exact H
    clear H
    have H := H1
    clear H1
    obtain rfl := Option.some.inj H
    go_wp2
    repeat (go_quiet (fail); try go_wp2)
    go_ret
    exact ⟨by first | rfl | (simp [errW_none, errW_some] <;> rfl) | (simp [*, errW_none, errW_some] <;> rfl), by repeat (first | (with_reducible first | exact HB.out | apply below_alloc | apply pw_below_drewN | apply below_drew1 | refine below_set ?_ GE213.out) | exact HB.out)⟩
   ·replace c12 := Bool.eq_false_iff.mpr c12
    subst c12
    have H1 : ((laws_printed.f kj2 l0).bind fun bt216 => (if bt216.2 = true then (if a1_0 < 0 then (laws_FnMountsOrder.j1 kj2 l0 bt216.1 true a1_0 l1_1) else (if a1_0 > 4 then (laws_FnMountsOrder.j1 kj2 l0 bt216.1 true a1_0 l1_1) else (if a1_0 > 1 then (if (l1_1.length : Int) = 1 then (laws_FnMountsOrder.j1 kj2 l0 bt216.1 (decide ((l1_1.length : Int) > 20)) a1_0 l1_1) else (laws_FnMountsOrder.j1 kj2 l0 bt216.1 true a1_0 l1_1)) else (laws_FnMountsOrder.j1 kj2 l0 bt216.1 (decide ((l1_1.length : Int) > 20)) a1_0 l1_1)))) else (laws_FnMountsOrder.j1 kj2 l0 bt216.1 true a1_0 l1_1))) = some r := by rw [if_neg (show ¬ (false = true) by decide)] at H; exact H
    clear H
    have H := H1
    clear H1
    replace H := Option.bind_eq_some_iff.mp H
    obtain ⟨⟨t216, t217⟩, A130, H⟩ := H
    have A13 := Aside0.mk A130
    clear A130
    have HC14 := Aside0.mk H
    clear H
    go_upto_region 4 with (first | (go_at_call 8; (with_reducible refine (laws_printed.calls kj2 _ _ l0 t216 t217 _ ?side1 ?side2 A13.out).mono ?_); (case side1 => repeat (first | exact (Kd.C_below HR0.out HB.out) | (with_reducible refine Kd.C_alloc ?_ _) | (with_reducible refine Kd.C_drewN ?_ _) | (with_reducible refine Kd.C_drew ?_))); (case side2 => exact HC0.out); rintro e w15 ⟨rfl, hb⟩; have n0_ := Aside0.mk (blk_below (g := gb213) (o := .cells #[.int .i64 a1_0, .slice A1_1 l1_1.length c1_1] 33 (0, 0)) (by refine bY ?_; exact BK213.out) hb); have n1_ := Aside0.mk (below_step belS hb); clear BK213; clear HB; have BK213 := n0_; have HB := n1_; clear n0_ n1_; (try clear hb); (try clear hb2); (try clear hk); (try clear hi)))
    repeat (go_quiet (first | (go_at_call 8; (with_reducible refine (laws_printed.calls kj2 _ _ l0 t216 t217 _ ?side1 ?side2 A13.out).mono ?_); (case side1 => repeat (first | exact (Kd.C_below HR0.out HB.out) | (with_reducible refine Kd.C_alloc ?_ _) | (with_reducible refine Kd.C_drewN ?_ _) | (with_reducible refine Kd.C_drew ?_))); (case side2 => exact HC0.out); rintro e w15 ⟨rfl, hb⟩; have n0_ := Aside0.mk (blk_below (g := gb213) (o := .cells #[.int .i64 a1_0, .slice A1_1 l1_1.length c1_1] 33 (0, 0)) (by refine bY ?_; exact BK213.out) hb); have n1_ := Aside0.mk (below_step belS hb); clear BK213; clear HB; have BK213 := n0_; have HB := n1_; clear n0_ n1_; (try clear hb); (try clear hb2); (try clear hk); (try clear hi))); go_upto_region 4 with (first | (go_at_call 8; (with_reducible refine (laws_printed.calls kj2 _ _ l0 t216 t217 _ ?side1 ?side2 A13.out).mono ?_); (case side1 => repeat (first | exact (Kd.C_below HR0.out HB.out) | (with_reducible refine Kd.C_alloc ?_ _) | (with_reducible refine Kd.C_drewN ?_ _) | (with_reducible refine Kd.C_drew ?_))); (case side2 => exact HC0.out); rintro e w15 ⟨rfl, hb⟩; have n0_ := Aside0.mk (blk_below (g := gb213) (o := .cells #[.int .i64 a1_0, .slice A1_1 l1_1.length c1_1] 33 (0, 0)) (by refine bY ?_; exact BK213.out) hb); have n1_ := Aside0.mk (below_step belS hb); clear BK213; clear HB; have BK213 := n0_; have HB := n1_; clear n0_ n1_; (try clear hb); (try clear hb2); (try clear hk); (try clear hi))))
    (try simp only [Act.put, List.setIfInBounds_toArray, List.set_cons_zero, List.set_cons_succ])
    go_cut [53] (fun v53 wc => ∃ (kq : Nat) (x53_13 : Bool), v53 = .bool x53_13 ∧ Aside0 (laws_FnMountsOrder.j1 kq l0 t216 x53_13 a1_0 l1_1 = some r) ∧ Aside0 (kq ≤ kj2) ∧ Aside0 (wc.heap[gb213]? = some (.cells #[.int .i64 a1_0, (.slice A1_1 l1_1.length c1_1)] 33 (0, 0))) ∧ Aside0 (Below w.heap.size w wc))
    case first =>
     have H := HC14.out
     clear HC14
     by_cases c16 : t217 = true
     ·subst c16
      have H1 : (if a1_0 < 0 then (laws_FnMountsOrder.j1 kj2 l0 t216 true a1_0 l1_1) else (if a1_0 > 4 then (laws_FnMountsOrder.j1 kj2 l0 t216 true a1_0 l1_1) else (if a1_0 > 1 then (if (l1_1.length : Int) = 1 then (laws_FnMountsOrder.j1 kj2 l0 t216 (decide ((l1_1.length : Int) > 20)) a1_0 l1_1) else (laws_FnMountsOrder.j1 kj2 l0 t216 true a1_0 l1_1)) else (laws_FnMountsOrder.j1 kj2 l0 t216 (decide ((l1_1.length : Int) > 20)) a1_0 l1_1)))) = some r := by rw [if_pos rfl] at H; exact H
      clear H
      have H := H1
      clear H1
      by_cases c17 : a1_0 < 0
      ·rw [if_pos c17] at H
       have c17b0 : decide (a1_0 < 0) = true := decide_eq_true c17
       clear c17
       (first | rw [c17b0] | (simp only [i64_w, i32_w]; rw [c17b0]) | skip)
       have H' := Aside0.mk H
       clear H
       have hcz18_0 : w15.cell? ⟨gb213, 0, none⟩ = some (.int .i64 a1_0) := (blk_cell BK213.out 0).trans rfl
       have hcz18_1 : w15.cell? ⟨gb213, 1, none⟩ = some (.slice A1_1 l1_1.length c1_1) := (blk_cell BK213.out 1).trans rfl
       have hfz18_0 := blk_frozen BK213.out 0
       have hfz18_1 := blk_frozen BK213.out 1
       go_wp2
       repeat (go_quiet (fail); try go_wp2)
       go_meet
       case rel => exact ⟨_, (true), (by first | rfl | (simp; done) | (simp [*]; done) | (simp [bne_nil]; done) | (simp [bne_nil, *]; done)), H', ⟨by have := HJ2.out; first | omega | exact Nat.le_refl _⟩, ⟨by refine bY ?_; exact BK213.out⟩, ⟨by repeat (first | (with_reducible first | exact HB.out | apply below_alloc | apply pw_below_drewN | apply below_drew1 | refine below_set ?_ GE213.out) | exact HB.out)⟩⟩
      ·rw [if_neg c17] at H
       have c17b0 : decide (a1_0 < 0) = false := decide_eq_false c17
       clear c17
       (first | rw [c17b0] | (simp only [i64_w, i32_w]; rw [c17b0]) | skip)
       by_cases c19 : a1_0 > 4
       ·rw [if_pos c19] at H
        have c19b0 : decide (4 < a1_0) = true := decide_eq_true c19
        clear c19
        have H' := Aside0.mk H
        clear H
        have hcz20_0 : w15.cell? ⟨gb213, 0, none⟩ = some (.int .i64 a1_0) := (blk_cell BK213.out 0).trans rfl
        have hcz20_1 : w15.cell? ⟨gb213, 1, none⟩ = some (.slice A1_1 l1_1.length c1_1) := (blk_cell BK213.out 1).trans rfl
        have hfz20_0 := blk_frozen BK213.out 0
        have hfz20_1 := blk_frozen BK213.out 1
        go_wp2
        repeat (go_quiet (fail); try go_wp2)
        go_meet
        case rel => exact ⟨_, (true), (by first | rfl | (simp; done) | (simp [*]; done) | (simp [bne_nil]; done) | (simp [bne_nil, *]; done)), H', ⟨by have := HJ2.out; first | omega | exact Nat.le_refl _⟩, ⟨by refine bY ?_; exact BK213.out⟩, ⟨by repeat (first | (with_reducible first | exact HB.out | apply below_alloc | apply pw_below_drewN | apply below_drew1 | refine below_set ?_ GE213.out) | exact HB.out)⟩⟩
       ·rw [if_neg c19] at H
        have c19b0 : decide (4 < a1_0) = false := decide_eq_false c19
        clear c19
        by_cases c21 : a1_0 > 1
        ·rw [if_pos c21] at H
         have c21b0 : decide (1 < a1_0) = true := decide_eq_true c21
         clear c21
         by_cases c22 : (l1_1.length : Int) = 1
         ·rw [if_pos c22] at H
          have c22b0 : ((l1_1.length : Int) == 1) = true := beq_iff_eq.mpr c22
          have c22b1 : ((l1_1.length : Int) != 1) = false := bne_eq_false_iff_eq.mpr c22
          clear c22
          have H' := Aside0.mk H
          clear H
          have hcz23_0 : w15.cell? ⟨gb213, 0, none⟩ = some (.int .i64 a1_0) := (blk_cell BK213.out 0).trans rfl
          have hcz23_1 : w15.cell? ⟨gb213, 1, none⟩ = some (.slice A1_1 l1_1.length c1_1) := (blk_cell BK213.out 1).trans rfl
          have hfz23_0 := blk_frozen BK213.out 0
          have hfz23_1 := blk_frozen BK213.out 1
          go_wp2
          repeat (go_quiet (fail); try go_wp2)
          go_meet
          case rel => exact ⟨_, (decide ((l1_1.length : Int) > 20)), (by first | rfl | (simp; done) | (simp [*]; done) | (simp [bne_nil]; done) | (simp [bne_nil, *]; done)), H', ⟨by have := HJ2.out; first | omega | exact Nat.le_refl _⟩, ⟨by refine bY ?_; exact BK213.out⟩, ⟨by repeat (first | (with_reducible first | exact HB.out | apply below_alloc | apply pw_below_drewN | apply below_drew1 | refine below_set ?_ GE213.out) | exact HB.out)⟩⟩
         ·rw [if_neg c22] at H
          have c22b0 : ((l1_1.length : Int) == 1) = false := beq_eq_false_iff_ne.mpr c22
          have c22b1 : ((l1_1.length : Int) != 1) = true := bne_iff_ne.mpr c22
          have H' := Aside0.mk H
          clear H
          have hcz24_0 : w15.cell? ⟨gb213, 0, none⟩ = some (.int .i64 a1_0) := (blk_cell BK213.out 0).trans rfl
          have hcz24_1 : w15.cell? ⟨gb213, 1, none⟩ = some (.slice A1_1 l1_1.length c1_1) := (blk_cell BK213.out 1).trans rfl
          have hfz24_0 := blk_frozen BK213.out 0
          have hfz24_1 := blk_frozen BK213.out 1
          go_wp2
          repeat (go_quiet (fail); try go_wp2)
          go_meet
          case rel => exact ⟨_, (true), (by first | rfl | (simp; done) | (simp [*]; done) | (simp [bne_nil]; done) | (simp [bne_nil, *]; done)), H', ⟨by have := HJ2.out; first | omega | exact Nat.le_refl _⟩, ⟨by refine bY ?_; exact BK213.out⟩, ⟨by repeat (first | (with_reducible first | exact HB.out | apply below_alloc | apply pw_below_drewN | apply below_drew1 | refine below_set ?_ GE213.out) | exact HB.out)⟩⟩
        ·rw [if_neg c21] at H
         have c21b0 : decide (1 < a1_0) = false := decide_eq_false c21
         clear c21
         have H' := Aside0.mk H
         clear H
         have hcz25_0 : w15.cell? ⟨gb213, 0, none⟩ = some (.int .i64 a1_0) := (blk_cell BK213.out 0).trans rfl
         have hcz25_1 : w15.cell? ⟨gb213, 1, none⟩ = some (.slice A1_1 l1_1.length c1_1) := (blk_cell BK213.out 1).trans rfl
         have hfz25_0 := blk_frozen BK213.out 0
         have hfz25_1 := blk_frozen BK213.out 1
         go_wp2
         repeat (go_quiet (fail); try go_wp2)
         go_meet
         case rel => exact ⟨_, (decide ((l1_1.length : Int) > 20)), (by first | rfl | (simp; done) | (simp [*]; done) | (simp [bne_nil]; done) | (simp [bne_nil, *]; done)), H', ⟨by have := HJ2.out; first | omega | exact Nat.le_refl _⟩, ⟨by refine bY ?_; exact BK213.out⟩, ⟨by repeat (first | (with_reducible first | exact HB.out | apply below_alloc | apply pw_below_drewN | apply below_drew1 | refine below_set ?_ GE213.out) | exact HB.out)⟩⟩
     ·replace c16 := Bool.eq_false_iff.mpr c16
      subst c16
      have H1 : (laws_FnMountsOrder.j1 kj2 l0 t216 true a1_0 l1_1) = some r := by rw [if_neg (show ¬ (false = true) by decide)] at H; exact H
      clear H
      have H := H1
      clear H1
      have H' := Aside0.mk H
      clear H
      go_wp2
      repeat (go_quiet (fail); try go_wp2)
      go_meet
      case rel => exact ⟨_, (true), (by first | rfl | (simp; done) | (simp [*]; done) | (simp [bne_nil]; done) | (simp [bne_nil, *]; done)), H', ⟨by have := HJ2.out; first | omega | exact Nat.le_refl _⟩, ⟨by refine bY ?_; exact BK213.out⟩, ⟨by repeat (first | (with_reducible first | exact HB.out | apply below_alloc | apply pw_below_drewN | apply below_drew1 | refine below_set ?_ GE213.out) | exact HB.out)⟩⟩
    case rest =>
     clear HC14
     try clear c1
     try clear c2
     try clear p2
     try clear c4
     try clear c6
     try clear c12
     try clear c16
     try clear c17
     try clear c17b0
     try clear c19
     try clear c19b0
     try clear c21
     try clear c21b0
     try clear c22
     try clear c22b0
     try clear c22b1
     try clear hcz18_0
     try clear hcz18_1
     try clear hcz20_0
     try clear hcz20_1
     try clear hcz23_0
     try clear hcz23_1
     try clear hcz24_0
     try clear hcz24_1
     try clear hcz25_0
     try clear hcz25_1
     try clear hcz9_0
     try clear hcz9_1
     try clear hfz18_0
     try clear hfz18_1
     try clear hfz20_0
     try clear hfz20_1
     try clear hfz23_0
     try clear hfz23_1
     try clear hfz24_0
     try clear hfz24_1
     try clear hfz25_0
     try clear hfz25_1
     try clear hfz9_0
     try clear hfz9_1
     try clear p2
     obtain ⟨kq, x53_13, rfl, HA, HJ13, BK213, HB⟩ := hcut
     cases kq with
     | zero => exact absurd HA.out (by simp [laws_FnMountsOrder.j1])
     | succ kj13 =>
      have H := HA.out
      clear HA
      simp only [laws_FnMountsOrder.j1] at H
      by_cases c26 : x53_13 = true
      ·subst c26
       have H1 : (some true) = some r := by rw [if_pos rfl] at H; exact H
       clear H
       have H := H1
       clear H1
       obtain rfl := Option.some.inj H
       go_wp2
       repeat (go_quiet (fail); try go_wp2)
       go_ret
       exact ⟨by first | rfl | (simp [errW_none, errW_some] <;> rfl) | (simp [*, errW_none, errW_some] <;> rfl), by repeat (first | (with_reducible first | exact HB.out | apply below_alloc | apply pw_below_drewN | apply below_drew1 | refine below_set ?_ GE213.out) | exact HB.out)⟩
      ·replace c26 := Bool.eq_false_iff.mpr c26
       subst c26
       have H1 : ((impl_Mounts.f t216 a1_0 l1_1).bind fun bt218 => (laws_FnMountsOrder.l0 kj13 l0 bt218.2 0 bt218.1 (bt218.1.length : Int) 0)) = some r := by rw [if_neg (show ¬ (false = true) by decide)] at H; exact H
       clear H
       have H := H1
       clear H1
       replace H := Option.bind_eq_some_iff.mp H
       obtain ⟨⟨t218, t221⟩, A270, H⟩ := H
       have A27 := Aside0.mk A270
       clear A270
       have H' := Aside0.mk H
       clear H
       have hcz28_0 : wc.cell? ⟨gb213, 0, none⟩ = some (.int .i64 a1_0) := (blk_cell BK213.out 0).trans rfl
       have hcz28_1 : wc.cell? ⟨gb213, 1, none⟩ = some (.slice A1_1 l1_1.length c1_1) := (blk_cell BK213.out 1).trans rfl
       have hfz28_0 := blk_frozen BK213.out 0
       have hfz28_1 := blk_frozen BK213.out 1
       go_wp2_with (first | (go_at_call 9; (with_reducible refine (impl_Mounts.calls t216 a1_0 _ _ l1_1 t218 t221 _ ?side1 ?side2 A27.out).mono ?_); (case side1 => repeat (first | exact (Kd.C_below HR1_1.out HB.out) | (with_reducible refine Kd.C_alloc ?_ _) | (with_reducible refine Kd.C_drewN ?_ _) | (with_reducible refine Kd.C_drew ?_))); (case side2 => exact HC1_1.out); rintro e w29 ⟨v219, rfl, ho0, hb⟩; have n0_ := Aside0.mk (Kd.R_lower ho0 (below_size belS)); have n1_ := Aside0.mk (blk_below (g := gb213) (o := .cells #[.int .i64 a1_0, .slice A1_1 l1_1.length c1_1] 33 (0, 0)) (by refine bY ?_; exact BK213.out) hb); have n2_ := Aside0.mk (below_step belS hb); clear BK213; clear HB; have HO220 := n0_; have BK213 := n1_; have HB := n2_; clear n0_ n1_ n2_; (try clear hb); (try clear hb2); (try clear hk); (try clear hi); (try clear ho0); obtain ⟨Ao30, co30, eo30⟩ := Kd.R_slice HO220.out; subst eo30))
       repeat (go_quiet (first | (go_at_call 9; (with_reducible refine (impl_Mounts.calls t216 a1_0 _ _ l1_1 t218 t221 _ ?side1 ?side2 A27.out).mono ?_); (case side1 => repeat (first | exact (Kd.C_below HR1_1.out HB.out) | (with_reducible refine Kd.C_alloc ?_ _) | (with_reducible refine Kd.C_drewN ?_ _) | (with_reducible refine Kd.C_drew ?_))); (case side2 => exact HC1_1.out); rintro e w29 ⟨v219, rfl, ho0, hb⟩; have n0_ := Aside0.mk (Kd.R_lower ho0 (below_size belS)); have n1_ := Aside0.mk (blk_below (g := gb213) (o := .cells #[.int .i64 a1_0, .slice A1_1 l1_1.length c1_1] 33 (0, 0)) (by refine bY ?_; exact BK213.out) hb); have n2_ := Aside0.mk (below_step belS hb); clear BK213; clear HB; have HO220 := n0_; have BK213 := n1_; have HB := n2_; clear n0_ n1_ n2_; (try clear hb); (try clear hb2); (try clear hk); (try clear hi); (try clear ho0); obtain ⟨Ao30, co30, eo30⟩ := Kd.R_slice HO220.out; subst eo30)); try go_wp2_with (first | (go_at_call 9; (with_reducible refine (impl_Mounts.calls t216 a1_0 _ _ l1_1 t218 t221 _ ?side1 ?side2 A27.out).mono ?_); (case side1 => repeat (first | exact (Kd.C_below HR1_1.out HB.out) | (with_reducible refine Kd.C_alloc ?_ _) | (with_reducible refine Kd.C_drewN ?_ _) | (with_reducible refine Kd.C_drew ?_))); (case side2 => exact HC1_1.out); rintro e w29 ⟨v219, rfl, ho0, hb⟩; have n0_ := Aside0.mk (Kd.R_lower ho0 (below_size belS)); have n1_ := Aside0.mk (blk_below (g := gb213) (o := .cells #[.int .i64 a1_0, .slice A1_1 l1_1.length c1_1] 33 (0, 0)) (by refine bY ?_; exact BK213.out) hb); have n2_ := Aside0.mk (below_step belS hb); clear BK213; clear HB; have HO220 := n0_; have BK213 := n1_; have HB := n2_; clear n0_ n1_ n2_; (try clear hb); (try clear hb2); (try clear hk); (try clear hi); (try clear ho0); obtain ⟨Ao30, co30, eo30⟩ := Kd.R_slice HO220.out; subst eo30)))
       go_loopg [9, 62] kj13 (fun kq v9 v62 w' => ∃ (x9_3 : Int) (x62_3 : Int), v9 = .int .i64 x9_3 ∧ v62 = .int .i64 x62_3 ∧ Aside0 (laws_FnMountsOrder.l0 kq l0 t221 x9_3 t218 (t218.length : Int) x62_3 = some r) ∧ Aside0 (kq ≤ kj13) ∧ Aside0 (Kd.R k23 23 w' w.heap.size (fun _ => True) (.slice Ao30 t218.length co30) t218) ∧ Aside0 (w'.heap[gb213]? = some (.cells #[.int .i64 a1_0, (.slice A1_1 l1_1.length c1_1)] 33 (0, 0))) ∧ Aside0 (Below w.heap.size w w'))
       case atStart => exact ⟨(0), (0), (by first | rfl | (simp; done) | (simp [*]; done) | (simp [bne_nil]; done) | (simp [bne_nil, *]; done)), (by first | rfl | (simp; done) | (simp [*]; done) | (simp [bne_nil]; done) | (simp [bne_nil, *]; done)), H', ⟨Nat.le_refl _⟩, ⟨by (with_reducible repeat (first | apply Kd.R_alloc | apply Kd.R_drewN | apply Kd.R_drew)); exact HO220.out⟩, ⟨by refine bY ?_; exact BK213.out⟩, ⟨by repeat (first | (with_reducible first | exact HB.out | apply below_alloc | apply pw_below_drewN | apply below_drew1 | refine below_set ?_ GE213.out) | exact HB.out)⟩⟩
       case round =>
        clear H'
        try clear c1
        try clear c2
        try clear p2
        try clear c4
        try clear c6
        try clear c12
        try clear c16
        try clear c17
        try clear c17b0
        try clear c19
        try clear c19b0
        try clear c21
        try clear c21b0
        try clear c22
        try clear c22b0
        try clear c22b1
        try clear c26
        try clear hcz18_0
        try clear hcz18_1
        try clear hcz20_0
        try clear hcz20_1
        try clear hcz23_0
        try clear hcz23_1
        try clear hcz24_0
        try clear hcz24_1
        try clear hcz25_0
        try clear hcz25_1
        try clear hcz28_0
        try clear hcz28_1
        try clear hcz9_0
        try clear hcz9_1
        try clear hfz18_0
        try clear hfz18_1
        try clear hfz20_0
        try clear hfz20_1
        try clear hfz23_0
        try clear hfz23_1
        try clear hfz24_0
        try clear hfz24_1
        try clear hfz25_0
        try clear hfz25_1
        try clear hfz28_0
        try clear hfz28_1
        try clear hfz9_0
        try clear hfz9_1
        try clear p2
        obtain ⟨x9_3, x62_3, rfl, rfl, HA, HK3, HO_60, BK213, HB⟩ := hrel
        cases gk with
        | zero => exact absurd HA.out (by simp [laws_FnMountsOrder.l0])
        | succ k3 =>
         have H := HA.out
         clear HA
         simp only [laws_FnMountsOrder.l0] at H
         by_cases c31 : x62_3 < (t218.length : Int)
         ·rw [if_pos c31] at H
          have c31b0 : decide (x62_3 < (t218.length : Int)) = true := decide_eq_true c31
          clear c31
          by_cases c32 : 0 ≤ x62_3
          ·rw [if_pos c32] at H
           have c32b0 : decide (0 ≤ x62_3) = true := decide_eq_true c32
           clear c32
           by_cases c33 : x62_3 < (t218.length : Int)
           ·rw [if_pos c33] at H
            have c33b0 : decide (x62_3 < (t218.length : Int)) = true := decide_eq_true c33
            clear c33
            have H' := Aside0.mk H
            clear H
            have p223 : 0 ≤ (x62_3 : Int) := of_decide_eq_true (by first | (with_reducible assumption) | assumption)
            have q223 : x62_3 < (t218.length : Int) := of_decide_eq_true (by first | (with_reducible assumption) | assumption)
            obtain ⟨ad223, e223, hx223_0, hx223_1, hx223_2, hx223_3, hx223_4, hx223_5, hx223_6, hx223_7, hx223_8, hx223_9, hx223_10⟩ := at_T23 (Kd.R_reads' HO_60.out).2.2 x62_3 p223 q223
            cases e223
            replace p223 := eq_true p223
            replace q223 := eq_true q223
            go_wp2_with (first | ((with_reducible refine gate_dst (N := 11) rfl ?_); (try (refine gate_guard (by rfl) ?_; dsimp only)); refine box_event ?hg (N := 11) ?hd (cs := #[.int .i64 0, .int .i64 0, .int .i64 0, .int .i64 0, .string (⟨#[]⟩ : ByteArray), .string (⟨#[]⟩ : ByteArray), .string (⟨#[]⟩ : ByteArray), .string (⟨#[]⟩ : ByteArray), .string (⟨#[]⟩ : ByteArray), .string (⟨#[]⟩ : ByteArray), .string (⟨#[]⟩ : ByteArray)]) (t := 23) ?hr ?_; (case hd => rfl); (case hg => rfl); (case hr => first | (go_simp; done) | (go_simp; rfl)); intro gb224 hg w34 hbox hb; have n0_ := Aside0.mk (Kd.R_below (Kd.R_elderB (by (with_reducible repeat (first | apply Kd.R_alloc | apply Kd.R_drewN | apply Kd.R_drew)); exact HO_60.out) gb224 (Nat.le_of_eq hg.symm)) hb); have n1_ := Aside0.mk (blk_below (g := gb213) (o := .cells #[.int .i64 a1_0, .slice A1_1 l1_1.length c1_1] 33 (0, 0)) (by refine bY ?_; exact BK213.out) hb); have n2_ := Aside0.mk (below_step belS hb); have n3_ := Aside0.mk (hbox); have n4_ := Aside0.mk ((by rw [hg]; exact (below_size belS) : w.heap.size ≤ gb224)); have n5_ := Aside0.mk ((by rw [hg]; exact (below_size belS) : w.heap.size ≤ gb224)); have n6_ := Aside0.mk ((by rw [hg]; exact Nat.ne_of_lt (blk_lt (g := gb213) (o := .cells #[.int .i64 a1_0, .slice A1_1 l1_1.length c1_1] 33 (0, 0)) (by refine bY ?_; exact BK213.out)) : gb213 ≠ gb224)); have n7_ := Aside0.mk ((by rw [hg]; exact Nat.ne_of_gt (blk_lt (g := gb213) (o := .cells #[.int .i64 a1_0, .slice A1_1 l1_1.length c1_1] 33 (0, 0)) (by refine bY ?_; exact BK213.out)) : gb224 ≠ gb213)); clear HO_60; clear BK213; clear HB; have HO_60 := n0_; have BK213 := n1_; have HB := n2_; have BK224 := n3_; have GW224 := n4_; have GE224 := n5_; have NB213_224 := n6_; have NB224_213 := n7_; clear n0_ n1_ n2_ n3_ n4_ n5_ n6_ n7_; clear hb hbox hg; have hnb35 := NB224_213.out; have hnc35 := NB213_224.out; obtain ⟨hcz36_0, hcz36_1, hcz36_2, hcz36_3, hcz36_4, hcz36_5, hcz36_6, hcz36_7, hcz36_8, hcz36_9, hcz36_10, hfz36_0, hfz36_1, hfz36_2, hfz36_3, hfz36_4, hfz36_5, hfz36_6, hfz36_7, hfz36_8, hfz36_9, hfz36_10⟩ := rows11 (w := w34) BK224))
            repeat (go_quiet (first | ((with_reducible refine gate_dst (N := 11) rfl ?_); (try (refine gate_guard (by rfl) ?_; dsimp only)); refine box_event ?hg (N := 11) ?hd (cs := #[.int .i64 0, .int .i64 0, .int .i64 0, .int .i64 0, .string (⟨#[]⟩ : ByteArray), .string (⟨#[]⟩ : ByteArray), .string (⟨#[]⟩ : ByteArray), .string (⟨#[]⟩ : ByteArray), .string (⟨#[]⟩ : ByteArray), .string (⟨#[]⟩ : ByteArray), .string (⟨#[]⟩ : ByteArray)]) (t := 23) ?hr ?_; (case hd => rfl); (case hg => rfl); (case hr => first | (go_simp; done) | (go_simp; rfl)); intro gb224 hg w34 hbox hb; have n0_ := Aside0.mk (Kd.R_below (Kd.R_elderB (by (with_reducible repeat (first | apply Kd.R_alloc | apply Kd.R_drewN | apply Kd.R_drew)); exact HO_60.out) gb224 (Nat.le_of_eq hg.symm)) hb); have n1_ := Aside0.mk (blk_below (g := gb213) (o := .cells #[.int .i64 a1_0, .slice A1_1 l1_1.length c1_1] 33 (0, 0)) (by refine bY ?_; exact BK213.out) hb); have n2_ := Aside0.mk (below_step belS hb); have n3_ := Aside0.mk (hbox); have n4_ := Aside0.mk ((by rw [hg]; exact (below_size belS) : w.heap.size ≤ gb224)); have n5_ := Aside0.mk ((by rw [hg]; exact (below_size belS) : w.heap.size ≤ gb224)); have n6_ := Aside0.mk ((by rw [hg]; exact Nat.ne_of_lt (blk_lt (g := gb213) (o := .cells #[.int .i64 a1_0, .slice A1_1 l1_1.length c1_1] 33 (0, 0)) (by refine bY ?_; exact BK213.out)) : gb213 ≠ gb224)); have n7_ := Aside0.mk ((by rw [hg]; exact Nat.ne_of_gt (blk_lt (g := gb213) (o := .cells #[.int .i64 a1_0, .slice A1_1 l1_1.length c1_1] 33 (0, 0)) (by refine bY ?_; exact BK213.out)) : gb224 ≠ gb213)); clear HO_60; clear BK213; clear HB; have HO_60 := n0_; have BK213 := n1_; have HB := n2_; have BK224 := n3_; have GW224 := n4_; have GE224 := n5_; have NB213_224 := n6_; have NB224_213 := n7_; clear n0_ n1_ n2_ n3_ n4_ n5_ n6_ n7_; clear hb hbox hg; have hnb35 := NB224_213.out; have hnc35 := NB213_224.out; obtain ⟨hcz36_0, hcz36_1, hcz36_2, hcz36_3, hcz36_4, hcz36_5, hcz36_6, hcz36_7, hcz36_8, hcz36_9, hcz36_10, hfz36_0, hfz36_1, hfz36_2, hfz36_3, hfz36_4, hfz36_5, hfz36_6, hfz36_7, hfz36_8, hfz36_9, hfz36_10⟩ := rows11 (w := w34) BK224)); try go_wp2_with (first | ((with_reducible refine gate_dst (N := 11) rfl ?_); (try (refine gate_guard (by rfl) ?_; dsimp only)); refine box_event ?hg (N := 11) ?hd (cs := #[.int .i64 0, .int .i64 0, .int .i64 0, .int .i64 0, .string (⟨#[]⟩ : ByteArray), .string (⟨#[]⟩ : ByteArray), .string (⟨#[]⟩ : ByteArray), .string (⟨#[]⟩ : ByteArray), .string (⟨#[]⟩ : ByteArray), .string (⟨#[]⟩ : ByteArray), .string (⟨#[]⟩ : ByteArray)]) (t := 23) ?hr ?_; (case hd => rfl); (case hg => rfl); (case hr => first | (go_simp; done) | (go_simp; rfl)); intro gb224 hg w34 hbox hb; have n0_ := Aside0.mk (Kd.R_below (Kd.R_elderB (by (with_reducible repeat (first | apply Kd.R_alloc | apply Kd.R_drewN | apply Kd.R_drew)); exact HO_60.out) gb224 (Nat.le_of_eq hg.symm)) hb); have n1_ := Aside0.mk (blk_below (g := gb213) (o := .cells #[.int .i64 a1_0, .slice A1_1 l1_1.length c1_1] 33 (0, 0)) (by refine bY ?_; exact BK213.out) hb); have n2_ := Aside0.mk (below_step belS hb); have n3_ := Aside0.mk (hbox); have n4_ := Aside0.mk ((by rw [hg]; exact (below_size belS) : w.heap.size ≤ gb224)); have n5_ := Aside0.mk ((by rw [hg]; exact (below_size belS) : w.heap.size ≤ gb224)); have n6_ := Aside0.mk ((by rw [hg]; exact Nat.ne_of_lt (blk_lt (g := gb213) (o := .cells #[.int .i64 a1_0, .slice A1_1 l1_1.length c1_1] 33 (0, 0)) (by refine bY ?_; exact BK213.out)) : gb213 ≠ gb224)); have n7_ := Aside0.mk ((by rw [hg]; exact Nat.ne_of_gt (blk_lt (g := gb213) (o := .cells #[.int .i64 a1_0, .slice A1_1 l1_1.length c1_1] 33 (0, 0)) (by refine bY ?_; exact BK213.out)) : gb224 ≠ gb213)); clear HO_60; clear BK213; clear HB; have HO_60 := n0_; have BK213 := n1_; have HB := n2_; have BK224 := n3_; have GW224 := n4_; have GE224 := n5_; have NB213_224 := n6_; have NB224_213 := n7_; clear n0_ n1_ n2_ n3_ n4_ n5_ n6_ n7_; clear hb hbox hg; have hnb35 := NB224_213.out; have hnc35 := NB213_224.out; obtain ⟨hcz36_0, hcz36_1, hcz36_2, hcz36_3, hcz36_4, hcz36_5, hcz36_6, hcz36_7, hcz36_8, hcz36_9, hcz36_10, hfz36_0, hfz36_1, hfz36_2, hfz36_3, hfz36_4, hfz36_5, hfz36_6, hfz36_7, hfz36_8, hfz36_9, hfz36_10⟩ := rows11 (w := w34) BK224)))
            go_loopg [9] k3 (fun kq v9 w' => ∃ (x9_4 : Int), v9 = .int .i64 x9_4 ∧ Aside0 (laws_FnMountsOrder.l1 kq l0 t221 x9_4 t218 (t218.length : Int) x62_3 ((rd_T23 t218 x62_3).f0) ((rd_T23 t218 x62_3).f1) ((rd_T23 t218 x62_3).f2) ((rd_T23 t218 x62_3).f3) ((rd_T23 t218 x62_3).f4) ((rd_T23 t218 x62_3).f5) ((rd_T23 t218 x62_3).f6) ((rd_T23 t218 x62_3).f7) ((rd_T23 t218 x62_3).f8) ((rd_T23 t218 x62_3).f9) ((rd_T23 t218 x62_3).f10) = some r) ∧ Aside0 (kq ≤ k3) ∧ Aside0 (Kd.R k23 23 w' w.heap.size (fun k_ => k_ ≠ gb224) (.slice (some ad223) t218.length co30) t218) ∧ Aside0 (w'.heap[gb213]? = some (.cells #[.int .i64 a1_0, (.slice A1_1 l1_1.length c1_1)] 33 (0, 0))) ∧ Aside0 (w'.heap[gb224]? = some (.cells #[.int .i64 ((rd_T23 t218 x62_3).f0), .int .i64 ((rd_T23 t218 x62_3).f1), .int .i64 ((rd_T23 t218 x62_3).f2), .int .i64 ((rd_T23 t218 x62_3).f3), .string ((rd_T23 t218 x62_3).f4), .string ((rd_T23 t218 x62_3).f5), .string ((rd_T23 t218 x62_3).f6), .string ((rd_T23 t218 x62_3).f7), .string ((rd_T23 t218 x62_3).f8), .string ((rd_T23 t218 x62_3).f9), .string ((rd_T23 t218 x62_3).f10)] 23 (0, 0))) ∧ Aside0 (Below w.heap.size w w'))
            case atStart => exact ⟨(x9_3), (by first | rfl | (simp; done) | (simp [*]; done) | (simp [bne_nil]; done) | (simp [bne_nil, *]; done)), H', ⟨Nat.le_refl _⟩, ⟨by (with_reducible repeat (first | apply Kd.R_alloc | apply Kd.R_drewN | apply Kd.R_drew)); exact Kd.R_mono (Kd.R_far (p := ⟨gb224, 10, none⟩) (Kd.R_far (p := ⟨gb224, 9, none⟩) (Kd.R_far (p := ⟨gb224, 8, none⟩) (Kd.R_far8 (g := gb224) (Kd.R_mono HO_60.out (fun k_ hk => (⟨hk, hk.2⟩ : _ ∧ k_ ≠ gb224))) (fun _ hk => hk.2) (.int .i64 ((rd_T23 t218 x62_3).f0)) (.int .i64 ((rd_T23 t218 x62_3).f1)) (.int .i64 ((rd_T23 t218 x62_3).f2)) (.int .i64 ((rd_T23 t218 x62_3).f3)) (.string ((rd_T23 t218 x62_3).f4)) (.string ((rd_T23 t218 x62_3).f5)) (.string ((rd_T23 t218 x62_3).f6)) (.string ((rd_T23 t218 x62_3).f7))) (fun _ hk => hk.2) (.string ((rd_T23 t218 x62_3).f8))) (fun _ hk => hk.2) (.string ((rd_T23 t218 x62_3).f9))) (fun _ hk => hk.2) (.string ((rd_T23 t218 x62_3).f10))) (fun _ hk => hk.1.2)⟩, ⟨by refine bY ?_; refine blk_far ?_ NB213_224.out _; refine bY ?_; refine blk_far ?_ NB213_224.out _; refine bY ?_; refine blk_far ?_ NB213_224.out _; refine bY ?_; refine blk_far ?_ NB213_224.out _; refine bY ?_; refine blk_far ?_ NB213_224.out _; refine bY ?_; refine blk_far ?_ NB213_224.out _; refine bY ?_; refine blk_far ?_ NB213_224.out _; refine bY ?_; refine blk_far ?_ NB213_224.out _; refine bY ?_; refine blk_far ?_ NB213_224.out _; refine bY ?_; refine blk_far ?_ NB213_224.out _; refine bY ?_; refine blk_far ?_ NB213_224.out _; refine bY ?_; exact BK213.out⟩, ⟨by refine bY ?_; refine blk_put (cs := #[.int .i64 ((rd_T23 t218 x62_3).f0), .int .i64 ((rd_T23 t218 x62_3).f1), .int .i64 ((rd_T23 t218 x62_3).f2), .int .i64 ((rd_T23 t218 x62_3).f3), .string ((rd_T23 t218 x62_3).f4), .string ((rd_T23 t218 x62_3).f5), .string ((rd_T23 t218 x62_3).f6), .string ((rd_T23 t218 x62_3).f7), .string ((rd_T23 t218 x62_3).f8), .string ((rd_T23 t218 x62_3).f9), .string (⟨#[]⟩ : ByteArray)]) ?_ 10 _ rfl; refine bY ?_; refine blk_put (cs := #[.int .i64 ((rd_T23 t218 x62_3).f0), .int .i64 ((rd_T23 t218 x62_3).f1), .int .i64 ((rd_T23 t218 x62_3).f2), .int .i64 ((rd_T23 t218 x62_3).f3), .string ((rd_T23 t218 x62_3).f4), .string ((rd_T23 t218 x62_3).f5), .string ((rd_T23 t218 x62_3).f6), .string ((rd_T23 t218 x62_3).f7), .string ((rd_T23 t218 x62_3).f8), .string (⟨#[]⟩ : ByteArray), .string (⟨#[]⟩ : ByteArray)]) ?_ 9 _ rfl; refine bY ?_; refine blk_put (cs := #[.int .i64 ((rd_T23 t218 x62_3).f0), .int .i64 ((rd_T23 t218 x62_3).f1), .int .i64 ((rd_T23 t218 x62_3).f2), .int .i64 ((rd_T23 t218 x62_3).f3), .string ((rd_T23 t218 x62_3).f4), .string ((rd_T23 t218 x62_3).f5), .string ((rd_T23 t218 x62_3).f6), .string ((rd_T23 t218 x62_3).f7), .string (⟨#[]⟩ : ByteArray), .string (⟨#[]⟩ : ByteArray), .string (⟨#[]⟩ : ByteArray)]) ?_ 8 _ rfl; refine bY ?_; refine blk_put (cs := #[.int .i64 ((rd_T23 t218 x62_3).f0), .int .i64 ((rd_T23 t218 x62_3).f1), .int .i64 ((rd_T23 t218 x62_3).f2), .int .i64 ((rd_T23 t218 x62_3).f3), .string ((rd_T23 t218 x62_3).f4), .string ((rd_T23 t218 x62_3).f5), .string ((rd_T23 t218 x62_3).f6), .string (⟨#[]⟩ : ByteArray), .string (⟨#[]⟩ : ByteArray), .string (⟨#[]⟩ : ByteArray), .string (⟨#[]⟩ : ByteArray)]) ?_ 7 _ rfl; refine bY ?_; refine blk_put (cs := #[.int .i64 ((rd_T23 t218 x62_3).f0), .int .i64 ((rd_T23 t218 x62_3).f1), .int .i64 ((rd_T23 t218 x62_3).f2), .int .i64 ((rd_T23 t218 x62_3).f3), .string ((rd_T23 t218 x62_3).f4), .string ((rd_T23 t218 x62_3).f5), .string (⟨#[]⟩ : ByteArray), .string (⟨#[]⟩ : ByteArray), .string (⟨#[]⟩ : ByteArray), .string (⟨#[]⟩ : ByteArray), .string (⟨#[]⟩ : ByteArray)]) ?_ 6 _ rfl; refine bY ?_; refine blk_put (cs := #[.int .i64 ((rd_T23 t218 x62_3).f0), .int .i64 ((rd_T23 t218 x62_3).f1), .int .i64 ((rd_T23 t218 x62_3).f2), .int .i64 ((rd_T23 t218 x62_3).f3), .string ((rd_T23 t218 x62_3).f4), .string (⟨#[]⟩ : ByteArray), .string (⟨#[]⟩ : ByteArray), .string (⟨#[]⟩ : ByteArray), .string (⟨#[]⟩ : ByteArray), .string (⟨#[]⟩ : ByteArray), .string (⟨#[]⟩ : ByteArray)]) ?_ 5 _ rfl; refine bY ?_; refine blk_put (cs := #[.int .i64 ((rd_T23 t218 x62_3).f0), .int .i64 ((rd_T23 t218 x62_3).f1), .int .i64 ((rd_T23 t218 x62_3).f2), .int .i64 ((rd_T23 t218 x62_3).f3), .string (⟨#[]⟩ : ByteArray), .string (⟨#[]⟩ : ByteArray), .string (⟨#[]⟩ : ByteArray), .string (⟨#[]⟩ : ByteArray), .string (⟨#[]⟩ : ByteArray), .string (⟨#[]⟩ : ByteArray), .string (⟨#[]⟩ : ByteArray)]) ?_ 4 _ rfl; refine bY ?_; refine blk_put (cs := #[.int .i64 ((rd_T23 t218 x62_3).f0), .int .i64 ((rd_T23 t218 x62_3).f1), .int .i64 ((rd_T23 t218 x62_3).f2), .int .i64 0, .string (⟨#[]⟩ : ByteArray), .string (⟨#[]⟩ : ByteArray), .string (⟨#[]⟩ : ByteArray), .string (⟨#[]⟩ : ByteArray), .string (⟨#[]⟩ : ByteArray), .string (⟨#[]⟩ : ByteArray), .string (⟨#[]⟩ : ByteArray)]) ?_ 3 _ rfl; refine bY ?_; refine blk_put (cs := #[.int .i64 ((rd_T23 t218 x62_3).f0), .int .i64 ((rd_T23 t218 x62_3).f1), .int .i64 0, .int .i64 0, .string (⟨#[]⟩ : ByteArray), .string (⟨#[]⟩ : ByteArray), .string (⟨#[]⟩ : ByteArray), .string (⟨#[]⟩ : ByteArray), .string (⟨#[]⟩ : ByteArray), .string (⟨#[]⟩ : ByteArray), .string (⟨#[]⟩ : ByteArray)]) ?_ 2 _ rfl; refine bY ?_; refine blk_put (cs := #[.int .i64 ((rd_T23 t218 x62_3).f0), .int .i64 0, .int .i64 0, .int .i64 0, .string (⟨#[]⟩ : ByteArray), .string (⟨#[]⟩ : ByteArray), .string (⟨#[]⟩ : ByteArray), .string (⟨#[]⟩ : ByteArray), .string (⟨#[]⟩ : ByteArray), .string (⟨#[]⟩ : ByteArray), .string (⟨#[]⟩ : ByteArray)]) ?_ 1 _ rfl; refine bY ?_; refine blk_put (cs := #[.int .i64 0, .int .i64 0, .int .i64 0, .int .i64 0, .string (⟨#[]⟩ : ByteArray), .string (⟨#[]⟩ : ByteArray), .string (⟨#[]⟩ : ByteArray), .string (⟨#[]⟩ : ByteArray), .string (⟨#[]⟩ : ByteArray), .string (⟨#[]⟩ : ByteArray), .string (⟨#[]⟩ : ByteArray)]) ?_ 0 _ rfl; refine bY ?_; exact BK224.out⟩, ⟨by repeat (first | (with_reducible first | exact HB.out | apply below_alloc | apply pw_below_drewN | apply below_drew1 | refine below_set ?_ GE213.out | refine below_set ?_ GE224.out) | exact HB.out)⟩⟩
            case round =>
             clear H'
             try clear c1
             try clear c2
             try clear p2
             try clear q2
             try clear hx2
             try clear c3
             try clear c4
             try clear c6
             try clear c12
             try clear c16
             try clear c17
             try clear c17b0
             try clear c19
             try clear c19b0
             try clear c21
             try clear c21b0
             try clear c22
             try clear c22b0
             try clear c22b1
             try clear p22
             try clear q22
             try clear hx22
             try clear c26
             try clear c31
             try clear c31b0
             try clear c32
             try clear c32b0
             try clear c33
             try clear c33b0
             try clear c35
             try clear hcz18_0
             try clear hcz18_1
             try clear hcz20_0
             try clear hcz20_1
             try clear hcz23_0
             try clear hcz23_1
             try clear hcz24_0
             try clear hcz24_1
             try clear hcz25_0
             try clear hcz25_1
             try clear hcz28_0
             try clear hcz28_1
             try clear hcz36_0
             try clear hcz36_1
             try clear hcz36_10
             try clear hcz36_2
             try clear hcz36_3
             try clear hcz36_4
             try clear hcz36_5
             try clear hcz36_6
             try clear hcz36_7
             try clear hcz36_8
             try clear hcz36_9
             try clear hcz9_0
             try clear hcz9_1
             try clear hfz18_0
             try clear hfz18_1
             try clear hfz20_0
             try clear hfz20_1
             try clear hfz23_0
             try clear hfz23_1
             try clear hfz24_0
             try clear hfz24_1
             try clear hfz25_0
             try clear hfz25_1
             try clear hfz28_0
             try clear hfz28_1
             try clear hfz36_0
             try clear hfz36_1
             try clear hfz36_10
             try clear hfz36_2
             try clear hfz36_3
             try clear hfz36_4
             try clear hfz36_5
             try clear hfz36_6
             try clear hfz36_7
             try clear hfz36_8
             try clear hfz36_9
             try clear hfz9_0
             try clear hfz9_1
             try clear hx223_0
             try clear hx223_1
             try clear hx223_10
             try clear hx223_2
             try clear hx223_3
             try clear hx223_4
             try clear hx223_5
             try clear hx223_6
             try clear hx223_7
             try clear hx223_8
             try clear hx223_9
             try clear p2
             try clear p223
             try clear q223
             obtain ⟨x9_4, rfl, HA, HK4, HO_60, BK213, BK224, HB⟩ := hrel
             cases gk with
             | zero => exact absurd HA.out (by simp [laws_FnMountsOrder.l1])
             | succ k4 =>
              have H := HA.out
              clear HA
              simp only [laws_FnMountsOrder.l1] at H
              by_cases c37 : x9_4 < (l0.length : Int)
              ·rw [if_pos c37] at H
               have c37b0 : decide (x9_4 < (l0.length : Int)) = true := decide_eq_true c37
               clear c37
               by_cases c38 : 0 ≤ x9_4
               ·rw [if_pos c38] at H
                have c38b0 : decide (0 ≤ x9_4) = true := decide_eq_true c38
                clear c38
                by_cases c39 : (!(((rd_T23 l0 x9_4).f0) == ((rd_T23 t218 x62_3).f0)) || (!(((rd_T23 l0 x9_4).f1) == ((rd_T23 t218 x62_3).f1)) || (!(((rd_T23 l0 x9_4).f2) == ((rd_T23 t218 x62_3).f2)) || (!(((rd_T23 l0 x9_4).f3) == ((rd_T23 t218 x62_3).f3)) || (!((((rd_T23 l0 x9_4).f4).toList) == ((rd_T23 t218 x62_3).f4).toList) || (!((((rd_T23 l0 x9_4).f5).toList) == ((rd_T23 t218 x62_3).f5).toList) || (!((((rd_T23 l0 x9_4).f6).toList) == ((rd_T23 t218 x62_3).f6).toList) || (!((((rd_T23 l0 x9_4).f7).toList) == ((rd_T23 t218 x62_3).f7).toList) || (!((((rd_T23 l0 x9_4).f8).toList) == ((rd_T23 t218 x62_3).f8).toList) || (!((((rd_T23 l0 x9_4).f9).toList) == ((rd_T23 t218 x62_3).f9).toList) || (!((((rd_T23 l0 x9_4).f10).toList) == ((rd_T23 t218 x62_3).f10).toList)))))))))))) = true
                ·rw [if_pos c39] at H
                 have c39b0 : (!(((rd_T23 l0 x9_4).f0) == ((rd_T23 t218 x62_3).f0)) || (!(((rd_T23 l0 x9_4).f1) == ((rd_T23 t218 x62_3).f1)) || (!(((rd_T23 l0 x9_4).f2) == ((rd_T23 t218 x62_3).f2)) || (!(((rd_T23 l0 x9_4).f3) == ((rd_T23 t218 x62_3).f3)) || (!((((rd_T23 l0 x9_4).f4).toList) == ((rd_T23 t218 x62_3).f4).toList) || (!((((rd_T23 l0 x9_4).f5).toList) == ((rd_T23 t218 x62_3).f5).toList) || (!((((rd_T23 l0 x9_4).f6).toList) == ((rd_T23 t218 x62_3).f6).toList) || (!((((rd_T23 l0 x9_4).f7).toList) == ((rd_T23 t218 x62_3).f7).toList) || (!((((rd_T23 l0 x9_4).f8).toList) == ((rd_T23 t218 x62_3).f8).toList) || (!((((rd_T23 l0 x9_4).f9).toList) == ((rd_T23 t218 x62_3).f9).toList) || (!((((rd_T23 l0 x9_4).f10).toList) == ((rd_T23 t218 x62_3).f10).toList)))))))))))) = true := c39
                 clear c39
                 have H' := Aside0.mk H
                 clear H
                 have p225 : 0 ≤ (x9_4 : Int) := of_decide_eq_true (by first | (with_reducible assumption) | assumption)
                 have q225 : x9_4 < (l0.length : Int) := of_decide_eq_true (by first | (with_reducible assumption) | assumption)
                 obtain ⟨ad225, e225, hx225_0, hx225_1, hx225_2, hx225_3, hx225_4, hx225_5, hx225_6, hx225_7, hx225_8, hx225_9, hx225_10⟩ := at_T23 HR0.out x9_4 p225 q225
                 cases e225
                 replace hx225_0 := (HB.out.cell (World.block_lt_of_cell? w _ hx225_0)).trans hx225_0
                 replace hx225_1 := (HB.out.cell (World.block_lt_of_cell? w _ hx225_1)).trans hx225_1
                 replace hx225_2 := (HB.out.cell (World.block_lt_of_cell? w _ hx225_2)).trans hx225_2
                 replace hx225_3 := (HB.out.cell (World.block_lt_of_cell? w _ hx225_3)).trans hx225_3
                 replace hx225_4 := (HB.out.cell (World.block_lt_of_cell? w _ hx225_4)).trans hx225_4
                 replace hx225_5 := (HB.out.cell (World.block_lt_of_cell? w _ hx225_5)).trans hx225_5
                 replace hx225_6 := (HB.out.cell (World.block_lt_of_cell? w _ hx225_6)).trans hx225_6
                 replace hx225_7 := (HB.out.cell (World.block_lt_of_cell? w _ hx225_7)).trans hx225_7
                 replace hx225_8 := (HB.out.cell (World.block_lt_of_cell? w _ hx225_8)).trans hx225_8
                 replace hx225_9 := (HB.out.cell (World.block_lt_of_cell? w _ hx225_9)).trans hx225_9
                 replace hx225_10 := (HB.out.cell (World.block_lt_of_cell? w _ hx225_10)).trans hx225_10
                 replace p225 := eq_true p225
                 replace q225 := eq_true q225
                 have hnb40 := NB224_213.out
                 have hnc40 := NB213_224.out
                 obtain ⟨hcz41_0, hcz41_1, hcz41_2, hcz41_3, hcz41_4, hcz41_5, hcz41_6, hcz41_7, hcz41_8, hcz41_9, hcz41_10, hfz41_0, hfz41_1, hfz41_2, hfz41_3, hfz41_4, hfz41_5, hfz41_6, hfz41_7, hfz41_8, hfz41_9, hfz41_10⟩ := rows11 (w := wr) BK224
                 go_wp2
                 repeat (go_quiet (fail); try go_wp2)
                 go_roundg k4
                 case measure => have := HJ2.out; have := HJ13.out; have := HK3.out; have := HK4.out; omega
                 case rel => exact ⟨(wrap64 (x9_4 + 1)), (by first | rfl | (simp; done) | (simp [*]; done) | (simp [bne_nil]; done) | (simp [bne_nil, *]; done)), H', ⟨by have := HJ2.out; have := HJ13.out; have := HK3.out; have := HK4.out; omega⟩, ⟨by (with_reducible repeat (first | apply Kd.R_alloc | apply Kd.R_drewN | apply Kd.R_drew)); exact HO_60.out⟩, ⟨by refine bY ?_; exact BK213.out⟩, ⟨by refine bY ?_; exact BK224.out⟩, ⟨by repeat (first | (with_reducible first | exact HB.out | apply below_alloc | apply pw_below_drewN | apply below_drew1 | refine below_set ?_ GE213.out | refine below_set ?_ GE224.out) | exact HB.out)⟩⟩
                ·rw [if_neg c39] at H
                 have c39b0 : (!(((rd_T23 l0 x9_4).f0) == ((rd_T23 t218 x62_3).f0)) || (!(((rd_T23 l0 x9_4).f1) == ((rd_T23 t218 x62_3).f1)) || (!(((rd_T23 l0 x9_4).f2) == ((rd_T23 t218 x62_3).f2)) || (!(((rd_T23 l0 x9_4).f3) == ((rd_T23 t218 x62_3).f3)) || (!((((rd_T23 l0 x9_4).f4).toList) == ((rd_T23 t218 x62_3).f4).toList) || (!((((rd_T23 l0 x9_4).f5).toList) == ((rd_T23 t218 x62_3).f5).toList) || (!((((rd_T23 l0 x9_4).f6).toList) == ((rd_T23 t218 x62_3).f6).toList) || (!((((rd_T23 l0 x9_4).f7).toList) == ((rd_T23 t218 x62_3).f7).toList) || (!((((rd_T23 l0 x9_4).f8).toList) == ((rd_T23 t218 x62_3).f8).toList) || (!((((rd_T23 l0 x9_4).f9).toList) == ((rd_T23 t218 x62_3).f9).toList) || (!((((rd_T23 l0 x9_4).f10).toList) == ((rd_T23 t218 x62_3).f10).toList)))))))))))) = false := by simpa using c39
                 clear c39
                 by_cases c42 : x9_4 = (l0.length : Int)
                 ·rw [if_pos c42] at H
                  have c42b0 : (x9_4 == (l0.length : Int)) = true := beq_iff_eq.mpr c42
                  have c42b1 : (x9_4 != (l0.length : Int)) = false := bne_eq_false_iff_eq.mpr c42
                  clear c42
                  obtain rfl := Option.some.inj H
                  have p225 : 0 ≤ (x9_4 : Int) := of_decide_eq_true (by first | (with_reducible assumption) | assumption)
                  have q225 : x9_4 < (l0.length : Int) := of_decide_eq_true (by first | (with_reducible assumption) | assumption)
                  obtain ⟨ad225, e225, hx225_0, hx225_1, hx225_2, hx225_3, hx225_4, hx225_5, hx225_6, hx225_7, hx225_8, hx225_9, hx225_10⟩ := at_T23 HR0.out x9_4 p225 q225
                  cases e225
                  replace hx225_0 := (HB.out.cell (World.block_lt_of_cell? w _ hx225_0)).trans hx225_0
                  replace hx225_1 := (HB.out.cell (World.block_lt_of_cell? w _ hx225_1)).trans hx225_1
                  replace hx225_2 := (HB.out.cell (World.block_lt_of_cell? w _ hx225_2)).trans hx225_2
                  replace hx225_3 := (HB.out.cell (World.block_lt_of_cell? w _ hx225_3)).trans hx225_3
                  replace hx225_4 := (HB.out.cell (World.block_lt_of_cell? w _ hx225_4)).trans hx225_4
                  replace hx225_5 := (HB.out.cell (World.block_lt_of_cell? w _ hx225_5)).trans hx225_5
                  replace hx225_6 := (HB.out.cell (World.block_lt_of_cell? w _ hx225_6)).trans hx225_6
                  replace hx225_7 := (HB.out.cell (World.block_lt_of_cell? w _ hx225_7)).trans hx225_7
                  replace hx225_8 := (HB.out.cell (World.block_lt_of_cell? w _ hx225_8)).trans hx225_8
                  replace hx225_9 := (HB.out.cell (World.block_lt_of_cell? w _ hx225_9)).trans hx225_9
                  replace hx225_10 := (HB.out.cell (World.block_lt_of_cell? w _ hx225_10)).trans hx225_10
                  replace p225 := eq_true p225
                  replace q225 := eq_true q225
                  have hnb43 := NB224_213.out
                  have hnc43 := NB213_224.out
                  obtain ⟨hcz44_0, hcz44_1, hcz44_2, hcz44_3, hcz44_4, hcz44_5, hcz44_6, hcz44_7, hcz44_8, hcz44_9, hcz44_10, hfz44_0, hfz44_1, hfz44_2, hfz44_3, hfz44_4, hfz44_5, hfz44_6, hfz44_7, hfz44_8, hfz44_9, hfz44_10⟩ := rows11 (w := wr) BK224
                  go_wp2
                  repeat (go_quiet (fail); try go_wp2)
                  go_ret
                  exact ⟨by first | rfl | (simp [errW_none, errW_some] <;> rfl) | (simp [*, errW_none, errW_some] <;> rfl), by repeat (first | (with_reducible first | exact HB.out | apply below_alloc | apply pw_below_drewN | apply below_drew1 | refine below_set ?_ GE213.out | refine below_set ?_ GE224.out) | exact HB.out)⟩
                 ·rw [if_neg c42] at H
                  have c42b0 : (x9_4 == (l0.length : Int)) = false := beq_eq_false_iff_ne.mpr c42
                  have c42b1 : (x9_4 != (l0.length : Int)) = true := bne_iff_ne.mpr c42
                  have H' := Aside0.mk H
                  clear H
                  have p225 : 0 ≤ (x9_4 : Int) := of_decide_eq_true (by first | (with_reducible assumption) | assumption)
                  have q225 : x9_4 < (l0.length : Int) := of_decide_eq_true (by first | (with_reducible assumption) | assumption)
                  obtain ⟨ad225, e225, hx225_0, hx225_1, hx225_2, hx225_3, hx225_4, hx225_5, hx225_6, hx225_7, hx225_8, hx225_9, hx225_10⟩ := at_T23 HR0.out x9_4 p225 q225
                  cases e225
                  replace hx225_0 := (HB.out.cell (World.block_lt_of_cell? w _ hx225_0)).trans hx225_0
                  replace hx225_1 := (HB.out.cell (World.block_lt_of_cell? w _ hx225_1)).trans hx225_1
                  replace hx225_2 := (HB.out.cell (World.block_lt_of_cell? w _ hx225_2)).trans hx225_2
                  replace hx225_3 := (HB.out.cell (World.block_lt_of_cell? w _ hx225_3)).trans hx225_3
                  replace hx225_4 := (HB.out.cell (World.block_lt_of_cell? w _ hx225_4)).trans hx225_4
                  replace hx225_5 := (HB.out.cell (World.block_lt_of_cell? w _ hx225_5)).trans hx225_5
                  replace hx225_6 := (HB.out.cell (World.block_lt_of_cell? w _ hx225_6)).trans hx225_6
                  replace hx225_7 := (HB.out.cell (World.block_lt_of_cell? w _ hx225_7)).trans hx225_7
                  replace hx225_8 := (HB.out.cell (World.block_lt_of_cell? w _ hx225_8)).trans hx225_8
                  replace hx225_9 := (HB.out.cell (World.block_lt_of_cell? w _ hx225_9)).trans hx225_9
                  replace hx225_10 := (HB.out.cell (World.block_lt_of_cell? w _ hx225_10)).trans hx225_10
                  replace p225 := eq_true p225
                  replace q225 := eq_true q225
                  have hnb45 := NB224_213.out
                  have hnc45 := NB213_224.out
                  obtain ⟨hcz46_0, hcz46_1, hcz46_2, hcz46_3, hcz46_4, hcz46_5, hcz46_6, hcz46_7, hcz46_8, hcz46_9, hcz46_10, hfz46_0, hfz46_1, hfz46_2, hfz46_3, hfz46_4, hfz46_5, hfz46_6, hfz46_7, hfz46_8, hfz46_9, hfz46_10⟩ := rows11 (w := wr) BK224
                  go_wp2
                  repeat (go_quiet (fail); try go_wp2)
                  go_roundg k4
                  case measure => have := HJ2.out; have := HJ13.out; have := HK3.out; have := HK4.out; omega
                  case rel => exact ⟨(wrap64 (x9_4 + 1)), (wrap64 (x62_3 + 1)), (by first | rfl | (simp; done) | (simp [*]; done) | (simp [bne_nil]; done) | (simp [bne_nil, *]; done)), (by first | rfl | (simp; done) | (simp [*]; done) | (simp [bne_nil]; done) | (simp [bne_nil, *]; done)), H', ⟨by have := HJ2.out; have := HJ13.out; have := HK3.out; have := HK4.out; omega⟩, ⟨by (with_reducible repeat (first | apply Kd.R_alloc | apply Kd.R_drewN | apply Kd.R_drew)); exact Kd.R_mono HO_60.out (fun _ hk => trivial)⟩, ⟨by refine bY ?_; exact BK213.out⟩, ⟨by repeat (first | (with_reducible first | exact HB.out | apply below_alloc | apply pw_below_drewN | apply below_drew1 | refine below_set ?_ GE213.out | refine below_set ?_ GE224.out) | exact HB.out)⟩⟩
               ·rw [if_neg c38] at H
                exact absurd H (by simp)
              ·rw [if_neg c37] at H
               have c37b0 : decide (x9_4 < (l0.length : Int)) = false := decide_eq_false c37
               clear c37
               by_cases c47 : x9_4 = (l0.length : Int)
               ·rw [if_pos c47] at H
                have c47b0 : (x9_4 == (l0.length : Int)) = true := beq_iff_eq.mpr c47
                have c47b1 : (x9_4 != (l0.length : Int)) = false := bne_eq_false_iff_eq.mpr c47
                clear c47
                obtain rfl := Option.some.inj H
                go_wp2
                repeat (go_quiet (fail); try go_wp2)
                go_ret
                exact ⟨by first | rfl | (simp [errW_none, errW_some] <;> rfl) | (simp [*, errW_none, errW_some] <;> rfl), by repeat (first | (with_reducible first | exact HB.out | apply below_alloc | apply pw_below_drewN | apply below_drew1 | refine below_set ?_ GE213.out | refine below_set ?_ GE224.out) | exact HB.out)⟩
               ·rw [if_neg c47] at H
                have c47b0 : (x9_4 == (l0.length : Int)) = false := beq_eq_false_iff_ne.mpr c47
                have c47b1 : (x9_4 != (l0.length : Int)) = true := bne_iff_ne.mpr c47
                have H' := Aside0.mk H
                clear H
                go_wp2
                repeat (go_quiet (fail); try go_wp2)
                go_roundg k4
                case measure => have := HJ2.out; have := HJ13.out; have := HK3.out; have := HK4.out; omega
                case rel => exact ⟨(wrap64 (x9_4 + 1)), (wrap64 (x62_3 + 1)), (by first | rfl | (simp; done) | (simp [*]; done) | (simp [bne_nil]; done) | (simp [bne_nil, *]; done)), (by first | rfl | (simp; done) | (simp [*]; done) | (simp [bne_nil]; done) | (simp [bne_nil, *]; done)), H', ⟨by have := HJ2.out; have := HJ13.out; have := HK3.out; have := HK4.out; omega⟩, ⟨by (with_reducible repeat (first | apply Kd.R_alloc | apply Kd.R_drewN | apply Kd.R_drew)); exact Kd.R_mono HO_60.out (fun _ hk => trivial)⟩, ⟨by refine bY ?_; exact BK213.out⟩, ⟨by repeat (first | (with_reducible first | exact HB.out | apply below_alloc | apply pw_below_drewN | apply below_drew1 | refine below_set ?_ GE213.out | refine below_set ?_ GE224.out) | exact HB.out)⟩⟩
           ·rw [if_neg c33] at H
            exact absurd H (by simp)
          ·rw [if_neg c32] at H
           exact absurd H (by simp)
         ·rw [if_neg c31] at H
          have c31b0 : decide (x62_3 < (t218.length : Int)) = false := decide_eq_false c31
          clear c31
          by_cases c48 : t221 = 0
          ·rw [if_pos c48] at H
           have c48b0 : (t221 == 0) = true := beq_iff_eq.mpr c48
           have c48b1 : (t221 != 0) = false := bne_eq_false_iff_eq.mpr c48
           clear c48
           replace H := Option.bind_eq_some_iff.mp H
           obtain ⟨t222, A490, H⟩ := H
           have A49 := Aside0.mk A490
           clear A490
           obtain rfl := Option.some.inj H
           go_wp2_with (first | (go_at_call 10; (with_reducible refine (laws_mounts.calls  t222 _ A49.out).mono ?_); rintro e w50 ⟨rfl, hb⟩; have n0_ := Aside0.mk (Kd.R_below (by (with_reducible repeat (first | apply Kd.R_alloc | apply Kd.R_drewN | apply Kd.R_drew)); exact HO_60.out) hb); have n1_ := Aside0.mk (blk_below (g := gb213) (o := .cells #[.int .i64 a1_0, .slice A1_1 l1_1.length c1_1] 33 (0, 0)) (by refine bY ?_; exact BK213.out) hb); have n2_ := Aside0.mk (below_step belS hb); clear HO_60; clear BK213; clear HB; have HO_60 := n0_; have BK213 := n1_; have HB := n2_; clear n0_ n1_ n2_; (try clear hb); (try clear hb2); (try clear hk); (try clear hi)))
           repeat (go_quiet (first | (go_at_call 10; (with_reducible refine (laws_mounts.calls  t222 _ A49.out).mono ?_); rintro e w50 ⟨rfl, hb⟩; have n0_ := Aside0.mk (Kd.R_below (by (with_reducible repeat (first | apply Kd.R_alloc | apply Kd.R_drewN | apply Kd.R_drew)); exact HO_60.out) hb); have n1_ := Aside0.mk (blk_below (g := gb213) (o := .cells #[.int .i64 a1_0, .slice A1_1 l1_1.length c1_1] 33 (0, 0)) (by refine bY ?_; exact BK213.out) hb); have n2_ := Aside0.mk (below_step belS hb); clear HO_60; clear BK213; clear HB; have HO_60 := n0_; have BK213 := n1_; have HB := n2_; clear n0_ n1_ n2_; (try clear hb); (try clear hb2); (try clear hk); (try clear hi))); try go_wp2_with (first | (go_at_call 10; (with_reducible refine (laws_mounts.calls  t222 _ A49.out).mono ?_); rintro e w50 ⟨rfl, hb⟩; have n0_ := Aside0.mk (Kd.R_below (by (with_reducible repeat (first | apply Kd.R_alloc | apply Kd.R_drewN | apply Kd.R_drew)); exact HO_60.out) hb); have n1_ := Aside0.mk (blk_below (g := gb213) (o := .cells #[.int .i64 a1_0, .slice A1_1 l1_1.length c1_1] 33 (0, 0)) (by refine bY ?_; exact BK213.out) hb); have n2_ := Aside0.mk (below_step belS hb); clear HO_60; clear BK213; clear HB; have HO_60 := n0_; have BK213 := n1_; have HB := n2_; clear n0_ n1_ n2_; (try clear hb); (try clear hb2); (try clear hk); (try clear hi))))
           go_ret
           exact ⟨by first | rfl | (simp [errW_none, errW_some] <;> rfl) | (simp [*, errW_none, errW_some] <;> rfl), by repeat (first | (with_reducible first | exact HB.out | apply below_alloc | apply pw_below_drewN | apply below_drew1 | refine below_set ?_ GE213.out) | exact HB.out)⟩
          ·rw [if_neg c48] at H
           have c48b0 : (t221 == 0) = false := beq_eq_false_iff_ne.mpr c48
           have c48b1 : (t221 != 0) = true := bne_iff_ne.mpr c48
           obtain rfl := Option.some.inj H
           go_wp2
           repeat (go_quiet (fail); try go_wp2)
           go_ret
           exact ⟨by first | rfl | (simp [errW_none, errW_some] <;> rfl) | (simp [*, errW_none, errW_some] <;> rfl), by repeat (first | (with_reducible first | exact HB.out | apply below_alloc | apply pw_below_drewN | apply below_drew1 | refine below_set ?_ GE213.out) | exact HB.out)⟩

end Go.Proofs.YtokojamaigebaaaDoor.L
