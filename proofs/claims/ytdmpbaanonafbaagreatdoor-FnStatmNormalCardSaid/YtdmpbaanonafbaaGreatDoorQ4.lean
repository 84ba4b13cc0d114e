-- written by a program of this session (wip/tools/pp.py)
import Derived.Test.YtdmpbaanonafbaaGreatDoorQ0
import Derived.Test.YtdmpbaanonafbaaGreatDoorQ2
import Derived.Test.YtdmpbaanonafbaaGreatDoorQ3
namespace Go.Proofs.YtdmpbaanonafbaaGreatDoor.Q
open Go.RowKit Go.Proofs.YtdmpbaanonafbaaGreatDoorW.PrintWords Go.Proofs.YtdmpbaanonafbaaGreatDoorW.PrintLast Go.Proofs.YtdmpbaanonafbaaGreatDoor.Flt Go.Proofs.YtdmpbaanonafbaaGreatDoor.GivZ Go.Proofs.YtdmpbaanonafbaaGreatDoor.E Go.Proofs.YtdmpbaanonafbaaGreatDoor.DoorStatm Go.Proofs.YtdmpbaanonafbaaGreatDoor.Lives Go.Proofs.YtdmpbaanonafbaaGreatDoorW.PrintMore
attribute [local go_sem] max2_int min2_int max_two min_two max_three min_three max_four min_four   -- for this text's walks alone
set_option linter.unusedVariables false
set_option linter.unusedSimpArgs false

/-! ### spec_StatmRead: function 18 -/
def spec_StatmRead.f (k : Nat) (a0 : ByteArray) : Option ((List (S48)) × Bool × Int) := (spec_single.f k a0).bind fun t151 => ((spec_Fields.f k t151).bind fun t152 => ((spec_decimals.f k t152).bind fun bt155 => ((spec_meant__StatmPrint.f k a0 (([(⟨(⟨#[]⟩ : ByteArray), bt155.1, ([] : List ByteArray)⟩ : S48)] : List (S48))) bt155.2 false).bind fun bt162 => (some (bt162.1, bt162.2.1, bt162.2.2)))))
theorem spec_StatmRead.mono : ∀ a0 k, LeO (spec_StatmRead.f k a0) (spec_StatmRead.f (k + 1) a0) := by
 intro a0 k
 unfold spec_StatmRead.f
 repeat' first
   | (with_reducible exact spec_Fields.mono _ _)
   | (with_reducible exact spec_decimals.mono _ _)
   | (with_reducible exact spec_meant__StatmPrint.mono _ _ _ _ _)
   | (with_reducible exact spec_single.mono _ _)
   | (with_reducible exact LeO.refl _)
   | (with_reducible exact LeO.none _)
   | (with_reducible refine LeO.ite ?_ ?_)
   | (with_reducible refine LeO.bind ?_ (fun _ => ?_))
   | exact spec_Fields.mono _ _
   | exact spec_decimals.mono _ _
   | exact spec_meant__StatmPrint.mono _ _ _ _ _
   | exact spec_single.mono _ _
   | exact LeO.none _
   | refine LeO.ite ?_ ?_
   | refine LeO.bind ?_ (fun _ => ?_)
set_option maxHeartbeats 8000000 in
set_option maxRecDepth 100000 in
theorem spec_StatmRead.calls (k : Nat) (a0 : ByteArray) (r1 : List (S48)) (r2 : Bool) (r3 : Int) (w : World) (h : spec_StatmRead.f k a0 = some (r1, r2, r3)) :
  Calls Tryz.prog 18 #[.string a0] w fun e w' => ∃ v0_ : Value, e = .returned (.tuple #[v0_, .bool r2, .int .i64 r3]) ∧ Kd.V k48 48 w' w.heap.size (fun k_ => (w.heap.size ≤ k_)) v0_ r1 ∧ Below w.heap.size w w' := by
 have hu48 := Tryz.underlying48
 have HB := Aside0.mk (Below.refl w.heap.size w)
 have H : ((spec_single.f k a0).bind fun t151 => ((spec_Fields.f k t151).bind fun t152 => ((spec_decimals.f k t152).bind fun bt155 => ((spec_meant__StatmPrint.f k a0 (([(⟨(⟨#[]⟩ : ByteArray), bt155.1, ([] : List ByteArray)⟩ : S48)] : List (S48))) bt155.2 false).bind fun bt162 => (some (bt162.1, bt162.2.1, bt162.2.2)))))) = some (r1, r2, r3) := h
 clear h
 replace H := Option.bind_eq_some_iff.mp H
 obtain ⟨t151, A20, H⟩ := H
 replace H : ((spec_Fields.f k t151).bind fun t152 => ((spec_decimals.f k t152).bind fun bt155 => ((spec_meant__StatmPrint.f k a0 (([(⟨(⟨#[]⟩ : ByteArray), bt155.1, ([] : List ByteArray)⟩ : S48)] : List (S48))) bt155.2 false).bind fun bt162 => (some (bt162.1, bt162.2.1, bt162.2.2))))) = some (r1, r2, r3) := H
 have A2 := Aside0.mk A20
 clear A20
 replace H := Option.bind_eq_some_iff.mp H
 obtain ⟨t152, A30, H⟩ := H
 replace H : ((spec_decimals.f k t152).bind fun bt155 => ((spec_meant__StatmPrint.f k a0 (([(⟨(⟨#[]⟩ : ByteArray), bt155.1, ([] : List ByteArray)⟩ : S48)] : List (S48))) bt155.2 false).bind fun bt162 => (some (bt162.1, bt162.2.1, bt162.2.2)))) = some (r1, r2, r3) := H
 have A3 := Aside0.mk A30
 clear A30
 replace H := Option.bind_eq_some_iff.mp H
 obtain ⟨⟨t155, t156⟩, A40, H⟩ := H
 replace H : ((spec_meant__StatmPrint.f k a0 (([(⟨(⟨#[]⟩ : ByteArray), t155, ([] : List ByteArray)⟩ : S48)] : List (S48))) t156 false).bind fun bt162 => (some (bt162.1, bt162.2.1, bt162.2.2))) = some (r1, r2, r3) := H
 have A4 := Aside0.mk A40
 clear A40
 obtain ⟨y159, hy159⟩ : ∃ y_ : List (S48), y_ = (([(⟨(⟨#[]⟩ : ByteArray), t155, ([] : List ByteArray)⟩ : S48)] : List (S48))) := ⟨_, rfl⟩
 replace H : ((spec_meant__StatmPrint.f k a0 y159 t156 false).bind fun bt162 => (some (bt162.1, bt162.2.1, bt162.2.2))) = some (r1, r2, r3) := by first | (rw [hy159]; with_reducible exact H) | (have H2_ := (Option.bind_some _ _).symm.trans H; rw [hy159]; with_reducible exact H2_) | (have H2_ := (Option.bind_some _ _).symm.trans H; with_reducible exact H2_) | with_reducible exact H | (rw [hy159]; exact H) | exact H
 have Ny159 := Aside0.mk hy159
 clear hy159
 replace H := Option.bind_eq_some_iff.mp H
 obtain ⟨⟨t162, t165, t166⟩, A50, H⟩ := H
 replace H : (some (t162, t165, t166)) = some (r1, r2, r3) := H
 have A5 := Aside0.mk A50
 clear A50
 simp only [Option.some.injEq, Prod.mk.injEq] at H
 obtain ⟨rfl, rfl, rfl⟩ := H
 go_enter Tryz.func18, Tryz.ntmps18
 go_wp2_with (first | ((with_reducible refine gate_callee (f := 40) rfl ?_); refine goesL_ (some 9) rfl rfl Tryz.func40 (by kernel_rfl) rfl #[.string a0] rfl (by (try simp only [List.map_toArray, List.map_cons, List.map_nil]); first | done | rfl | (simp only [List.length_drop, List.length_take]; rfl)) ?_; (with_reducible refine (spec_single.calls k a0 t151 _ A2.out).mono ?_); rintro e w6 ⟨rfl, hb⟩; refine ⟨_, rfl, ?_⟩; have n0_ := Aside0.mk (below_step belH hb); clear HB; have HB := n0_; clear n0_; (try clear hb); (try clear hb2); (try clear hk); (try clear hi)) | ((with_reducible refine gate_callee (f := 39) rfl ?_); refine goesL_ (some 10) rfl rfl Tryz.func39 (by kernel_rfl) rfl #[.string t151] rfl (by (try simp only [List.map_toArray, List.map_cons, List.map_nil]); first | done | rfl | (simp only [List.length_drop, List.length_take]; rfl)) ?_; (with_reducible refine (spec_Fields.calls k t151 t152 _ A3.out).mono ?_); rintro e w7 ⟨v153, rfl, ho0, hb⟩; refine ⟨_, rfl, ?_⟩; have n0_ := Aside0.mk (Kd.R_lower (Kd.R_newM (M := fun k_ => (w.heap.size ≤ k_)) ho0 (below_size belH) (fun k_ h_ => h_)) (below_size belH)); have n1_ := Aside0.mk (below_step belH hb); clear HB; have HO154 := n0_; have HB := n1_; clear n0_ n1_; (try clear hb); (try clear hb2); (try clear hk); (try clear hi); (try clear ho0); obtain ⟨Ao8, co8, eo8⟩ := Kd.R_slice HO154.out; subst eo8) | ((with_reducible refine gate_callee (f := 43) rfl ?_); refine goesL_ (some 11) rfl rfl Tryz.func43 (by kernel_rfl) rfl #[.slice Ao8 t152.length co8] rfl (by (try simp only [List.map_toArray, List.map_cons, List.map_nil]); first | done | rfl | (simp only [List.length_drop, List.length_take]; rfl)) ?_; (with_reducible refine (spec_decimals.calls k _ _ t152 t155 t156 _ ?side1 ?side2 A4.out).mono ?_); (case side1 => repeat (first | exact (Kd.R_reads' HO154.out).2.2 | (with_reducible refine Kd.C_alloc ?_ _) | (with_reducible refine Kd.C_drewN ?_ _) | (with_reducible refine Kd.C_drew ?_))); (case side2 => exact (Kd.R_reads' HO154.out).2.1); rintro e w9 ⟨v157, rfl, ho0, hb⟩; refine ⟨_, rfl, ?_⟩; have n0_ := Aside0.mk (Kd.R_below (by (with_reducible repeat (first | apply Kd.R_alloc | apply Kd.R_drewN | apply Kd.R_drew)); exact HO154.out) hb); have n1_ := Aside0.mk (Kd.R_lower (Kd.R_newM (M := fun k_ => (w.heap.size ≤ k_)) ho0 (below_size belH) (fun k_ h_ => h_)) (below_size belH)); have n2_ := Aside0.mk (below_step belH hb); clear HO154; clear HB; have HO154 := n0_; have HO158 := n1_; have HB := n2_; clear n0_ n1_ n2_; (try clear hb); (try clear hb2); (try clear hk); (try clear hi); (try clear ho0); obtain ⟨Ao10, co10, eo10⟩ := Kd.R_slice HO158.out; subst eo10) | ((with_reducible refine gate_dst (N := 17) rfl ?_); refine Kd.N_lit k48 _ 48 ?hg (N' := 17) ?hd (xs := ([(⟨(⟨#[]⟩ : ByteArray), t155, ([] : List ByteArray)⟩ : S48)] : List (S48))) (inner := [.string (⟨#[]⟩ : ByteArray), .slice Ao10 t155.length co10, .slice none 0 0]) (ok := (fun k_ => (w.heap.size ≤ k_) ∧ some k_ ≠ (.slice Ao8 t152.length co8 : Value).ownBlock)) (okp := (fun k_ => (w.heap.size ≤ k_) ∧ some k_ ≠ (.slice Ao8 t152.length co8 : Value).ownBlock)) ?hr ?hp (fun _ hk => hk) ((show ∀ k_, w9.heap.size ≤ k_ → (fun k_ => (w.heap.size ≤ k_) ∧ some k_ ≠ (.slice Ao8 t152.length co8 : Value).ownBlock) k_ from fun k_ hk => ⟨(Nat.le_trans (below_size belH) hk), Kd.fresh' (Kd.R_lt (by (with_reducible repeat (first | apply Kd.R_alloc | apply Kd.R_drewN | apply Kd.R_drew)); exact HO154.out)) k_ hk⟩) _ (Nat.le_refl _)) (Below.refl _ _) (Nat.le_refl _) (by simp) ?_; (case hd => rfl); (case hg => rfl); (case hr => first | (go_simp; done) | (go_simp; rfl)); (case hp => exact (Reps.c3 (show Kd.FK k48 _ _ (⟨(⟨#[]⟩ : ByteArray), t155, ([] : List ByteArray)⟩ : S48) [.string (⟨#[]⟩ : ByteArray), .slice Ao10 t155.length co10, .slice none 0 0] from (k48_mkF _ _ (⟨(⟨#[]⟩ : ByteArray), t155, ([] : List ByteArray)⟩ : S48) (Kd.R_reads' (Kd.R_mono (ok' := (fun k_ => (w.heap.size ≤ k_) ∧ some k_ ≠ (.slice Ao8 t152.length co8 : Value).ownBlock)) (Kd.R_apart' (HO158.out) (Kd.R_typed HO154.out) (by decide)) (fun k_ hk => ⟨hk.1.1, hk.2⟩))).2.1 (Kd.R_F (Kd.R_mono (ok' := (fun k_ => (w.heap.size ≤ k_) ∧ some k_ ≠ (.slice Ao8 t152.length co8 : Value).ownBlock)) (Kd.R_apart' (HO158.out) (Kd.R_typed HO154.out) (by decide)) (fun k_ hk => ⟨hk.1.1, hk.2⟩))) (Nat.le_refl _) (Kd.F_nil _ _ _))) (Reps.none _ _))); intro v160 w11 ho12 hb hg_ hnew_; clear hg_ hnew_; (first | rw [← Ny159.out] at ho12 | (simp only [Int.reduceToNat] at ho12; rw [← Ny159.out] at ho12)); have n0_ := Aside0.mk (Kd.R_below (by (with_reducible repeat (first | apply Kd.R_alloc | apply Kd.R_drewN | apply Kd.R_drew)); exact HO154.out) hb); have n1_ := Aside0.mk (Kd.N_lower ho12 (below_size belH)); have n2_ := Aside0.mk (below_step belH hb); clear HO154; clear HB; clear HO158; have HO154 := n0_; have HO161 := n1_; have HB := n2_; clear n0_ n1_ n2_; clear hb ho12; obtain ⟨Ao13, co13, eo13⟩ := Kd.N_slice HO161.out; subst eo13) | ((with_reducible refine gate_callee (f := 44) rfl ?_); refine goesL_ (some 19) rfl rfl Tryz.func44 (by kernel_rfl) rfl #[.string a0, .slice Ao13 y159.length co13, .bool t156, .func (.func 19) #[] #[], .bool false] rfl (by (try simp only [List.map_toArray, List.map_cons, List.map_nil]); first | done | rfl | (simp only [List.length_drop, List.length_take]; rfl)) ?_; (with_reducible refine (spec_meant__StatmPrint.calls k a0 (fun k_ => ((w.heap.size ≤ k_) ∧ some k_ ≠ (.slice Ao8 t152.length co8 : Value).ownBlock)) _ _ y159 t156  false t162 t165 t166 _ ?side1 A5.out).mono ?_); (case side1 => exact Kd.N_V (HO161.out)); rintro e w14 ⟨v163, rfl, ho0, hb⟩; refine ⟨_, rfl, ?_⟩; have n0_ := Aside0.mk (Kd.R_below (by (with_reducible repeat (first | apply Kd.R_alloc | apply Kd.R_drewN | apply Kd.R_drew)); exact HO154.out) hb); have n1_ := Aside0.mk (Kd.N_below (by (with_reducible repeat (first | apply Kd.N_alloc | apply Kd.N_drewN | apply Kd.N_drew)); exact HO161.out) hb); have n2_ := Aside0.mk (Kd.V_lower (Kd.V_mono (ok' := fun k_ => (w.heap.size ≤ k_) ∧ some k_ ≠ (.slice Ao8 t152.length co8 : Value).ownBlock) ho0 (fun k_ hk_ => ⟨Or.elim hk_ (fun hs_ => hs_.1) (fun hn_ => (Nat.le_trans (below_size belH) hn_)), Or.elim hk_ (fun hs_ => hs_.2) (fun hn_ => (Kd.fresh' (Kd.R_lt (by (with_reducible repeat (first | apply Kd.R_alloc | apply Kd.R_drewN | apply Kd.R_drew)); exact HO154.out)) k_ hn_))⟩)) (below_size belH)); have n3_ := Aside0.mk (below_step belH hb); clear HO154; clear HO161; clear HB; have HO154 := n0_; have HO161 := n1_; have HO164 := n2_; have HB := n3_; clear n0_ n1_ n2_ n3_; (try clear hb); (try clear hb2); (try clear hk); (try clear hi); (try clear ho0)))
 go_ret3
 exact ⟨_, by first | rfl | (simp [errW_none, errW_some] <;> rfl) | (simp [*, errW_none, errW_some] <;> rfl), by (with_reducible repeat (first | apply Kd.V_alloc | apply Kd.V_drewN | apply Kd.V_drew)); exact Kd.V_mono HO164.out (fun _ hk => hk.1), by repeat (first | (with_reducible first | exact HB.out | apply below_alloc | apply pw_below_drewN | apply below_drew1) | exact HB.out)⟩

end Go.Proofs.YtdmpbaanonafbaaGreatDoor.Q
