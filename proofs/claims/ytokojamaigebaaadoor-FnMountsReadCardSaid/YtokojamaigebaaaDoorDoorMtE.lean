/- impl.Mounts without a filter, of any text of moderate size: the rows and 0, or nothing and 1. -/
import Derived.Test.YtokojamaigebaaaDoorDoorMt
import Derived.Test.YtokojamaigebaaaDoorMtLoopE
set_option linter.unusedVariables false
set_option linter.unusedSimpArgs false
namespace Go.Proofs.YtokojamaigebaaaDoor.DoorMtE
open Go.RowKit Go.Proofs.YtokojamaigebaaaDoorW.PrintWords Go.Proofs.YtokojamaigebaaaDoorW.PrintLast Go.Proofs.YtokojamaigebaaaDoorW.PrintMore Go.Proofs.YtokojamaigebaaaDoor.Scan Go.Proofs.YtokojamaigebaaaDoor.ScanL Go.Proofs.YtokojamaigebaaaDoor.GivM Go.Proofs.YtokojamaigebaaaDoor.M Go.Proofs.YtokojamaigebaaaDoor.U Go.Proofs.YtokojamaigebaaaDoor.MtLoop Go.Proofs.YtokojamaigebaaaDoor.MtFilt Go.Proofs.YtokojamaigebaaaDoor.DoorMt Go.Proofs.YtokojamaigebaaaDoor.MtScan Go.Proofs.YtokojamaigebaaaDoor.MtLoopE
theorem scanE_len {β : Type} {P : ByteArray → β → Prop} {B : ByteArray → Prop} {t : ByteArray} {o : Option (List β)} (h : ScanE P B t o) : ∀ zs, o = some zs → zs.length ≤ t.size := by
  induction h with
  | done => intro zs h; obtain rfl := Option.some.inj h; exact Nat.zero_le _
  | @row t n b o hL _ _ ih =>
    intro zs h
    cases o with
    | none => cases h
    | some ys =>
      obtain rfl := Option.some.inj h
      have := ih ys rfl
      have := rest_size t n hL.hne
      rw [List.length_cons]
      omega
  | bad _ _ => intro zs h; cases h
set_option maxHeartbeats 16000000 in
set_option maxRecDepth 100000 in
theorem doorOk_is (t : ByteArray) (A : Option Addr) (c : Nat) (paths : List ByteArray) (zs : List S23) (w : World) (hr : ScanE MtL BadL t (some zs)) (hl : t.size ≤ 1000000) (hTabs : MTabs w) :
    Calls Tryd.prog 9 #[.string t, .agg #[.int .i64 0, .slice A paths.length c]] w fun e w' => ∃ v, e = .returned (.tuple #[v, .int .i64 0]) ∧ Kd.R k23 23 w' w.heap.size (fun _ => True) v zs ∧ Below w.heap.size w w' := by
  have HZL := Lib.hid (Nat.le_trans (scanE_len hr zs rfl) hl)
  have hmf : ∀ (fn : Fn) (first cap : Array Value) (w : World), (Instr.makeFunc fn first cap).run Tryd.prog w = .ok (.func fn first cap) w := fun _ _ _ _ => rfl
  have hu33 := Tryd.underlying33
  have hu59 := Tryd.underlying59
  have HR := Lib.hid hr
  have HT := Lib.hid hTabs
  have HLZ := Lib.hid hl
  clear hr hl hTabs
  have HB := Aside0.mk (Below.refl w.heap.size w)
  go_enter_defers Tryd.func9, Tryd.ntmps9
  go_upto_region 3 with (first
    | ((with_reducible refine gate_dst (N := 3) rfl ?_); refine box_event ?hg (N := 3) ?hd (cs := #[.int .i64 0, .slice A paths.length c]) (t := 33) ?hr ?_; (case hd => rfl); (case hg => rfl); (case hr => first | (go_simp; done) | (go_simp; rfl)); intro g3 hg w1 hbox hb
       have BK3 := Aside0.mk hbox
       have n0 := Aside0.mk (below_step HB.out hb); clear HB; have HB := n0; clear n0 hb hbox hg)
    | ((with_reducible refine gate_dst (N := 4) rfl ?_); refine box_event ?hg (N := 4) ?hd (cs := #[.slice none 0 0]) (t := 28) ?hr ?_; (case hd => rfl); (case hg => rfl); (case hr => first | (go_simp; done) | (go_simp; rfl)); intro g4 hg w2 hbox hb
       have BK4 := Aside0.mk hbox
       have n1 := Aside0.mk (blk_below BK3.out hb); clear BK3; have BK3 := n1; clear n1
       have GE4 := Aside0.mk (show w.heap.size ≤ g4 by rw [hg]; exact below_size HB.out)
       have n0 := Aside0.mk (below_step HB.out hb); clear HB; have HB := n0; clear n0 hb hbox hg)
    | ((with_reducible refine gate_dst (N := 5) rfl ?_); refine box_event ?hg (N := 5) ?hd (cs := #[.int .i64 0]) (t := 3) ?hr ?_; (case hd => rfl); (case hg => rfl); (case hr => first | (go_simp; done) | (go_simp; rfl)); intro g5 hg w3 hbox hb
       have BK5 := Aside0.mk hbox
       have NE := Aside0.mk (show g4 ≠ g5 by rw [hg]; exact Nat.ne_of_lt (blk_lt BK4.out))
       have n1 := Aside0.mk (blk_below BK3.out hb); clear BK3; have BK3 := n1; clear n1
       have n1 := Aside0.mk (blk_below BK4.out hb); clear BK4; have BK4 := n1; clear n1
       have GE5 := Aside0.mk (show w.heap.size ≤ g5 by rw [hg]; exact below_size HB.out)
       have n0 := Aside0.mk (below_step HB.out hb); clear HB; have HB := n0; clear n0 hb hbox hg))
  have x30 : w3.cell? ⟨g3, 0, none⟩ = some (.int .i64 0) := (blk_cell BK3.out 0).trans rfl
  have x31 : w3.cell? ⟨g3, 1, none⟩ = some (.slice A paths.length c) := (blk_cell BK3.out 1).trans rfl
  go_cut [30] from 12 to 30 (fun s30 wx => s30 = .bool false ∧ wx = w3)
  case first =>
    go_wp2_with fail
    go_meet
    exact ⟨rfl, rfl⟩
  case rest =>
    obtain ⟨rfl, hw⟩ := hcut
    obtain rfl := hw.symm
    go_upto_block 0 with fail
    go_cut [6] from 33 to 58 (fun s6 wx => s6 = .nilFunc ∧ Aside0 (Below w3.heap.size w3 wx))
    case first =>
      go_wp2_with fail
      go_meet
      exact ⟨rfl, ⟨Below.refl _ _⟩⟩
    case rest =>
      obtain ⟨rfl, hb0⟩ := hcut
      have B4 := Aside0.mk (blk_below BK4.out hb0.out)
      have B5 := Aside0.mk (blk_below BK5.out hb0.out)
      have HBc := Aside0.mk (below_step HB.out hb0.out)
      clear HB BK3 BK4 BK5 hb0 x30 x31
      go_upto_region 17 with (first
        | (go_at_call 25; refine (mtLoopE_is t (some zs) _ HR.out HLZ.out (MTabs.below HT.out HBc.out)).mono ?_; rintro e w6 ⟨v7, er, rfl, ho, hb⟩
           obtain ⟨zs1, ho1, rfl, hR⟩ : ∃ zs1, some zs = some zs1 ∧ er = .nilIface ∧ Kd.R pmnt 58 w6 _ (fun _ => True) v7 zs1 := by
             rcases ho with h | ⟨h, _⟩
             · exact h
             · cases h
           obtain rfl := Option.some.inj ho1
           have HP := Aside0.mk (Kd.R_newB hR B4.out)
           clear ho ho1 hR
           have n0 := Aside0.mk (blk_below B4.out hb); clear B4; have B4 := n0; clear n0
           have n0 := Aside0.mk (blk_below B5.out hb); clear B5; have B5 := n0; clear n0
           have n0 := Aside0.mk (below_step HBc.out hb); clear HBc; have HBc := n0; clear n0 hb))
      obtain ⟨xs, hxs⟩ : ∃ xs, zs = xs := ⟨_, rfl⟩
      have HX := Lib.hid hxs
      have hxl := Aside0.mk (show xs.length ≤ 1000000 by rw [← hxs]; exact HZL.out)
      rw [hxs] at HP
      clear hxs
      obtain ⟨A67, c67, e67⟩ := Kd.R_slice HP.out
      subst e67
      go_wp2_with fail
      go_loopg [69] xs.length (fun kq v69 w' => ∃ (i : Nat) (v : Value), v69 = .int .i64 i ∧ Aside0 (i ≤ xs.length) ∧ Aside0 (xs.length - i ≤ kq) ∧ Aside0 (w'.heap[g4]? = some (.cells #[v] 28 (0, 0))) ∧ Aside0 (Kd.R k23 23 w' w.heap.size (fun k => w6.heap.size ≤ k) v (xs.take i)) ∧ Aside0 (KeepBut w6 w' g4 none) ∧ Aside0 (Below w.heap.size w w'))
      case atStart => exact ⟨0, _, rfl, ⟨Nat.zero_le _⟩, ⟨Nat.le_refl _⟩, B4, ⟨Kd.R_nil _ _ _ _ _⟩, ⟨KeepBut.refl _ _ _⟩, HBc⟩
      case round =>
        obtain ⟨i, v, rfl, hi, hki, b4, hr, hkp, hbw⟩ := hrel
        by_cases ci : i < xs.length
        · obtain ⟨ad, gm, eA, hx, hgm⟩ := pmnt_at (Kd.R_reads' (Kd.R_keep HP.out hkp.out (fun _ h => h.2))).2.2 (i : Int) (by omega) (by omega)
          subst eA
          have hx2 := hx
          rw [Int.toNat_natCast] at hx2
          obtain ⟨m, hm⟩ : ∃ m, rd_T23 xs (i : Int) = m := ⟨_, rfl⟩
          rw [hm] at hgm
          have HM := Lib.hid hm
          clear hm
          have p0 : (0 : Int) ≤ (i : Int) := by omega
          have p1 : (i : Int) < (xs.length : Int) := by omega
          have hx4 : wr.cell? ⟨g4, 0, none⟩ = some v := (blk_cell b4.out 0).trans rfl
          have hm0 : wr.cell? ⟨gm, 0, none⟩ = some (.int .i64 m.f0) := (blk_cell hgm 0).trans rfl
          have hm1 : wr.cell? ⟨gm, 1, none⟩ = some (.int .i64 m.f1) := (blk_cell hgm 1).trans rfl
          have hm2 : wr.cell? ⟨gm, 2, none⟩ = some (.int .i64 m.f2) := (blk_cell hgm 2).trans rfl
          have hm3 : wr.cell? ⟨gm, 3, none⟩ = some (.int .i64 m.f3) := (blk_cell hgm 3).trans rfl
          have hm4 : wr.cell? ⟨gm, 4, none⟩ = some (.string m.f4) := (blk_cell hgm 4).trans rfl
          have hm5 : wr.cell? ⟨gm, 5, none⟩ = some (.string m.f5) := (blk_cell hgm 5).trans rfl
          have hm6 : wr.cell? ⟨gm, 6, none⟩ = some (.string m.f6) := (blk_cell hgm 6).trans rfl
          have hm7 : wr.cell? ⟨gm, 7, none⟩ = some (.string m.f7) := (blk_cell hgm 7).trans rfl
          have hm8 : wr.cell? ⟨gm, 8, none⟩ = some (.string m.f8) := (blk_cell hgm 8).trans rfl
          have hm9 : wr.cell? ⟨gm, 9, none⟩ = some (.string m.f9) := (blk_cell hgm 9).trans rfl
          have hm10 : wr.cell? ⟨gm, 10, none⟩ = some (.string m.f10) := (blk_cell hgm 10).trans rfl
          have hw1 : IntKind.i64.wrap ((i : Int) + 1) = ((i + 1 : Nat) : Int) := by rw [IntKind.wrap_i64]; have := hxl.out; omega
          go_upto_region 20 with fail
          refine wp_region_noPanic ?_
          refine start_ (n := 49) (S := fun w' => w'.cell? ⟨g4, 0, none⟩ = some v ∧ w'.cell? ⟨gm, 0, none⟩ = some (.int .i64 m.f0) ∧ w'.cell? ⟨gm, 1, none⟩ = some (.int .i64 m.f1) ∧ w'.cell? ⟨gm, 2, none⟩ = some (.int .i64 m.f2) ∧ w'.cell? ⟨gm, 3, none⟩ = some (.int .i64 m.f3) ∧ w'.cell? ⟨gm, 4, none⟩ = some (.string m.f4) ∧ w'.cell? ⟨gm, 5, none⟩ = some (.string m.f5) ∧ w'.cell? ⟨gm, 6, none⟩ = some (.string m.f6) ∧ w'.cell? ⟨gm, 7, none⟩ = some (.string m.f7) ∧ w'.cell? ⟨gm, 8, none⟩ = some (.string m.f8) ∧ w'.cell? ⟨gm, 9, none⟩ = some (.string m.f9) ∧ w'.cell? ⟨gm, 10, none⟩ = some (.string m.f10)) (ds := [48]) (tfA 0 49) (by kernel_rfl) rfl rfl ⟨hx4, hm0, hm1, hm2, hm3, hm4, hm5, hm6, hm7, hm8, hm9, hm10⟩ (fun hHeld => ?_); refine with_tabW mo_tab20 mo_bits20 (fun HT_ HW_ => ?_)
          have b4d := Aside0.mk (show wr.drew.heap[g4]? = some (.cells #[v] 28 (0, 0)) from b4.out)
          have bgd := Aside0.mk (show wr.drew.heap[gm]? = some (.cells (mtCells m) 59 (0, 0)) from hgm)
          have hrd := Aside0.mk (Kd.R_drew hr.out)
          have hkd := Aside0.mk (show KeepBut w6 wr.drew g4 none from hkp.out)
          have hbd := Aside0.mk (below_drew hbw.out)
          clear b4 hr hkp hbw hx4 hx hx2 hgm hm0 hm1 hm2 hm3 hm4 hm5 hm6 hm7 hm8 hm9 hm10
          generalize wr.drew = wd at *
          refine take_ (i := 0) (N := some 73) (v := ?_) (a' := ?_) (tfA 1 48) rfl rfl (take_ofW HT_.out HW_.out (by kernel_rfl)) (fun _ _ _ h => h) (Or.inl ⟨by rfl, ?_⟩) hHeld ?_ ?_
          rotate_left
          · rintro w' ⟨s0, s1, s2, s3, s4, s5, s6, s7, s8, s9, s10, s11⟩
            go_simp
            with_reducible rfl
          rotate_left
          · simp only [Act.put, sA, s0, s1, i64_w, i32_w]
            rfl
          refine pure_ (i := 1) (N := some 74) (v := ?_) (a' := ?_) (tfA 2 47) rfl rfl (any_of HT_.out (by kernel_rfl)) (fun _ _ _ h => h) (Or.inl ⟨by rfl, ?_⟩) ?_ ?_
          rotate_left
          · intro w'
            go_simp
            with_reducible rfl
          rotate_left
          · simp only [Act.put, sA, s0, s1, i64_w, i32_w]
            rfl
          refine pure_ (i := 2) (N := some 75) (v := ?_) (a' := ?_) (tfA 3 46) rfl rfl (any_of HT_.out (by kernel_rfl)) (fun _ _ _ h => h) (Or.inl ⟨by rfl, ?_⟩) ?_ ?_
          rotate_left
          · intro w'
            go_simp
            with_reducible rfl
          rotate_left
          · simp only [Act.put, sA, s0, s1, i64_w, i32_w]
            rfl
          refine pure_ (i := 3) (N := some 76) (v := ?_) (a' := ?_) (tfA 4 45) rfl rfl (any_of HT_.out (by kernel_rfl)) (fun _ _ _ h => h) (Or.inl ⟨by rfl, ?_⟩) ?_ ?_
          rotate_left
          · intro w'
            go_simp
            with_reducible rfl
          rotate_left
          · simp only [Act.put, sA, s0, s1, i64_w, i32_w]
            rfl
          refine take_ (i := 4) (N := some 77) (v := ?_) (a' := ?_) (tfA 5 44) rfl rfl (take_ofW HT_.out HW_.out (by kernel_rfl)) (fun _ _ _ h => h) (Or.inl ⟨by rfl, ?_⟩) hHeld ?_ ?_
          rotate_left
          · rintro w' ⟨s0, s1, s2, s3, s4, s5, s6, s7, s8, s9, s10, s11⟩
            go_simp
            with_reducible rfl
          rotate_left
          · simp only [Act.put, sA, s0, s1, i64_w, i32_w]
            rfl
          refine pure_ (i := 5) (N := some 78) (v := ?_) (a' := ?_) (tfA 6 43) rfl rfl (any_of HT_.out (by kernel_rfl)) (fun _ _ _ h => h) (Or.inl ⟨by rfl, ?_⟩) ?_ ?_
          rotate_left
          · intro w'
            go_simp
            with_reducible rfl
          rotate_left
          · simp only [Act.put, sA, s0, s1, i64_w, i32_w]
            rfl
          refine pure_ (i := 6) (N := some 79) (v := ?_) (a' := ?_) (tfA 7 42) rfl rfl (any_of HT_.out (by kernel_rfl)) (fun _ _ _ h => h) (Or.inl ⟨by rfl, ?_⟩) ?_ ?_
          rotate_left
          · intro w'
            go_simp
            with_reducible rfl
          rotate_left
          · simp only [Act.put, sA, s0, s1, i64_w, i32_w]
            rfl
          refine pure_ (i := 7) (N := some 80) (v := ?_) (a' := ?_) (tfA 8 41) rfl rfl (any_of HT_.out (by kernel_rfl)) (fun _ _ _ h => h) (Or.inl ⟨by rfl, ?_⟩) ?_ ?_
          rotate_left
          · intro w'
            go_simp
            with_reducible rfl
          rotate_left
          · simp only [Act.put, sA, s0, s1, i64_w, i32_w]
            rfl
          refine take_ (i := 8) (N := some 81) (v := ?_) (a' := ?_) (tfA 9 40) rfl rfl (take_ofW HT_.out HW_.out (by kernel_rfl)) (fun _ _ _ h => h) (Or.inl ⟨by rfl, ?_⟩) hHeld ?_ ?_
          rotate_left
          · rintro w' ⟨s0, s1, s2, s3, s4, s5, s6, s7, s8, s9, s10, s11⟩
            go_simp
            with_reducible rfl
          rotate_left
          · simp only [Act.put, sA, s0, s1, i64_w, i32_w]
            rfl
          refine pure_ (i := 9) (N := some 82) (v := ?_) (a' := ?_) (tfA 10 39) rfl rfl (any_of HT_.out (by kernel_rfl)) (fun _ _ _ h => h) (Or.inl ⟨by rfl, ?_⟩) ?_ ?_
          rotate_left
          · intro w'
            go_simp
            with_reducible rfl
          rotate_left
          · simp only [Act.put, sA, s0, s1, i64_w, i32_w]
            rfl
          refine pure_ (i := 10) (N := some 83) (v := ?_) (a' := ?_) (tfA 11 38) rfl rfl (any_of HT_.out (by kernel_rfl)) (fun _ _ _ h => h) (Or.inl ⟨by rfl, ?_⟩) ?_ ?_
          rotate_left
          · intro w'
            go_simp
            with_reducible rfl
          rotate_left
          · simp only [Act.put, sA, s0, s1, i64_w, i32_w]
            rfl
          refine pure_ (i := 11) (N := some 84) (v := ?_) (a' := ?_) (tfA 12 37) rfl rfl (any_of HT_.out (by kernel_rfl)) (fun _ _ _ h => h) (Or.inl ⟨by rfl, ?_⟩) ?_ ?_
          rotate_left
          · intro w'
            go_simp
            with_reducible rfl
          rotate_left
          · simp only [Act.put, sA, s0, s1, i64_w, i32_w]
            rfl
          refine take_ (i := 12) (N := some 85) (v := ?_) (a' := ?_) (tfA 13 36) rfl rfl (take_ofW HT_.out HW_.out (by kernel_rfl)) (fun _ _ _ h => h) (Or.inl ⟨by rfl, ?_⟩) hHeld ?_ ?_
          rotate_left
          · rintro w' ⟨s0, s1, s2, s3, s4, s5, s6, s7, s8, s9, s10, s11⟩
            go_simp
            with_reducible rfl
          rotate_left
          · simp only [Act.put, sA, s0, s1, i64_w, i32_w]
            rfl
          refine pure_ (i := 13) (N := some 86) (v := ?_) (a' := ?_) (tfA 14 35) rfl rfl (any_of HT_.out (by kernel_rfl)) (fun _ _ _ h => h) (Or.inl ⟨by rfl, ?_⟩) ?_ ?_
          rotate_left
          · intro w'
            go_simp
            with_reducible rfl
          rotate_left
          · simp only [Act.put, sA, s0, s1, i64_w, i32_w]
            rfl
          refine pure_ (i := 14) (N := some 87) (v := ?_) (a' := ?_) (tfA 15 34) rfl rfl (any_of HT_.out (by kernel_rfl)) (fun _ _ _ h => h) (Or.inl ⟨by rfl, ?_⟩) ?_ ?_
          rotate_left
          · intro w'
            go_simp
            with_reducible rfl
          rotate_left
          · simp only [Act.put, sA, s0, s1, i64_w, i32_w]
            rfl
          refine pure_ (i := 15) (N := some 88) (v := ?_) (a' := ?_) (tfA 16 33) rfl rfl (any_of HT_.out (by kernel_rfl)) (fun _ _ _ h => h) (Or.inl ⟨by rfl, ?_⟩) ?_ ?_
          rotate_left
          · intro w'
            go_simp
            with_reducible rfl
          rotate_left
          · simp only [Act.put, sA, s0, s1, i64_w, i32_w]
            rfl
          refine take_ (i := 16) (N := some 89) (v := ?_) (a' := ?_) (tfA 17 32) rfl rfl (take_ofW HT_.out HW_.out (by kernel_rfl)) (fun _ _ _ h => h) (Or.inl ⟨by rfl, ?_⟩) hHeld ?_ ?_
          rotate_left
          · rintro w' ⟨s0, s1, s2, s3, s4, s5, s6, s7, s8, s9, s10, s11⟩
            go_simp
            with_reducible rfl
          rotate_left
          · simp only [Act.put, sA, s0, s1, i64_w, i32_w]
            rfl
          refine pure_ (i := 17) (N := some 90) (v := ?_) (a' := ?_) (tfA 18 31) rfl rfl (any_of HT_.out (by kernel_rfl)) (fun _ _ _ h => h) (Or.inl ⟨by rfl, ?_⟩) ?_ ?_
          rotate_left
          · intro w'
            go_simp
            with_reducible rfl
          rotate_left
          · simp only [Act.put, sA, s0, s1, i64_w, i32_w]
            rfl
          refine pure_ (i := 18) (N := some 91) (v := ?_) (a' := ?_) (tfA 19 30) rfl rfl (any_of HT_.out (by kernel_rfl)) (fun _ _ _ h => h) (Or.inl ⟨by rfl, ?_⟩) ?_ ?_
          rotate_left
          · intro w'
            go_simp
            with_reducible rfl
          rotate_left
          · simp only [Act.put, sA, s0, s1, i64_w, i32_w]
            rfl
          refine pure_ (i := 19) (N := some 92) (v := ?_) (a' := ?_) (tfA 20 29) rfl rfl (any_of HT_.out (by kernel_rfl)) (fun _ _ _ h => h) (Or.inl ⟨by rfl, ?_⟩) ?_ ?_
          rotate_left
          · intro w'
            go_simp
            with_reducible rfl
          rotate_left
          · simp only [Act.put, sA, s0, s1, i64_w, i32_w]
            rfl
          refine take_ (i := 20) (N := some 93) (v := ?_) (a' := ?_) (tfA 21 28) rfl rfl (take_ofW HT_.out HW_.out (by kernel_rfl)) (fun _ _ _ h => h) (Or.inl ⟨by rfl, ?_⟩) hHeld ?_ ?_
          rotate_left
          · rintro w' ⟨s0, s1, s2, s3, s4, s5, s6, s7, s8, s9, s10, s11⟩
            go_simp
            with_reducible rfl
          rotate_left
          · simp only [Act.put, sA, s0, s1, i64_w, i32_w]
            rfl
          refine pure_ (i := 21) (N := some 94) (v := ?_) (a' := ?_) (tfA 22 27) rfl rfl (any_of HT_.out (by kernel_rfl)) (fun _ _ _ h => h) (Or.inl ⟨by rfl, ?_⟩) ?_ ?_
          rotate_left
          · intro w'
            go_simp
            with_reducible rfl
          rotate_left
          · simp only [Act.put, sA, s0, s1, i64_w, i32_w]
            rfl
          refine pure_ (i := 22) (N := some 95) (v := ?_) (a' := ?_) (tfA 23 26) rfl rfl (any_of HT_.out (by kernel_rfl)) (fun _ _ _ h => h) (Or.inl ⟨by rfl, ?_⟩) ?_ ?_
          rotate_left
          · intro w'
            go_simp
            with_reducible rfl
          rotate_left
          · simp only [Act.put, sA, s0, s1, i64_w, i32_w]
            rfl
          refine pure_ (i := 23) (N := some 96) (v := ?_) (a' := ?_) (tfA 24 25) rfl rfl (any_of HT_.out (by kernel_rfl)) (fun _ _ _ h => h) (Or.inl ⟨by rfl, ?_⟩) ?_ ?_
          rotate_left
          · intro w'
            go_simp
            with_reducible rfl
          rotate_left
          · simp only [Act.put, sA, s0, s1, i64_w, i32_w]
            rfl
          refine take_ (i := 24) (N := some 97) (v := ?_) (a' := ?_) (tfA 25 24) rfl rfl (take_ofW HT_.out HW_.out (by kernel_rfl)) (fun _ _ _ h => h) (Or.inl ⟨by rfl, ?_⟩) hHeld ?_ ?_
          rotate_left
          · rintro w' ⟨s0, s1, s2, s3, s4, s5, s6, s7, s8, s9, s10, s11⟩
            go_simp
            with_reducible rfl
          rotate_left
          · simp only [Act.put, sA, s0, s1, i64_w, i32_w]
            rfl
          refine pure_ (i := 25) (N := some 98) (v := ?_) (a' := ?_) (tfA 26 23) rfl rfl (any_of HT_.out (by kernel_rfl)) (fun _ _ _ h => h) (Or.inl ⟨by rfl, ?_⟩) ?_ ?_
          rotate_left
          · intro w'
            go_simp
            with_reducible rfl
          rotate_left
          · simp only [Act.put, sA, s0, s1, i64_w, i32_w]
            rfl
          refine pure_ (i := 26) (N := some 99) (v := ?_) (a' := ?_) (tfA 27 22) rfl rfl (any_of HT_.out (by kernel_rfl)) (fun _ _ _ h => h) (Or.inl ⟨by rfl, ?_⟩) ?_ ?_
          rotate_left
          · intro w'
            go_simp
            with_reducible rfl
          rotate_left
          · simp only [Act.put, sA, s0, s1, i64_w, i32_w]
            rfl
          refine pure_ (i := 27) (N := some 100) (v := ?_) (a' := ?_) (tfA 28 21) rfl rfl (any_of HT_.out (by kernel_rfl)) (fun _ _ _ h => h) (Or.inl ⟨by rfl, ?_⟩) ?_ ?_
          rotate_left
          · intro w'
            go_simp
            with_reducible rfl
          rotate_left
          · simp only [Act.put, sA, s0, s1, i64_w, i32_w]
            rfl
          refine take_ (i := 28) (N := some 101) (v := ?_) (a' := ?_) (tfA 29 20) rfl rfl (take_ofW HT_.out HW_.out (by kernel_rfl)) (fun _ _ _ h => h) (Or.inl ⟨by rfl, ?_⟩) hHeld ?_ ?_
          rotate_left
          · rintro w' ⟨s0, s1, s2, s3, s4, s5, s6, s7, s8, s9, s10, s11⟩
            go_simp
            with_reducible rfl
          rotate_left
          · simp only [Act.put, sA, s0, s1, i64_w, i32_w]
            rfl
          refine pure_ (i := 29) (N := some 102) (v := ?_) (a' := ?_) (tfA 30 19) rfl rfl (any_of HT_.out (by kernel_rfl)) (fun _ _ _ h => h) (Or.inl ⟨by rfl, ?_⟩) ?_ ?_
          rotate_left
          · intro w'
            go_simp
            with_reducible rfl
          rotate_left
          · simp only [Act.put, sA, s0, s1, i64_w, i32_w]
            rfl
          refine pure_ (i := 30) (N := some 103) (v := ?_) (a' := ?_) (tfA 31 18) rfl rfl (any_of HT_.out (by kernel_rfl)) (fun _ _ _ h => h) (Or.inl ⟨by rfl, ?_⟩) ?_ ?_
          rotate_left
          · intro w'
            go_simp
            with_reducible rfl
          rotate_left
          · simp only [Act.put, sA, s0, s1, i64_w, i32_w]
            rfl
          refine pure_ (i := 31) (N := some 104) (v := ?_) (a' := ?_) (tfA 32 17) rfl rfl (any_of HT_.out (by kernel_rfl)) (fun _ _ _ h => h) (Or.inl ⟨by rfl, ?_⟩) ?_ ?_
          rotate_left
          · intro w'
            go_simp
            with_reducible rfl
          rotate_left
          · simp only [Act.put, sA, s0, s1, i64_w, i32_w]
            rfl
          refine take_ (i := 32) (N := some 105) (v := ?_) (a' := ?_) (tfA 33 16) rfl rfl (take_ofW HT_.out HW_.out (by kernel_rfl)) (fun _ _ _ h => h) (Or.inl ⟨by rfl, ?_⟩) hHeld ?_ ?_
          rotate_left
          · rintro w' ⟨s0, s1, s2, s3, s4, s5, s6, s7, s8, s9, s10, s11⟩
            go_simp
            with_reducible rfl
          rotate_left
          · simp only [Act.put, sA, s0, s1, i64_w, i32_w]
            rfl
          refine pure_ (i := 33) (N := some 106) (v := ?_) (a' := ?_) (tfA 34 15) rfl rfl (any_of HT_.out (by kernel_rfl)) (fun _ _ _ h => h) (Or.inl ⟨by rfl, ?_⟩) ?_ ?_
          rotate_left
          · intro w'
            go_simp
            with_reducible rfl
          rotate_left
          · simp only [Act.put, sA, s0, s1, i64_w, i32_w]
            rfl
          refine pure_ (i := 34) (N := some 107) (v := ?_) (a' := ?_) (tfA 35 14) rfl rfl (any_of HT_.out (by kernel_rfl)) (fun _ _ _ h => h) (Or.inl ⟨by rfl, ?_⟩) ?_ ?_
          rotate_left
          · intro w'
            go_simp
            with_reducible rfl
          rotate_left
          · simp only [Act.put, sA, s0, s1, i64_w, i32_w]
            rfl
          refine pure_ (i := 35) (N := some 108) (v := ?_) (a' := ?_) (tfA 36 13) rfl rfl (any_of HT_.out (by kernel_rfl)) (fun _ _ _ h => h) (Or.inl ⟨by rfl, ?_⟩) ?_ ?_
          rotate_left
          · intro w'
            go_simp
            with_reducible rfl
          rotate_left
          · simp only [Act.put, sA, s0, s1, i64_w, i32_w]
            rfl
          refine take_ (i := 36) (N := some 109) (v := ?_) (a' := ?_) (tfA 37 12) rfl rfl (take_ofW HT_.out HW_.out (by kernel_rfl)) (fun _ _ _ h => h) (Or.inl ⟨by rfl, ?_⟩) hHeld ?_ ?_
          rotate_left
          · rintro w' ⟨s0, s1, s2, s3, s4, s5, s6, s7, s8, s9, s10, s11⟩
            go_simp
            with_reducible rfl
          rotate_left
          · simp only [Act.put, sA, s0, s1, i64_w, i32_w]
            rfl
          refine pure_ (i := 37) (N := some 110) (v := ?_) (a' := ?_) (tfA 38 11) rfl rfl (any_of HT_.out (by kernel_rfl)) (fun _ _ _ h => h) (Or.inl ⟨by rfl, ?_⟩) ?_ ?_
          rotate_left
          · intro w'
            go_simp
            with_reducible rfl
          rotate_left
          · simp only [Act.put, sA, s0, s1, i64_w, i32_w]
            rfl
          refine pure_ (i := 38) (N := some 111) (v := ?_) (a' := ?_) (tfA 39 10) rfl rfl (any_of HT_.out (by kernel_rfl)) (fun _ _ _ h => h) (Or.inl ⟨by rfl, ?_⟩) ?_ ?_
          rotate_left
          · intro w'
            go_simp
            with_reducible rfl
          rotate_left
          · simp only [Act.put, sA, s0, s1, i64_w, i32_w]
            rfl
          refine pure_ (i := 39) (N := some 112) (v := ?_) (a' := ?_) (tfA 40 9) rfl rfl (any_of HT_.out (by kernel_rfl)) (fun _ _ _ h => h) (Or.inl ⟨by rfl, ?_⟩) ?_ ?_
          rotate_left
          · intro w'
            go_simp
            with_reducible rfl
          rotate_left
          · simp only [Act.put, sA, s0, s1, i64_w, i32_w]
            rfl
          refine take_ (i := 40) (N := some 113) (v := ?_) (a' := ?_) (tfA 41 8) rfl rfl (take_ofW HT_.out HW_.out (by kernel_rfl)) (fun _ _ _ h => h) (Or.inl ⟨by rfl, ?_⟩) hHeld ?_ ?_
          rotate_left
          · rintro w' ⟨s0, s1, s2, s3, s4, s5, s6, s7, s8, s9, s10, s11⟩
            go_simp
            with_reducible rfl
          rotate_left
          · simp only [Act.put, sA, s0, s1, i64_w, i32_w]
            rfl
          refine pure_ (i := 41) (N := some 114) (v := ?_) (a' := ?_) (tfA 42 7) rfl rfl (any_of HT_.out (by kernel_rfl)) (fun _ _ _ h => h) (Or.inl ⟨by rfl, ?_⟩) ?_ ?_
          rotate_left
          · intro w'
            go_simp
            with_reducible rfl
          rotate_left
          · simp only [Act.put, sA, s0, s1, i64_w, i32_w]
            rfl
          refine pure_ (i := 42) (N := some 115) (v := ?_) (a' := ?_) (tfA 43 6) rfl rfl (any_of HT_.out (by kernel_rfl)) (fun _ _ _ h => h) (Or.inl ⟨by rfl, ?_⟩) ?_ ?_
          rotate_left
          · intro w'
            go_simp
            with_reducible rfl
          rotate_left
          · simp only [Act.put, sA, s0, s1, i64_w, i32_w]
            rfl
          refine pure_ (i := 43) (N := some 116) (v := ?_) (a' := ?_) (tfA 44 5) rfl rfl (any_of HT_.out (by kernel_rfl)) (fun _ _ _ h => h) (Or.inl ⟨by rfl, ?_⟩) ?_ ?_
          rotate_left
          · intro w'
            go_simp
            with_reducible rfl
          rotate_left
          · simp only [Act.put, sA, s0, s1, i64_w, i32_w]
            rfl
          refine take_ (i := 44) (N := some 117) (v := ?_) (a' := ?_) (tfA 45 4) rfl rfl (take_ofW HT_.out HW_.out (by kernel_rfl)) (fun _ _ _ h => h) (Or.inl ⟨by rfl, ?_⟩) hHeld ?_ ?_
          rotate_left
          · rintro w' ⟨s0, s1, s2, s3, s4, s5, s6, s7, s8, s9, s10, s11⟩
            go_simp
            with_reducible rfl
          rotate_left
          · simp only [Act.put, sA, s0, s1, i64_w, i32_w]
            rfl
          refine pure_ (i := 45) (N := some 118) (v := ?_) (a' := ?_) (tfA 46 3) rfl rfl (any_of HT_.out (by kernel_rfl)) (fun _ _ _ h => h) (Or.inl ⟨by rfl, ?_⟩) ?_ ?_
          rotate_left
          · intro w'
            go_simp
            with_reducible rfl
          rotate_left
          · simp only [Act.put, sA, s0, s1, i64_w, i32_w]
            rfl
          refine one_ (i := 46) (N := some 119) (tfA 47 2) rfl rfl (one_of HT_.out (by kernel_rfl)) (by decide) (fun K hK => ?_)
          refine value_ (w1 := ?_) (v := ?_) (by rfl) rfl ?_ ?_
          rotate_left 2
          · go_simp
            constructor
            · rfl
            · rfl
          refine hK.out _ _ ⟨(blk_cell (blk_alloc b4d.out _) 0).trans rfl, (blk_cell (blk_alloc bgd.out _) 0).trans rfl, (blk_cell (blk_alloc bgd.out _) 1).trans rfl, (blk_cell (blk_alloc bgd.out _) 2).trans rfl, (blk_cell (blk_alloc bgd.out _) 3).trans rfl, (blk_cell (blk_alloc bgd.out _) 4).trans rfl, (blk_cell (blk_alloc bgd.out _) 5).trans rfl, (blk_cell (blk_alloc bgd.out _) 6).trans rfl, (blk_cell (blk_alloc bgd.out _) 7).trans rfl, (blk_cell (blk_alloc bgd.out _) 8).trans rfl, (blk_cell (blk_alloc bgd.out _) 9).trans rfl, (blk_cell (blk_alloc bgd.out _) 10).trans rfl⟩ (fun hHeld => ?_)
          clear hK K
          refine norm_ (a' := ?_) ?_ ?_
          rotate_left
          · show Act.put _ (some 119) _ = _
            simp only [Act.put, sA, s0, s1, i64_w, i32_w]
            rfl
          refine one_ (i := 47) (N := some 120) (tfA 48 1) rfl rfl (one_of HT_.out (by kernel_rfl)) (by decide) (fun K hK => ?_)
          refine Kd.R_append_step k23 (w0 := w) w.heap.size (by rfl) (.tmp 73) (.tmp 119) 28 23 (.agg #[(.int .i64 0), (.int .i64 0), (.int .i64 0), (.int .i64 0), (.string ⟨#[]⟩), (.string ⟨#[]⟩), (.string ⟨#[]⟩), (.string ⟨#[]⟩), (.string ⟨#[]⟩), (.string ⟨#[]⟩), (.string ⟨#[]⟩)]) 144 rfl Tryd.underlying28 info23 rfl (by decide) (by omega) v (xs.take i) m [.int .i64 m.f0, .int .i64 m.f1, .int .i64 m.f2, .int .i64 m.f3, .string m.f4, .string m.f5, .string m.f6, .string m.f7, .string m.f8, .string m.f9, .string m.f10] (fun k => w6.heap.size ≤ k) (fun _ => False) rfl rfl (k23_mkM _ _ _ m) (fun _ hk => hk.elim) ?aF hrd.out hbd.out (below_size hbd.out) ?aL ?_
          (case aF => exact (fun k hk => Nat.le_trans hkd.out.1 hk)); (case aL => have := hxl.out; rw [List.length_take]; omega)
          intro v1 w7 ho hb3 hg3 hat
          have hro := Aside0.mk ho
          have b47 := Aside0.mk (blk_grown b4d.out hg3 (Kd.R_ne hrd.out b4d.out (by decide)))
          have bg7 := Aside0.mk (blk_grown bgd.out hg3 (Kd.R_ne hrd.out bgd.out (by decide)))
          have hkp := Aside0.mk (KeepBut.trans hkd.out (KeepBut.of_grown hg3 g4) (by rcases hv : v.ownBlock with _ | b; exact .inl rfl; exact .inr ⟨b, rfl, hrd.out.1 b hv⟩))
          have hbw := Aside0.mk hb3
          obtain ⟨A1, c1, e1⟩ := Kd.R_slice ho
          subst e1
          clear hrd hkd hbd ho hb3 hg3 hat
          refine hK.out _ _ ⟨(blk_cell b47.out 0).trans rfl, (blk_cell bg7.out 0).trans rfl, (blk_cell bg7.out 1).trans rfl, (blk_cell bg7.out 2).trans rfl, (blk_cell bg7.out 3).trans rfl, (blk_cell bg7.out 4).trans rfl, (blk_cell bg7.out 5).trans rfl, (blk_cell bg7.out 6).trans rfl, (blk_cell bg7.out 7).trans rfl, (blk_cell bg7.out 8).trans rfl, (blk_cell bg7.out 9).trans rfl, (blk_cell bg7.out 10).trans rfl⟩ (fun hHeld => ?_)
          clear hK K
          refine norm_ (a' := ?_) ?_ ?_
          rotate_left
          · show Act.put _ (some 120) _ = _
            simp only [Act.put, sA, s0, s1, i64_w, i32_w]
            rfl
          refine last_ (i := 48) (N := none) (tfA 49 0) rfl rfl (one_of HT_.out (by kernel_rfl)) (by decide) (fun K hK => ?_)
          have hx5 : w7.cell? ⟨g4, 0, none⟩ = some v := (blk_cell b47.out 0).trans rfl
          have xf5 := blk_frozen b47.out 0
          refine skip_ (w1 := ?_) (by rfl) rfl ?_ ?_
          rotate_left
          · go_simp
            rfl
          refine hK.out _ _ ?_
          clear hK K
          refine done_ (done_of HT_.out (by kernel_rfl)) ?_
          refine NoPanic.normal ?_
          try go_wp2
          have hlk := hki.out
          have hne : ∀ k, w6.heap.size ≤ k → k ≠ g4 := fun k hk he => by have := blk_lt B4.out; omega
          go_roundg (xs.length - (i + 1))
          case measure => omega
          case rel =>
            refine ⟨i + 1, _, rfl, ⟨by omega⟩, ⟨Nat.le_refl _⟩, ⟨blk_put b47.out 0 _ rfl⟩, ⟨?_⟩, ⟨hkp.out.set_ 0 _⟩, ⟨below_set hbw.out GE4.out⟩⟩
            have e : xs.take (i + 1) = xs.take i ++ [m] := by
              have h1 := HM.out
              rw [List.take_add_one, List.getElem?_eq_getElem ci]
              unfold rd_T23 at h1
              rw [Int.toNat_natCast, List.getD_eq_getElem?_getD, List.getElem?_eq_getElem ci] at h1
              rw [← h1]; rfl
            rw [e]
            have h := Kd.R_far (p := ⟨g4, 0, none⟩) hro.out hne (.slice A1 (xs.take i ++ [m]).length c1)
            first | exact h | (rw [show (xs.take i ++ [m]).length = min i xs.length + 1 from by simp] at h; exact h) | (simp at h ⊢; exact h)
        · have hie : i = xs.length := by have := hi.out; omega
          subst hie
          rw [List.take_length] at hr
          obtain ⟨Av, cv, ev⟩ := Kd.R_slice hr.out
          subst ev
          have hne := NE.out
          have hne2 := NE.out.symm
          have b5 := Aside0.mk (hkp.out.blk B5.out hne2 (by simp))
          have xc4 : wr.cell? ⟨g4, 0, none⟩ = some (.slice Av xs.length cv) := (blk_cell b4.out 0).trans rfl
          have xf4 := blk_frozen b4.out 0
          have xc5 : wr.cell? ⟨g5, 0, none⟩ = some (.int .i64 0) := (blk_cell b5.out 0).trans rfl
          have xf5 := blk_frozen b5.out 0
          have hok4 : ∀ k, w6.heap.size ≤ k → k ≠ g4 := fun k hk he => by have := blk_lt B4.out; omega
          have hok5 : ∀ k, w6.heap.size ≤ k → k ≠ g5 := fun k hk he => by have := blk_lt B5.out; omega
          have hok4 := Lib.hid hok4
          have hok5 := Lib.hid hok5
          go_wp2_with fail
          refine leaves_cons (f := 20) (args := #[.pointer (some ⟨g4, 0, none⟩), .pointer (some ⟨g5, 0, none⟩)]) (by simp) (by simp [go_sem]) ?_
          refine (catch_idle ⟨g4, 0, none⟩ ⟨g5, 0, none⟩ _).mono ?_
          rintro e u' w'' ⟨rfl, rfl, rfl⟩
          simp [Leaves, settle, results, Tryd.results9, go_sem, xc4, xc5, hne, hne2]
          rw [HX.out]
          refine ⟨Kd.R_mono (ok := fun k => w6.heap.size ≤ k) ?_ (fun _ _ => trivial), ?_⟩
          · refine Kd.R_far (p := ⟨g5, 0, none⟩) ?_ hok5.out _
            refine Kd.R_far (p := ⟨g4, 0, none⟩) ?_ hok4.out _
            exact hr.out
          · exact below_set (below_set hbw.out GE4.out) GE5.out
set_option maxHeartbeats 16000000 in
set_option maxRecDepth 100000 in
theorem doorBad_is (t : ByteArray) (A : Option Addr) (c : Nat) (paths : List ByteArray) (w : World) (hr : ScanE MtL BadL t none) (hl : t.size ≤ 1000000) (hTabs : MTabs w) :
    Calls Tryd.prog 9 #[.string t, .agg #[.int .i64 0, .slice A paths.length c]] w fun e w' => e = .returned (.tuple #[.slice none 0 0, .int .i64 1]) ∧ Below w.heap.size w w' := by
  have hmf : ∀ (fn : Fn) (first cap : Array Value) (w : World), (Instr.makeFunc fn first cap).run Tryd.prog w = .ok (.func fn first cap) w := fun _ _ _ _ => rfl
  have hu33 := Tryd.underlying33
  have hu59 := Tryd.underlying59
  have HR := Lib.hid hr
  have HT := Lib.hid hTabs
  have HLZ := Lib.hid hl
  clear hr hl hTabs
  have HB := Aside0.mk (Below.refl w.heap.size w)
  go_enter_defers Tryd.func9, Tryd.ntmps9
  go_upto_region 3 with (first
    | ((with_reducible refine gate_dst (N := 3) rfl ?_); refine box_event ?hg (N := 3) ?hd (cs := #[.int .i64 0, .slice A paths.length c]) (t := 33) ?hr ?_; (case hd => rfl); (case hg => rfl); (case hr => first | (go_simp; done) | (go_simp; rfl)); intro g3 hg w1 hbox hb
       have BK3 := Aside0.mk hbox
       have n0 := Aside0.mk (below_step HB.out hb); clear HB; have HB := n0; clear n0 hb hbox hg)
    | ((with_reducible refine gate_dst (N := 4) rfl ?_); refine box_event ?hg (N := 4) ?hd (cs := #[.slice none 0 0]) (t := 28) ?hr ?_; (case hd => rfl); (case hg => rfl); (case hr => first | (go_simp; done) | (go_simp; rfl)); intro g4 hg w2 hbox hb
       have BK4 := Aside0.mk hbox
       have n1 := Aside0.mk (blk_below BK3.out hb); clear BK3; have BK3 := n1; clear n1
       have GE4 := Aside0.mk (show w.heap.size ≤ g4 by rw [hg]; exact below_size HB.out)
       have n0 := Aside0.mk (below_step HB.out hb); clear HB; have HB := n0; clear n0 hb hbox hg)
    | ((with_reducible refine gate_dst (N := 5) rfl ?_); refine box_event ?hg (N := 5) ?hd (cs := #[.int .i64 0]) (t := 3) ?hr ?_; (case hd => rfl); (case hg => rfl); (case hr => first | (go_simp; done) | (go_simp; rfl)); intro g5 hg w3 hbox hb
       have BK5 := Aside0.mk hbox
       have NE := Aside0.mk (show g4 ≠ g5 by rw [hg]; exact Nat.ne_of_lt (blk_lt BK4.out))
       have n1 := Aside0.mk (blk_below BK3.out hb); clear BK3; have BK3 := n1; clear n1
       have n1 := Aside0.mk (blk_below BK4.out hb); clear BK4; have BK4 := n1; clear n1
       have GE5 := Aside0.mk (show w.heap.size ≤ g5 by rw [hg]; exact below_size HB.out)
       have n0 := Aside0.mk (below_step HB.out hb); clear HB; have HB := n0; clear n0 hb hbox hg))
  have x30 : w3.cell? ⟨g3, 0, none⟩ = some (.int .i64 0) := (blk_cell BK3.out 0).trans rfl
  have x31 : w3.cell? ⟨g3, 1, none⟩ = some (.slice A paths.length c) := (blk_cell BK3.out 1).trans rfl
  go_cut [30] from 12 to 30 (fun s30 wx => s30 = .bool false ∧ wx = w3)
  case first =>
    go_wp2_with fail
    go_meet
    exact ⟨rfl, rfl⟩
  case rest =>
    obtain ⟨rfl, hw⟩ := hcut
    obtain rfl := hw.symm
    go_upto_block 0 with fail
    go_cut [6] from 33 to 58 (fun s6 wx => s6 = .nilFunc ∧ Aside0 (Below w3.heap.size w3 wx))
    case first =>
      go_wp2_with fail
      go_meet
      exact ⟨rfl, ⟨Below.refl _ _⟩⟩
    case rest =>
      obtain ⟨rfl, hb0⟩ := hcut
      have B4 := Aside0.mk (blk_below BK4.out hb0.out)
      have B5 := Aside0.mk (blk_below BK5.out hb0.out)
      have HBc := Aside0.mk (below_step HB.out hb0.out)
      clear HB BK3 BK4 BK5 hb0 x30 x31
      go_upto_region 16 with (first
        | (go_at_call 25; refine (mtLoopE_is t none _ HR.out HLZ.out (MTabs.below HT.out HBc.out)).mono ?_; rintro e w6 ⟨v7, er, rfl, ho, hb⟩
           obtain ⟨rfl, T9, x9, rfl⟩ : v7 = .slice none 0 0 ∧ ∃ T x, er = .iface T x := by
             rcases ho with ⟨zs1, h, _⟩ | ⟨_, h⟩
             · cases h
             · exact h
           have n0 := Aside0.mk (blk_below B4.out hb); clear B4; have B4 := n0; clear n0
           have n0 := Aside0.mk (blk_below B5.out hb); clear B5; have B5 := n0; clear n0
           have n0 := Aside0.mk (below_step HBc.out hb); clear HBc; have HBc := n0; clear n0 hb ho))
      have xc4 : w6.cell? ⟨g4, 0, none⟩ = some (.slice none 0 0) := (blk_cell B4.out 0).trans rfl
      have xf4 := blk_frozen B4.out 0
      have xc5 : w6.cell? ⟨g5, 0, none⟩ = some (.int .i64 0) := (blk_cell B5.out 0).trans rfl
      have xf5 := blk_frozen B5.out 0
      have hne := NE.out
      have hne2 := NE.out.symm
      go_wp2_with fail
      refine leaves_cons (f := 20) (args := #[.pointer (some ⟨g4, 0, none⟩), .pointer (some ⟨g5, 0, none⟩)]) (by simp) (by simp [go_sem]) ?_
      refine (catch_idle ⟨g4, 0, none⟩ ⟨g5, 0, none⟩ _).mono ?_
      rintro e u' w'' ⟨rfl, rfl, rfl⟩
      simp [Leaves, settle, results, Tryd.results9, go_sem, xc4, xc5, hne, hne2]
      exact below_set (below_set HBc.out GE4.out) GE5.out
end Go.Proofs.YtokojamaigebaaaDoor.DoorMtE
