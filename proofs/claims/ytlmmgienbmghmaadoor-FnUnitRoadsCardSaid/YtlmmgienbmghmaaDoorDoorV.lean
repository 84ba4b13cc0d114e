/- impl.UnitReadSections by hand: the sections that are read, the door's defer and recover. -/
import Derived.Test.YtlmmgienbmghmaaDoorUDoor
set_option linter.unusedVariables false
set_option linter.unusedSimpArgs false
namespace Go.Proofs.YtlmmgienbmghmaaDoor.DoorV
open Go.RowKit Go.Proofs.YtlmmgienbmghmaaDoorW.PrintWords Go.Proofs.YtlmmgienbmghmaaDoorW.PrintLast Go.Proofs.YtlmmgienbmghmaaDoorW.PrintMore Go.Proofs.YtlmmgienbmghmaaDoor.M Go.Proofs.YtlmmgienbmghmaaDoor.Lex Go.Proofs.YtlmmgienbmghmaaDoor.UDoor
attribute [local go_sem] max2_int min2_int max_two min_two max_three min_three max_four min_four
theorem infoS : (Tryd.prog.info? 62).map (fun i => (i.zero, i.size, i.bytes)) = some (some (.agg #[(.string ⟨#[]⟩), (.slice none 0 0)]), 2, 40) := by kernel_rfl
theorem infoE : (Tryd.prog.info? 66).map (fun i => (i.zero, i.size, i.bytes)) = some (some (.agg #[(.string ⟨#[]⟩), (.string ⟨#[]⟩)]), 2, 32) := by kernel_rfl
theorem catch_idle2 (p q : Addr) (w : World) :
    CallsD Tryd.prog 28 #[.pointer (some p), .pointer (some q)] .returning w fun e u' w' => e = .returned (.tuple #[]) ∧ u' = .returning ∧ w' = w := by
  refine callsD_of_wpS Tryd.func28 rfl fun c₀ cs hu => ?_
  apply wpS_seq
  apply wpS_region
  simp [wpOpsS, go_sem, recoverD, hu, Tryd.ntmps28, Exit.thenS]
  refine wpS_cond (t := false) (by simp [Act.eval, Array.replicate]) ?_
  simp only [Bool.false_eq_true, if_false]
  refine wpS_of_wp (wp_skip ?_)
  cases c₀
  simp_all [bodyPostS, results, Tryd.results28]
set_option maxHeartbeats 4000000 in
set_option maxRecDepth 100000 in
theorem sections_is (w0 : World) (t : ByteArray) (m n : Nat) (its : List Lex.Item) (okb : Bool) (S : List SecP) (O : List (ByteArray × ByteArray × ByteArray)) (ht : t.size ≤ 100000) (hT : UTabs w0) (hm : m ≤ 1000000) (hn : n ≤ 500000)
    (hk : lexF t m n ⟨0, 0, 0, false⟩ .sec [] = some (its, okb)) (hd : desF its [] [] = some (S, O)) :
    Calls Tryd.prog 29 #[.string t] w0 fun e W' => ∃ A6 c6 ev, e = .returned (.tuple #[.slice A6 S.length c6, ev]) ∧ Below w0.heap.size w0 W' ∧ (∃ rsl H0, rsl.map SecSt.sp = S ∧ Kd.R psl 56 W' w0.heap.size (fun _ => True) (.slice A6 S.length c6) (rsl.reverse.map SecSt.k2) ∧ SecsH W' w0.heap.size H0 rsl) ∧ ((okb = true ∧ ev = .nilIface) ∨ (okb = false ∧ ∃ T q, ev = .iface T q)) := by
  have HD := Lib.hid (desAll_is w0 t m n its okb S O ht hT hm hn hk hd)
  clear hd hk hT
  go_enter Tryd.func29, Tryd.ntmps29
  go_wp2_with fail
  refine HD.out.mono ?_
  rintro e1 W1 ⟨A6, c6, A7, c7, ev, rfl, hb, hS, -, hev⟩
  have HS := Lib.hid hS
  have HE := Lib.hid hev
  have HB := Lib.hid hb
  clear HD hS hev hb
  go_wp2_with fail
  go_ret2
  exact ⟨_, _, _, rfl, HB.out, HS.out, HE.out⟩
def toE (x : ByteArray × ByteArray) : S66 := ⟨x.1, x.2⟩
def toSec (x : SecP) : S62 := ⟨x.1, x.2.map toE⟩
set_option maxHeartbeats 16000000 in
set_option maxRecDepth 100000 in
theorem readBadS_is (w : World) (t : ByteArray) (m n : Nat) (its : List Lex.Item) (S : List SecP) (O : List (ByteArray × ByteArray × ByteArray)) (ht : t.size ≤ 100000) (hT : UTabs w) (hm : m ≤ 1000000) (hn : n ≤ 500000)
    (hk : lexF t m n ⟨0, 0, 0, false⟩ .sec [] = some (its, false)) (hd : desF its [] [] = some (S, O)) :
    Calls Tryd.prog 16 #[.string t] w fun e w' => e = .returned (.tuple #[.slice none 0 0, .int .i64 1]) ∧ Below w.heap.size w w' := by
  have hmf : ∀ (fn : Fn) (first cap : Array Value) (w : World), (Instr.makeFunc fn first cap).run Tryd.prog w = .ok (.func fn first cap) w := fun _ _ _ _ => rfl
  have HB := Aside0.mk (Below.refl w.heap.size w)
  have HK := Lib.hid (fun (w0 : World) (h : UTabs w0) => sections_is w0 t m n its false S O ht h hm hn hk hd)
  have HT := Lib.hid hT
  clear hk hd hT
  go_enter_defers Tryd.func16, Tryd.ntmps16
  go_wp2_with (first
    | ((with_reducible refine gate_dst (N := 2) rfl ?_); refine box_event ?hg (N := 2) ?hd (cs := #[.slice none 0 0]) (t := 38) ?hr ?_; (case hd => rfl); (case hg => rfl); (case hr => first | (go_simp; done) | (go_simp; rfl)); intro g4 hg w2 hbox hb
       have BK4 := Aside0.mk hbox
       have GE4 := Aside0.mk (show w.heap.size ≤ g4 by rw [hg]; exact below_size HB.out)
       have n0 := Aside0.mk (below_step HB.out hb); clear HB; have HB := n0; clear n0 hb hbox hg)
    | ((with_reducible refine gate_dst (N := 3) rfl ?_); refine box_event ?hg (N := 3) ?hd (cs := #[.int .i64 0]) (t := 3) ?hr ?_; (case hd => rfl); (case hg => rfl); (case hr => first | (go_simp; done) | (go_simp; rfl)); intro g5 hg w3 hbox hb
       have BK5 := Aside0.mk hbox
       have NE := Aside0.mk (show g4 ≠ g5 by rw [hg]; exact Nat.ne_of_lt (blk_lt BK4.out))
       have n1 := Aside0.mk (blk_below BK4.out hb); clear BK4; have BK4 := n1; clear n1
       have GE5 := Aside0.mk (show w.heap.size ≤ g5 by rw [hg]; exact below_size HB.out)
       have n0 := Aside0.mk (below_step HB.out hb); clear HB; have HB := n0; clear n0 hb hbox hg)
    | (go_at_call 29; refine (HK.out _ (HT.out.below HB.out)).mono ?_; rintro e w6 ⟨A6, c6, ev, rfl, hb, -, hev⟩
       obtain ⟨T9, q9, rfl⟩ : ∃ T q, ev = .iface T q := by
         rcases hev with ⟨h, -⟩ | ⟨-, h⟩
         · cases h
         · exact h
       have B4 := Aside0.mk (blk_below BK4.out hb)
       have B5 := Aside0.mk (blk_below BK5.out hb)
       have n0 := Aside0.mk (below_step HB.out hb); clear HB; have HB := n0; clear n0 hb hev BK4 BK5
       have xf4 := blk_frozen B4.out 0
       have xf5 := blk_frozen B5.out 0
       have xc4 : w6.cell? ⟨g4, 0, none⟩ = some (.slice none 0 0) := (blk_cell B4.out 0).trans rfl
       have xc5 : w6.cell? ⟨g5, 0, none⟩ = some (.int .i64 0) := (blk_cell B5.out 0).trans rfl
       have hne := NE.out
       have hne2 := NE.out.symm))
  refine leaves_cons (f := 28) (args := #[.pointer (some ⟨g4, 0, none⟩), .pointer (some ⟨g5, 0, none⟩)]) (by simp) (by simp [go_sem]) ?_
  refine (catch_idle2 ⟨g4, 0, none⟩ ⟨g5, 0, none⟩ _).mono ?_
  rintro e u' w'' ⟨rfl, rfl, rfl⟩
  simp [Leaves, settle, results, Tryd.results16, go_sem, xc4, xc5, hne, hne2]
  exact below_set (below_set HB.out GE4.out) GE5.out
set_option maxHeartbeats 16000000 in
set_option maxRecDepth 100000 in
theorem readOkS_is (w : World) (t : ByteArray) (m n : Nat) (its : List Lex.Item) (S : List SecP) (O : List (ByteArray × ByteArray × ByteArray)) (ht : t.size ≤ 100000) (hT : UTabs w) (hm : m ≤ 1000000) (hn : n ≤ 500000) (hS : S.length ≤ 1000000) (hSE : ∀ x ∈ S, x.2.length ≤ 1000000)
    (hk : lexF t m n ⟨0, 0, 0, false⟩ .sec [] = some (its, true)) (hd : desF its [] [] = some (S, O)) :
    Calls Tryd.prog 16 #[.string t] w fun e w' => ∃ v, e = .returned (.tuple #[v, .int .i64 0]) ∧ Kd.R k62 62 w' w.heap.size (fun _ => True) v (S.reverse.map toSec) ∧ Below w.heap.size w w' := by
  have hmf : ∀ (fn : Fn) (first cap : Array Value) (w : World), (Instr.makeFunc fn first cap).run Tryd.prog w = .ok (.func fn first cap) w := fun _ _ _ _ => rfl
  have HB := Aside0.mk (Below.refl w.heap.size w)
  have HK := Lib.hid (fun (w0 : World) (h : UTabs w0) => sections_is w0 t m n its true S O ht h hm hn hk hd)
  have HT := Lib.hid hT
  obtain ⟨L, hL⟩ : ∃ L, S.reverse = L := ⟨_, rfl⟩
  have hLS : S.length = L.length := by rw [← hL, List.length_reverse]
  have HLE := Lib.hid (show ∀ x ∈ L, x.2.length ≤ 1000000 from fun x hx => hSE x (by rw [← hL] at hx; exact List.mem_reverse.1 hx))
  have HL := Lib.hid hL
  rw [hL]
  clear hk hd hT hSE hL
  go_enter_defers Tryd.func16, Tryd.ntmps16
  go_wp2_with (first
    | ((with_reducible refine gate_dst (N := 2) rfl ?_); refine box_event ?hg (N := 2) ?hd (cs := #[.slice none 0 0]) (t := 38) ?hr ?_; (case hd => rfl); (case hg => rfl); (case hr => first | (go_simp; done) | (go_simp; rfl)); intro g4 hg w2 hbox hb
       have BK4 := Aside0.mk hbox
       have GE4 := Aside0.mk (show w.heap.size ≤ g4 by rw [hg]; exact below_size HB.out)
       have n0 := Aside0.mk (below_step HB.out hb); clear HB; have HB := n0; clear n0 hb hbox hg)
    | ((with_reducible refine gate_dst (N := 3) rfl ?_); refine box_event ?hg (N := 3) ?hd (cs := #[.int .i64 0]) (t := 3) ?hr ?_; (case hd => rfl); (case hg => rfl); (case hr => first | (go_simp; done) | (go_simp; rfl)); intro g5 hg w3 hbox hb
       have BK5 := Aside0.mk hbox
       have NE := Aside0.mk (show g4 ≠ g5 by rw [hg]; exact Nat.ne_of_lt (blk_lt BK4.out))
       have n1 := Aside0.mk (blk_below BK4.out hb); clear BK4; have BK4 := n1; clear n1
       have GE5 := Aside0.mk (show w.heap.size ≤ g5 by rw [hg]; exact below_size HB.out)
       have n0 := Aside0.mk (below_step HB.out hb); clear HB; have HB := n0; clear n0 hb hbox hg)
    | (go_at_call 29; refine (HK.out _ (HT.out.below HB.out)).mono ?_; rintro e w6 ⟨A6, c6, ev, rfl, hb, hH, hev⟩
       obtain rfl : ev = .nilIface := by
         rcases hev with ⟨-, h⟩ | ⟨h, -⟩
         · exact h
         · cases h
       rw [hLS]
       have B4 := Aside0.mk (blk_below BK4.out hb)
       have B5 := Aside0.mk (blk_below BK5.out hb)
       have HH := Lib.hid hH
       have n0 := Aside0.mk (below_step HB.out hb); clear HB; have HB := n0; clear n0 hb hev BK4 BK5 hH))
  go_loopg [21] L.length (fun kq v21 w' => ∃ (i : Nat) (v : Value), v21 = .int .i64 i ∧ Aside0 (i ≤ L.length ∧ L.length - i ≤ kq) ∧ Aside0 (w'.heap[g4]? = some (.cells #[v] 38 (0, 0))) ∧ Aside0 (Kd.R k62 62 w' w.heap.size (fun k => w6.heap.size ≤ k) v ((L.map toSec).take i)) ∧ Aside0 (Same w6 w' [38, 62, 66]) ∧ Aside0 (Below w.heap.size w w'))
  case atStart => exact ⟨0, _, rfl, ⟨Nat.zero_le _, Nat.le_refl _⟩, B4, ⟨Kd.R_nil _ _ _ _ _⟩, ⟨Nat.le_refl _, fun _ _ _ h _ => h⟩, HB⟩
  case round =>
    obtain ⟨i, v, rfl, hi, b4, hr, hsm, hbw⟩ := hrel
    rename World => wo
    by_cases ci : i < L.length
    · obtain ⟨rsl, H0, hsp, hps, hse⟩ := HH.out
      have hps2 := (Kd.R_reads' (hsm.out.R hps (by decide))).2.2
      have hlen : S.length = rsl.length := by rw [← hsp, List.length_map]
      rw [show (List.map SecSt.k2 rsl.reverse).length = rsl.length by rw [List.length_map, List.length_reverse]] at hps2
      have hC := secs_read rsl (SecsH.frame (hsm.out.keeps (by decide) (by decide) (by decide)) hsm.out.1 _ hse) hps2
      have hLr : rsl.reverse.map SecSt.sp = L := by rw [List.map_reverse, hsp]; exact HL.out
      rw [hLr] at hC
      obtain ⟨ad, cs, eA, hcl0, ⟨k2, Ae, ce, rfl, hk2, hce, hCe⟩, hcc⟩ := Kd.C_get hC (ByteArray.empty, []) (i : Int) (by omega) (by rw [← hlen, hLS]; omega)
      subst eA
      have hx2 := hcc 0 _ rfl
      have e1 : (i : Int).toNat * psec.sz + 0 = i := by show (i : Int).toNat * 1 + 0 = i; omega
      rw [e1] at hx2
      rw [Int.toNat_natCast] at hk2 hce hCe
      obtain ⟨x, hx⟩ : ∃ x, L.getD i (ByteArray.empty, []) = x := ⟨_, rfl⟩
      rw [hx] at hk2 hce hCe
      have hxm : x ∈ L := by rw [← hx, List.getD_eq_getElem?_getD, List.getElem?_eq_getElem ci]; exact List.getElem_mem ci
      have HXL := Lib.hid (HLE.out x hxm)
      have HX := Lib.hid hx
      have p0 : (0 : Int) ≤ (i : Int) := by omega
      have p1 : (i : Int) < (L.length : Int) := by omega
      have hm0 : wo.cell? ⟨k2, 0, none⟩ = some (.string x.1) := (blk_cell hk2 0).trans rfl
      have hm1 : wo.cell? ⟨k2, 1, none⟩ = some (.slice Ae x.2.length ce) := (blk_cell hk2 1).trans rfl
      have HK2 := Lib.hid hk2
      have HCE := Lib.hid hCe
      have HW := Aside0.mk (Below.refl wo.heap.size wo)
      clear hx hxm hk2 hce hCe hcc hcl0 hC hLr hps2 hlen e1 hsp hps hse
      go_wp2_with (first
        | ((with_reducible refine gate_dst (N := 8) rfl ?_); refine box_event ?hg (N := 8) ?hd (cs := #[.string (⟨#[]⟩ : ByteArray), .slice none 0 0]) (t := 62) ?hr ?_; (case hd => rfl); (case hg => rfl); (case hr => first | (go_simp; done) | (go_simp; rfl)); intro g8 hg w7 hbox hb
           have BK8 := Aside0.mk hbox
           have GE8 := Aside0.mk (show wo.heap.size ≤ g8 by rw [hg]; exact below_size HW.out)
           have n0 := Aside0.mk (below_step HW.out hb); clear HW; have HW := n0; clear n0 hb hbox hg
           have hz0 : w7.cell? ⟨g8, 0, none⟩ = some (.string (⟨#[]⟩ : ByteArray)) := (blk_cell BK8.out 0).trans rfl
           have hz1 : w7.cell? ⟨g8, 1, none⟩ = some (.slice none 0 0) := (blk_cell BK8.out 1).trans rfl
           have hf0 := blk_frozen BK8.out 0
           have hf1 := blk_frozen BK8.out 1
           have HKb := Lib.hid (blk_below HK2.out HW.out)
           have hn0 : w7.cell? ⟨k2, 0, none⟩ = some (.string x.1) := (blk_cell HKb.out 0).trans rfl
           have hn1 : w7.cell? ⟨k2, 1, none⟩ = some (.slice Ae x.2.length ce) := (blk_cell HKb.out 1).trans rfl
           have hne28 : k2 ≠ g8 := Nat.ne_of_lt (Nat.lt_of_lt_of_le (blk_lt HK2.out) GE8.out)
           have hne82 := hne28.symm))
      go_loopg [35] x.2.length (fun kj v35 w' => ∃ (j : Nat) (v2 : Value), v35 = .int .i64 j ∧ Aside0 (j ≤ x.2.length ∧ x.2.length - j ≤ kj) ∧ Aside0 (w'.heap[g8]? = some (.cells #[.string x.1, v2] 62 (0, 0))) ∧ Aside0 (Kd.R k66 66 w' wo.heap.size (fun k => k ≠ g8) v2 ((x.2.map toE).take j)) ∧ Aside0 (Below wo.heap.size wo w'))
      case atStart => exact ⟨0, _, rfl, ⟨Nat.zero_le _, Nat.le_refl _⟩, ⟨blk_put (blk_put BK8.out 0 _ rfl) 1 _ rfl⟩, ⟨Kd.R_nil _ _ _ _ _⟩, ⟨below_set (below_set HW.out GE8.out) GE8.out⟩⟩
      case round =>
        obtain ⟨j, v2, rfl, hj, b8, hr2, hb2⟩ := hrel
        by_cases cj : j < x.2.length
        · obtain ⟨ad2, cs2, eA2, hcl2, ⟨ge, rfl, hge⟩, hcc2⟩ := Kd.C_get (Kd.C_below HCE.out hb2.out) (ByteArray.empty, ByteArray.empty) (j : Int) (by omega) (by omega)
          subst eA2
          have hy2 := hcc2 0 _ rfl
          have e2 : (j : Int).toNat * pent.sz + 0 = j := by show (j : Int).toNat * 1 + 0 = j; omega
          rw [e2] at hy2
          rw [Int.toNat_natCast] at hge
          obtain ⟨y, hy⟩ : ∃ y, x.2.getD j (ByteArray.empty, ByteArray.empty) = y := ⟨_, rfl⟩
          rw [hy] at hge
          have HY := Lib.hid hy
          have q0 : (0 : Int) ≤ (j : Int) := by omega
          have q1 : (j : Int) < (x.2.length : Int) := by omega
          have hx8 : wr.cell? ⟨g8, 1, none⟩ = some v2 := (blk_cell b8.out 1).trans rfl
          have hg0 : wr.cell? ⟨ge, 0, none⟩ = some (.string y.1) := (blk_cell (show wr.heap[ge]? = _ from hge) 0).trans rfl
          have hg1 : wr.cell? ⟨ge, 1, none⟩ = some (.string y.2) := (blk_cell (show wr.heap[ge]? = _ from hge) 1).trans rfl
          have HGE := Lib.hid (show wr.heap[ge]? = some (.cells #[.string y.1, .string y.2] 65 (0, 0)) from hge)
          clear hy hge hcc2 hcl2 e2
          go_wp2_with fail
          refine wp_region_noPanic ?_
          refine wp_region_D (fun w' : World => w'.cell? ⟨g8, 1, none⟩ = some v2 ∧ w'.cell? ⟨ge, 0, none⟩ = some (.string y.1) ∧ w'.cell? ⟨ge, 1, none⟩ = some (.string y.2)) 14 (by kernel_rfl) ?_
          have hS0 : (fun w' : World => w'.cell? ⟨g8, 1, none⟩ = some v2 ∧ w'.cell? ⟨ge, 0, none⟩ = some (.string y.1) ∧ w'.cell? ⟨ge, 1, none⟩ = some (.string y.2)) wr.drew := ⟨hx8, hg0, hg1⟩
          refine wpAnyD_take (i := 0) (v := ?vu0) rfl (by kernel_rfl) (by kernel_rfl) (by kernel_rfl) (by kernel_rfl) (fun _ _ _ h => h) (Or.inl ⟨by rfl, ?hu0⟩) hS0 ?ru0
          case hu0 => (intro w hSw; (try dsimp only at hSw); obtain ⟨hS1, hS2, hS3⟩ := hSw; go_simp; try (with_reducible rfl))
          try simp only [Act.put, List.setIfInBounds_toArray, List.set_cons_zero, List.set_cons_succ]
          refine wpAnyD_take (i := 1) (v := ?vu1) rfl (by kernel_rfl) (by kernel_rfl) (by kernel_rfl) (by kernel_rfl) (fun _ _ _ h => h) (Or.inl ⟨by rfl, ?hu1⟩) hS0 ?ru1
          case hu1 => (intro w hSw; (try dsimp only at hSw); obtain ⟨hS1, hS2, hS3⟩ := hSw; go_simp; try (with_reducible rfl))
          try simp only [Act.put, List.setIfInBounds_toArray, List.set_cons_zero, List.set_cons_succ]
          refine wpAnyD_take (i := 2) (v := ?vu2) rfl (by kernel_rfl) (by kernel_rfl) (by kernel_rfl) (by kernel_rfl) (fun _ _ _ h => h) (Or.inl ⟨by rfl, ?hu2⟩) hS0 ?ru2
          case hu2 => (intro w hSw; (try dsimp only at hSw); obtain ⟨hS1, hS2, hS3⟩ := hSw; go_simp; try (with_reducible rfl))
          try simp only [Act.put, List.setIfInBounds_toArray, List.set_cons_zero, List.set_cons_succ]
          refine wpAnyD_take (i := 3) (v := ?vu3) rfl (by kernel_rfl) (by kernel_rfl) (by kernel_rfl) (by kernel_rfl) (fun _ _ _ h => h) (Or.inl ⟨by rfl, ?hu3⟩) hS0 ?ru3
          case hu3 => (intro w hSw; (try dsimp only at hSw); obtain ⟨hS1, hS2, hS3⟩ := hSw; go_simp; try (with_reducible rfl))
          try simp only [Act.put, List.setIfInBounds_toArray, List.set_cons_zero, List.set_cons_succ]
          refine wpAnyD_take (i := 4) (v := ?vu4) rfl (by kernel_rfl) (by kernel_rfl) (by kernel_rfl) (by kernel_rfl) (fun _ _ _ h => h) (Or.inl ⟨by rfl, ?hu4⟩) hS0 ?ru4
          case hu4 => (intro w hSw; (try dsimp only at hSw); obtain ⟨hS1, hS2, hS3⟩ := hSw; go_simp; try (with_reducible rfl))
          try simp only [Act.put, List.setIfInBounds_toArray, List.set_cons_zero, List.set_cons_succ]
          refine wpAnyD_take (i := 5) (v := ?vu5) rfl (by kernel_rfl) (by kernel_rfl) (by kernel_rfl) (by kernel_rfl) (fun _ _ _ h => h) (Or.inl ⟨by rfl, ?hu5⟩) hS0 ?ru5
          case hu5 => (intro w hSw; (try dsimp only at hSw); obtain ⟨hS1, hS2, hS3⟩ := hSw; go_simp; try (with_reducible rfl))
          try simp only [Act.put, List.setIfInBounds_toArray, List.set_cons_zero, List.set_cons_succ]
          refine wpAnyD_take (i := 6) (v := ?vu6) rfl (by kernel_rfl) (by kernel_rfl) (by kernel_rfl) (by kernel_rfl) (fun _ _ _ h => h) (Or.inl ⟨by rfl, ?hu6⟩) hS0 ?ru6
          case hu6 => (intro w hSw; (try dsimp only at hSw); obtain ⟨hS1, hS2, hS3⟩ := hSw; go_simp; try (with_reducible rfl))
          try simp only [Act.put, List.setIfInBounds_toArray, List.set_cons_zero, List.set_cons_succ]
          refine wpAnyD_take (i := 7) (v := ?vu7) rfl (by kernel_rfl) (by kernel_rfl) (by kernel_rfl) (by kernel_rfl) (fun _ _ _ h => h) (Or.inl ⟨by rfl, ?hu7⟩) hS0 ?ru7
          case hu7 => (intro w hSw; (try dsimp only at hSw); obtain ⟨hS1, hS2, hS3⟩ := hSw; go_simp; try (with_reducible rfl))
          try simp only [Act.put, List.setIfInBounds_toArray, List.set_cons_zero, List.set_cons_succ]
          refine wpAnyD_take (i := 8) (v := ?vu8) rfl (by kernel_rfl) (by kernel_rfl) (by kernel_rfl) (by kernel_rfl) (fun _ _ _ h => h) (Or.inl ⟨by rfl, ?hu8⟩) hS0 ?ru8
          case hu8 => (intro w hSw; (try dsimp only at hSw); obtain ⟨hS1, hS2, hS3⟩ := hSw; go_simp; try (with_reducible rfl))
          try simp only [Act.put, List.setIfInBounds_toArray, List.set_cons_zero, List.set_cons_succ]
          refine wpAnyD_take (i := 9) (v := ?vu9) rfl (by kernel_rfl) (by kernel_rfl) (by kernel_rfl) (by kernel_rfl) (fun _ _ _ h => h) (Or.inl ⟨by rfl, ?hu9⟩) hS0 ?ru9
          case hu9 => (intro w hSw; (try dsimp only at hSw); obtain ⟨hS1, hS2, hS3⟩ := hSw; go_simp; try (with_reducible rfl))
          try simp only [Act.put, List.setIfInBounds_toArray, List.set_cons_zero, List.set_cons_succ]
          refine wpAnyD_one (i := 10) (by kernel_rfl) rfl (fun K hK => ?_)
          go_simp
          refine hK.out _ _ (Or.inr ⟨hx8, hg0, hg1⟩) (fun _ => ?_)
          clear hK K
          try simp only [Act.put, List.setIfInBounds_toArray, List.set_cons_zero, List.set_cons_succ]
          refine wpAnyD_one (i := 11) (by kernel_rfl) rfl (fun K hK => ?_)
          go_simp
          refine hK.out _ _ (Or.inr ⟨pw_cell_below (below_alloc (Below.refl _ _) _) hx8, pw_cell_below (below_alloc (Below.refl _ _) _) hg0, pw_cell_below (below_alloc (Below.refl _ _) _) hg1⟩) (fun _ => ?_)
          clear hK K
          try simp only [Act.put, List.setIfInBounds_toArray, List.set_cons_zero, List.set_cons_succ]
          refine wpAnyD_one (i := 12) (by kernel_rfl) rfl (fun K hK => ?_)
          refine Kd.R_append_step k66 (w0 := wo) (W := wr.drew) wo.heap.size (by rfl) _ _ 60 66 (.agg #[(.string ⟨#[]⟩), (.string ⟨#[]⟩)]) 32 (by rfl) Tryd.underlying60 infoE rfl (by decide) (by decide) v2 ((x.2.map toE).take j) (toE y) [.string y.1, .string y.2] (fun k => k ≠ g8) (fun _ => False) (by rfl) (by rfl) (k66_mkM _ _ _ _) (fun _ h => h.elim) ?aF (Kd.R_drew hr2.out) (below_drew hb2.out) (below_drew hb2.out).size ?aL ?_
          (case aF => exact (fun k hk he => by have h1 := blk_lt b8.out; subst he; exact Nat.lt_irrefl _ (Nat.lt_of_lt_of_le h1 hk))); (case aL => have h5 := HXL.out; rw [List.length_take, List.length_map]; omega)
          intro v1 w9 ho hb3 hg3 hat
          have hro := Aside0.mk ho
          have b89 := Aside0.mk (blk_grown (show wr.drew.heap[g8]? = _ from b8.out) hg3 (fun he => hr2.out.1 g8 (by first | exact he.symm | exact he) rfl))
          have bg9 := Aside0.mk (blk_grown (show wr.drew.heap[ge]? = _ from HGE.out) hg3 (Kd.R_ne (Kd.R_drew hr2.out) (show wr.drew.heap[ge]? = _ from HGE.out) (by decide)))
          have hbw2 := Aside0.mk hb3
          obtain ⟨A1, c1, e1⟩ := Kd.R_slice ho
          subst e1
          have zc8 : w9.cell? ⟨g8, 1, none⟩ = some v2 := (blk_cell b89.out 1).trans rfl
          have zf8 := blk_frozen b89.out 1
          have zg0 : w9.cell? ⟨ge, 0, none⟩ = some (.string y.1) := (blk_cell bg9.out 0).trans rfl
          have zg1 : w9.cell? ⟨ge, 1, none⟩ = some (.string y.2) := (blk_cell bg9.out 1).trans rfl
          clear ho hb3 hg3 hat
          refine hK.out _ _ (Or.inr ⟨zc8, zg0, zg1⟩) (fun _ => ?_)
          clear hK K
          try simp only [Act.put, List.setIfInBounds_toArray, List.set_cons_zero, List.set_cons_succ]
          refine wpAnyD_one (i := 13) (by kernel_rfl) rfl (fun K hK => ?_)
          go_simp
          refine hK.out _ _ (Or.inr ⟨zc8, zg0, zg1⟩) (fun _ => ?_)
          clear hK K
          try simp only [Act.put, List.setIfInBounds_toArray, List.set_cons_zero, List.set_cons_succ]
          refine wpAnyD_one (i := 14) (by kernel_rfl) rfl (fun K hK => ?_)
          go_simp
          refine hK.out _ _ (Or.inl rfl) (fun _ => ?_)
          clear hK K
          try simp only [Act.put, List.setIfInBounds_toArray, List.set_cons_zero, List.set_cons_succ]
          refine wpAnyD_done (by kernel_rfl) ?_ _
          refine NoPanic.normal ?_
          try go_wp2
          go_roundg (x.2.length - (j + 1))
          case measure => have h6 := hj.out; omega
          case rel =>
            refine ⟨j + 1, _, by first | rfl | (have h7 := HXL.out; rw [show wrap64 ((j : Int) + 1) = ((j + 1 : Nat) : Int) from by unfold wrap64; omega]) | simp, ⟨cj, Nat.le_refl _⟩, ⟨blk_put b89.out 1 _ rfl⟩, ⟨?_⟩, ⟨below_set hbw2.out GE8.out⟩⟩
            have e : (x.2.map toE).take (j + 1) = (x.2.map toE).take j ++ [toE y] := by
              have h1 := HY.out
              rw [List.getD_eq_getElem?_getD, List.getElem?_eq_getElem cj] at h1
              have h1 : x.2[j] = y := h1
              rw [List.take_add_one, List.getElem?_map, List.getElem?_eq_getElem cj, h1]; rfl
            rw [e]
            have h := Kd.R_far (p := ⟨g8, 1, none⟩) hro.out (fun k hk => hk) (.slice A1 ((x.2.map toE).take j ++ [toE y]).length c1)
            first | exact h | (rw [show ((x.2.map toE).take j ++ [toE y]).length = min j x.2.length + 1 from by simp] at h; exact h) | (simp at h ⊢; exact h)
        · have hje : j = x.2.length := by have := hj.out.1; omega
          subst hje
          have htk : (x.2.map toE).take x.2.length = x.2.map toE := List.take_of_length_le (by rw [List.length_map]; exact Nat.le_refl _)
          rw [htk] at hr2
          have hcj : ¬ ((x.2.length : Int) < (x.2.length : Int)) := by omega
          have HR1 := Aside0.mk (Kd.R_below hr.out hb2.out)
          have b4r := Aside0.mk (blk_below b4.out hb2.out)
          have xg4 : wr.cell? ⟨g4, 0, none⟩ = some v := (blk_cell b4r.out 0).trans rfl
          have xg8a : wr.cell? ⟨g8, 0, none⟩ = some (.string x.1) := (blk_cell b8.out 0).trans rfl
          have xg8b : wr.cell? ⟨g8, 1, none⟩ = some v2 := (blk_cell b8.out 1).trans rfl
          have hok8 := Lib.hid (show ∀ k, wo.heap.size ≤ k → w6.heap.size ≤ k ∧ some k ≠ v.ownBlock from fun k hk => ⟨Nat.le_trans hsm.out.1 hk, fun he => by have := Kd.R_lt hr.out k he.symm; omega⟩)
          have HI := Aside0.mk (Kd.R_lower (Kd.R_mono (Kd.R_bound hr2.out) (ok' := fun k => wo.heap.size ≤ k) (fun k hk => hk.2.1)) (below_size hbw.out))
          have hbr := Aside0.mk (below_step hbw.out hb2.out)
          have hsr := Aside0.mk (hsm.out.trans (Same.below hb2.out [38, 62, 66]))
          go_wp2_with (first
            | ((with_reducible refine gate_builtin (b := .append) (xs := #[.tmp 54, .tmp 56]) rfl ?_); at_builtin; refine Kd.R_append k62 (w0 := w) w.heap.size rfl (.tmp 54) (.tmp 56) 38 62 (.agg #[(.string ⟨#[]⟩), (.slice none 0 0)]) 40 rfl Tryd.underlying38 infoS rfl (by decide) (by decide) v ((L.map toSec).take i) (toSec x) [.string x.1, v2] (fun k => w6.heap.size ≤ k) (fun k => wo.heap.size ≤ k) rfl (by first | (go_simp; done) | (go_simp; rfl)) ?aP ?aK ?aF ?aO ?aB ?aS ?aL ?_
               (case aP => exact k62_mkM _ _ _ (toSec x) (by (with_reducible repeat (first | apply Kd.R_alloc | apply Kd.R_drewN | apply Kd.R_drew)); exact HI.out))
               (case aK => exact hok8.out)
               (case aF => exact (fun k hk => Nat.le_trans hsr.out.1 (Nat.le_trans (by first | exact Nat.le_refl _ | simp) hk)))
               (case aO => exact (by (with_reducible repeat (first | apply Kd.R_alloc | apply Kd.R_drewN | apply Kd.R_drew)); exact HR1.out))
               (case aB => exact (by repeat (first | (with_reducible first | exact hbr.out | apply below_alloc | apply pw_below_drewN | apply below_drew1) | exact hbr.out)))
               (case aS => exact (by repeat (first | exact below_size hbr.out | exact (below_size hbr.out))))
               (case aL => rw [List.length_take, List.length_map]; omega)
               intro v1 w10 ho hb3 hg3 hat
               have hro := Aside0.mk ho
               have b410 := Aside0.mk (blk_grown (g := g4) b4r.out hg3 (Kd.R_ne HR1.out b4r.out (by decide)))
               have hsm2 := Aside0.mk (hsr.out.trans ((Same.grown HR1.out hg3 hg3.size).mono (by simp)))
               have hbw2 := Aside0.mk hb3
               obtain ⟨A1, c1, e1⟩ := Kd.R_slice ho
               subst e1
               have zc4 : w10.cell? ⟨g4, 0, none⟩ = some v := (blk_cell b410.out 0).trans rfl
               have zf4 := blk_frozen b410.out 0
               clear ho hb3 hg3 hat))
          have hne : ∀ k, w6.heap.size ≤ k → k ≠ g4 := fun k hk he => by have := blk_lt B4.out; omega
          go_roundg (L.length - (i + 1))
          case measure => have h6 := hi.out; omega
          case rel =>
            refine ⟨i + 1, _, by first | rfl | (rw [show wrap64 ((i : Int) + 1) = ((i + 1 : Nat) : Int) from by unfold wrap64; omega]) | simp, ⟨ci, Nat.le_refl _⟩, ⟨blk_put b410.out 0 _ rfl⟩, ⟨?_⟩, ⟨hsm2.out.trans ((Same.set b410.out 0 _).mono (by simp))⟩, ⟨below_set hbw2.out GE4.out⟩⟩
            have e : (L.map toSec).take (i + 1) = (L.map toSec).take i ++ [toSec x] := by
              have h1 := HX.out
              rw [List.getD_eq_getElem?_getD, List.getElem?_eq_getElem ci] at h1
              have h1 : L[i] = x := h1
              rw [List.take_add_one, List.getElem?_map, List.getElem?_eq_getElem ci, h1]; rfl
            rw [e]
            have h := Kd.R_far (p := ⟨g4, 0, none⟩) hro.out hne (.slice A1 ((L.map toSec).take i ++ [toSec x]).length c1)
            first | exact h | (rw [show ((L.map toSec).take i ++ [toSec x]).length = min i L.length + 1 from by simp] at h; exact h) | (simp at h ⊢; exact h)
    · have hie : i = L.length := by have := hi.out.1; omega
      subst hie
      have htk : (L.map toSec).take L.length = L.map toSec := List.take_of_length_le (by rw [List.length_map]; exact Nat.le_refl _)
      rw [htk] at hr
      obtain ⟨Av, cv, ev⟩ := Kd.R_slice hr.out
      subst ev
      have hne := NE.out
      have hne2 := NE.out.symm
      have b5 := Aside0.mk (hsm.out.2 _ _ _ B5.out (by decide))
      have xc4 : wo.cell? ⟨g4, 0, none⟩ = some (.slice Av (L.map toSec).length cv) := (blk_cell b4.out 0).trans rfl
      have xf4 := blk_frozen b4.out 0
      have xc5 : wo.cell? ⟨g5, 0, none⟩ = some (.int .i64 0) := (blk_cell b5.out 0).trans rfl
      have xf5 := blk_frozen b5.out 0
      have hok4 := Lib.hid (show ∀ k, w6.heap.size ≤ k → k ≠ g4 from fun k hk he => by have := blk_lt B4.out; omega)
      have hok5 := Lib.hid (show ∀ k, w6.heap.size ≤ k → k ≠ g5 from fun k hk he => by have := blk_lt B5.out; omega)
      have hci : ¬ ((L.length : Int) < (L.length : Int)) := by omega
      go_wp2_with fail
      refine leaves_cons (f := 28) (args := #[.pointer (some ⟨g4, 0, none⟩), .pointer (some ⟨g5, 0, none⟩)]) (by simp) (by simp [go_sem]) ?_
      refine (catch_idle2 ⟨g4, 0, none⟩ ⟨g5, 0, none⟩ _).mono ?_
      rintro e u' w'' ⟨rfl, rfl, rfl⟩
      simp [Leaves, settle, results, Tryd.results16, go_sem, xc4, xc5, hne, hne2]
      refine ⟨Kd.R_mono (ok := fun k => w6.heap.size ≤ k) ?_ (fun _ _ => trivial), ?_⟩
      · have h := Kd.R_far (p := ⟨g5, 0, none⟩) (Kd.R_far (p := ⟨g4, 0, none⟩) hr.out hok4.out (.slice Av (L.map toSec).length cv)) hok5.out (.int .i64 0)
        simpa using h
      · exact below_set (below_set hbw.out GE4.out) GE5.out
end Go.Proofs.YtlmmgienbmghmaaDoor.DoorV
