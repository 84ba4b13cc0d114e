/- impl.UnitRead by hand: the options that are read, the door's defer and recover. -/
import Derived.Test.YtlmmgienbmghmaaDoorLexZ
import Derived.Test.YtlmmgienbmghmaaDoorM0
import Derived.Defers
set_option linter.unusedVariables false
set_option linter.unusedSimpArgs false
namespace Go.Proofs.YtlmmgienbmghmaaDoor.DoorU
open Go.RowKit Go.Proofs.YtlmmgienbmghmaaDoorW.PrintWords Go.Proofs.YtlmmgienbmghmaaDoorW.PrintLast Go.Proofs.YtlmmgienbmghmaaDoorW.PrintMore Go.Proofs.YtlmmgienbmghmaaDoor.M Go.Proofs.YtlmmgienbmghmaaDoor.Lex
attribute [local go_sem] max2_int min2_int max_two min_two max_three min_three max_four min_four
theorem catch_idle (p q : Addr) (w : World) :
    CallsD Tryd.prog 20 #[.pointer (some p), .pointer (some q)] .returning w fun e u' w' => e = .returned (.tuple #[]) ∧ u' = .returning ∧ w' = w := by
  refine callsD_of_wpS Tryd.func20 rfl fun c₀ cs hu => ?_
  apply wpS_seq
  apply wpS_region
  simp [wpOpsS, go_sem, recoverD, hu, Tryd.ntmps20, Exit.thenS]
  refine wpS_cond (t := false) (by simp [Act.eval, Array.replicate]) ?_
  simp only [Bool.false_eq_true, if_false]
  refine wpS_of_wp (wp_skip ?_)
  cases c₀
  simp_all [bodyPostS, results, Tryd.results20]
set_option maxHeartbeats 4000000 in
set_option maxRecDepth 100000 in
theorem options_is (w0 : World) (t : ByteArray) (m n : Nat) (its : List Lex.Item) (okb : Bool) (S : List SecP) (O : List (ByteArray × ByteArray × ByteArray)) (ht : t.size ≤ 100000) (hT : UTabs w0) (hm : m ≤ 1000000) (hn : n ≤ 500000)
    (hk : lexF t m n ⟨0, 0, 0, false⟩ .sec [] = some (its, okb)) (hd : desF its [] [] = some (S, O)) :
    Calls Tryd.prog 21 #[.string t] w0 fun e W' => ∃ A7 c7 ev, e = .returned (.tuple #[.slice A7 O.length c7, ev]) ∧ Below w0.heap.size w0 W' ∧ Kd.R popt 47 W' w0.heap.size (fun _ => True) (.slice A7 O.length c7) O ∧ ((okb = true ∧ ev = .nilIface) ∨ (okb = false ∧ ∃ T q, ev = .iface T q)) := by
  have HD := Lib.hid (desAll_is w0 t m n its okb S O ht hT hm hn hk hd)
  clear hd hk hT
  go_enter Tryd.func21, Tryd.ntmps21
  go_wp2_with fail
  refine HD.out.mono ?_
  rintro e1 W1 ⟨A6, c6, A7, c7, ev, rfl, hb, -, hR, hev⟩
  have HR := Lib.hid hR
  have HE := Lib.hid hev
  have HB := Lib.hid hb
  clear HD hR hev hb
  go_wp2_with fail
  go_ret2
  exact ⟨_, _, _, rfl, HB.out, HR.out, HE.out⟩
def toS (x : ByteArray × ByteArray × ByteArray) : S28 := ⟨x.1, x.2.1, x.2.2⟩
set_option maxHeartbeats 16000000 in
set_option maxRecDepth 100000 in
theorem readBad_is (w : World) (t : ByteArray) (m n : Nat) (its : List Lex.Item) (S : List SecP) (O : List (ByteArray × ByteArray × ByteArray)) (ht : t.size ≤ 100000) (hT : UTabs w) (hm : m ≤ 1000000) (hn : n ≤ 500000)
    (hk : lexF t m n ⟨0, 0, 0, false⟩ .sec [] = some (its, false)) (hd : desF its [] [] = some (S, O)) :
    Calls Tryd.prog 11 #[.string t] w fun e w' => e = .returned (.tuple #[.slice none 0 0, .int .i64 1]) ∧ Below w.heap.size w w' := by
  have hmf : ∀ (fn : Fn) (first cap : Array Value) (w : World), (Instr.makeFunc fn first cap).run Tryd.prog w = .ok (.func fn first cap) w := fun _ _ _ _ => rfl
  have HB := Aside0.mk (Below.refl w.heap.size w)
  have HK := Lib.hid (fun (w0 : World) (h : UTabs w0) => options_is w0 t m n its false S O ht h hm hn hk hd)
  have HT := Lib.hid hT
  clear hk hd hT
  go_enter_defers Tryd.func11, Tryd.ntmps11
  go_wp2_with (first
    | ((with_reducible refine gate_dst (N := 2) rfl ?_); refine box_event ?hg (N := 2) ?hd (cs := #[.slice none 0 0]) (t := 29) ?hr ?_; (case hd => rfl); (case hg => rfl); (case hr => first | (go_simp; done) | (go_simp; rfl)); intro g4 hg w2 hbox hb
       have BK4 := Aside0.mk hbox
       have GE4 := Aside0.mk (show w.heap.size ≤ g4 by rw [hg]; exact below_size HB.out)
       have n0 := Aside0.mk (below_step HB.out hb); clear HB; have HB := n0; clear n0 hb hbox hg)
    | ((with_reducible refine gate_dst (N := 3) rfl ?_); refine box_event ?hg (N := 3) ?hd (cs := #[.int .i64 0]) (t := 3) ?hr ?_; (case hd => rfl); (case hg => rfl); (case hr => first | (go_simp; done) | (go_simp; rfl)); intro g5 hg w3 hbox hb
       have BK5 := Aside0.mk hbox
       have NE := Aside0.mk (show g4 ≠ g5 by rw [hg]; exact Nat.ne_of_lt (blk_lt BK4.out))
       have n1 := Aside0.mk (blk_below BK4.out hb); clear BK4; have BK4 := n1; clear n1
       have GE5 := Aside0.mk (show w.heap.size ≤ g5 by rw [hg]; exact below_size HB.out)
       have n0 := Aside0.mk (below_step HB.out hb); clear HB; have HB := n0; clear n0 hb hbox hg)
    | (go_at_call 21; refine (HK.out _ (HT.out.below HB.out)).mono ?_; rintro e w6 ⟨A7, c7, ev, rfl, hb, -, hev⟩
       obtain ⟨T9, q9, rfl⟩ : ∃ T q, ev = .iface T q := by
         rcases hev with ⟨h, -⟩ | ⟨-, h⟩
         · cases h
         · exact h
       have B4 := Aside0.mk (blk_below BK4.out hb)
       have B5 := Aside0.mk (blk_below BK5.out hb)
       have n0 := Aside0.mk (below_step HB.out hb); clear HB; have HB := n0; clear n0 hb hev BK4 BK5
       have xf4 := blk_frozen B4.out 0
       have xf5 := blk_frozen B5.out 0
       have xc4 : w6.cell? ⟨g4, 0, none⟩ = some (.slice none 0 0) := (blk_cell B4.out 0).trans rfl
       have xc5 : w6.cell? ⟨g5, 0, none⟩ = some (.int .i64 0) := (blk_cell B5.out 0).trans rfl
       have hne := NE.out
       have hne2 := NE.out.symm))
  refine leaves_cons (f := 20) (args := #[.pointer (some ⟨g4, 0, none⟩), .pointer (some ⟨g5, 0, none⟩)]) (by simp) (by simp [go_sem]) ?_
  refine (catch_idle ⟨g4, 0, none⟩ ⟨g5, 0, none⟩ _).mono ?_
  rintro e u' w'' ⟨rfl, rfl, rfl⟩
  simp [Leaves, settle, results, Tryd.results11, go_sem, xc4, xc5, hne, hne2]
  exact below_set (below_set HB.out GE4.out) GE5.out
theorem len_toS (O : List (ByteArray × ByteArray × ByteArray)) : (O.map toS).length = O.length := List.length_map ..
set_option maxHeartbeats 16000000 in
set_option maxRecDepth 100000 in
theorem readOk_is (w : World) (t : ByteArray) (m n : Nat) (its : List Lex.Item) (S : List SecP) (O : List (ByteArray × ByteArray × ByteArray)) (ht : t.size ≤ 100000) (hT : UTabs w) (hm : m ≤ 1000000) (hn : n ≤ 500000) (hO : O.length ≤ 1000000)
    (hk : lexF t m n ⟨0, 0, 0, false⟩ .sec [] = some (its, true)) (hd : desF its [] [] = some (S, O)) :
    Calls Tryd.prog 11 #[.string t] w fun e w' => ∃ v, e = .returned (.tuple #[v, .int .i64 0]) ∧ Kd.R k28 28 w' w.heap.size (fun _ => True) v (O.map toS) ∧ Below w.heap.size w w' := by
  have hmf : ∀ (fn : Fn) (first cap : Array Value) (w : World), (Instr.makeFunc fn first cap).run Tryd.prog w = .ok (.func fn first cap) w := fun _ _ _ _ => rfl
  have HB := Aside0.mk (Below.refl w.heap.size w)
  have HK := Lib.hid (fun (w0 : World) (h : UTabs w0) => options_is w0 t m n its true S O ht h hm hn hk hd)
  have HT := Lib.hid hT
  clear hk hd hT
  go_enter_defers Tryd.func11, Tryd.ntmps11
  go_wp2_with (first
    | ((with_reducible refine gate_dst (N := 2) rfl ?_); refine box_event ?hg (N := 2) ?hd (cs := #[.slice none 0 0]) (t := 29) ?hr ?_; (case hd => rfl); (case hg => rfl); (case hr => first | (go_simp; done) | (go_simp; rfl)); intro g4 hg w2 hbox hb
       have BK4 := Aside0.mk hbox
       have GE4 := Aside0.mk (show w.heap.size ≤ g4 by rw [hg]; exact below_size HB.out)
       have n0 := Aside0.mk (below_step HB.out hb); clear HB; have HB := n0; clear n0 hb hbox hg)
    | ((with_reducible refine gate_dst (N := 3) rfl ?_); refine box_event ?hg (N := 3) ?hd (cs := #[.int .i64 0]) (t := 3) ?hr ?_; (case hd => rfl); (case hg => rfl); (case hr => first | (go_simp; done) | (go_simp; rfl)); intro g5 hg w3 hbox hb
       have BK5 := Aside0.mk hbox
       have NE := Aside0.mk (show g4 ≠ g5 by rw [hg]; exact Nat.ne_of_lt (blk_lt BK4.out))
       have n1 := Aside0.mk (blk_below BK4.out hb); clear BK4; have BK4 := n1; clear n1
       have GE5 := Aside0.mk (show w.heap.size ≤ g5 by rw [hg]; exact below_size HB.out)
       have n0 := Aside0.mk (below_step HB.out hb); clear HB; have HB := n0; clear n0 hb hbox hg)
    | (go_at_call 21; refine (HK.out _ (HT.out.below HB.out)).mono ?_; rintro e w6 ⟨A7, c7, ev, rfl, hb, hR, hev⟩
       obtain rfl : ev = .nilIface := by
         rcases hev with ⟨-, h⟩ | ⟨h, -⟩
         · exact h
         · cases h
       have B4 := Aside0.mk (blk_below BK4.out hb)
       have B5 := Aside0.mk (blk_below BK5.out hb)
       have HR := Aside0.mk hR
       have n0 := Aside0.mk (below_step HB.out hb); clear HB; have HB := n0; clear n0 hb hev BK4 BK5 hR))
  go_loopg [18] O.length (fun kq v18 w' => ∃ (i : Nat) (v : Value), v18 = .int .i64 i ∧ Aside0 (i ≤ O.length ∧ O.length - i ≤ kq) ∧ Aside0 (w'.heap[g4]? = some (.cells #[v] 29 (0, 0))) ∧ Aside0 (Kd.R k28 28 w' w.heap.size (fun k => w6.heap.size ≤ k) v ((O.map toS).take i)) ∧ Aside0 (Same w6 w' [29, 28]) ∧ Aside0 (Below w.heap.size w w'))
  case atStart => exact ⟨0, _, rfl, ⟨Nat.zero_le _, Nat.le_refl _⟩, B4, ⟨Kd.R_nil _ _ _ _ _⟩, ⟨Nat.le_refl _, fun _ _ _ h _ => h⟩, HB⟩
  case round =>
    obtain ⟨i, v, rfl, hi, b4, hr, hsm, hbw⟩ := hrel
    by_cases ci : i < O.length
    · have hR2 := hsm.out.R HR.out (by decide)
      obtain ⟨A7', c7', he7, hc7, hC7⟩ := Kd.R_reads hR2
      injection he7 with hA7 _ hcc7
      subst hA7 hcc7
      obtain ⟨ad, cs, eA, hcl0, ⟨go, rfl, hgo⟩, hcc⟩ := Kd.C_get hC7 (ByteArray.empty, ByteArray.empty, ByteArray.empty) (i : Int) (by omega) (by omega)
      subst eA
      have hx2 := hcc 0 _ rfl
      have e1 : (i : Int).toNat * popt.sz + 0 = i := by show (i : Int).toNat * 1 + 0 = i; omega
      rw [e1] at hx2
      rw [Int.toNat_natCast] at hgo
      obtain ⟨x, hx⟩ : ∃ x, O.getD i (ByteArray.empty, ByteArray.empty, ByteArray.empty) = x := ⟨_, rfl⟩
      rw [hx] at hgo
      have HX := Lib.hid hx
      have p0 : (0 : Int) ≤ (i : Int) := by omega
      have p1 : (i : Int) < (O.length : Int) := by omega
      have hx4 : wr.cell? ⟨g4, 0, none⟩ = some v := (blk_cell b4.out 0).trans rfl
      have hm0 : wr.cell? ⟨go, 0, none⟩ = some (.string x.1) := (blk_cell (show wr.heap[go]? = _ from hgo) 0).trans rfl
      have hm1 : wr.cell? ⟨go, 1, none⟩ = some (.string x.2.1) := (blk_cell (show wr.heap[go]? = _ from hgo) 1).trans rfl
      have hm2 : wr.cell? ⟨go, 2, none⟩ = some (.string x.2.2) := (blk_cell (show wr.heap[go]? = _ from hgo) 2).trans rfl
      have HGO := Lib.hid (show wr.heap[go]? = some (.cells #[.string x.1, .string x.2.1, .string x.2.2] 48 (0, 0)) from hgo)
      clear hx hgo hcc hcl0 hC7 hc7 hR2 e1
      go_wp2_with fail
      refine wp_region_noPanic ?_
      refine wp_region_D (fun w' : World => w'.cell? ⟨g4, 0, none⟩ = some v ∧ w'.cell? ⟨go, 0, none⟩ = some (.string x.1) ∧ w'.cell? ⟨go, 1, none⟩ = some (.string x.2.1) ∧ w'.cell? ⟨go, 2, none⟩ = some (.string x.2.2)) 16 (by kernel_rfl) ?_
      have hS0 : (fun w' : World => w'.cell? ⟨g4, 0, none⟩ = some v ∧ w'.cell? ⟨go, 0, none⟩ = some (.string x.1) ∧ w'.cell? ⟨go, 1, none⟩ = some (.string x.2.1) ∧ w'.cell? ⟨go, 2, none⟩ = some (.string x.2.2)) wr.drew := ⟨hx4, hm0, hm1, hm2⟩
      refine wpAnyD_take (i := 0) (v := ?vu0) rfl (by kernel_rfl) (by kernel_rfl) (by kernel_rfl) (by kernel_rfl) (fun _ _ _ h => h) (Or.inl ⟨by rfl, ?hu0⟩) hS0 ?ru0
      case hu0 => (intro w hSw; (try dsimp only at hSw); obtain ⟨hS1, hS2, hS3, hS4⟩ := hSw; go_simp; try (with_reducible rfl))
      try simp only [Act.put, List.setIfInBounds_toArray, List.set_cons_zero, List.set_cons_succ]
      refine wpAnyD_take (i := 1) (v := ?vu1) rfl (by kernel_rfl) (by kernel_rfl) (by kernel_rfl) (by kernel_rfl) (fun _ _ _ h => h) (Or.inl ⟨by rfl, ?hu1⟩) hS0 ?ru1
      case hu1 => (intro w hSw; (try dsimp only at hSw); obtain ⟨hS1, hS2, hS3, hS4⟩ := hSw; go_simp; try (with_reducible rfl))
      try simp only [Act.put, List.setIfInBounds_toArray, List.set_cons_zero, List.set_cons_succ]
      refine wpAnyD_take (i := 2) (v := ?vu2) rfl (by kernel_rfl) (by kernel_rfl) (by kernel_rfl) (by kernel_rfl) (fun _ _ _ h => h) (Or.inl ⟨by rfl, ?hu2⟩) hS0 ?ru2
      case hu2 => (intro w hSw; (try dsimp only at hSw); obtain ⟨hS1, hS2, hS3, hS4⟩ := hSw; go_simp; try (with_reducible rfl))
      try simp only [Act.put, List.setIfInBounds_toArray, List.set_cons_zero, List.set_cons_succ]
      refine wpAnyD_take (i := 3) (v := ?vu3) rfl (by kernel_rfl) (by kernel_rfl) (by kernel_rfl) (by kernel_rfl) (fun _ _ _ h => h) (Or.inl ⟨by rfl, ?hu3⟩) hS0 ?ru3
      case hu3 => (intro w hSw; (try dsimp only at hSw); obtain ⟨hS1, hS2, hS3, hS4⟩ := hSw; go_simp; try (with_reducible rfl))
      try simp only [Act.put, List.setIfInBounds_toArray, List.set_cons_zero, List.set_cons_succ]
      refine wpAnyD_take (i := 4) (v := ?vu4) rfl (by kernel_rfl) (by kernel_rfl) (by kernel_rfl) (by kernel_rfl) (fun _ _ _ h => h) (Or.inl ⟨by rfl, ?hu4⟩) hS0 ?ru4
      case hu4 => (intro w hSw; (try dsimp only at hSw); obtain ⟨hS1, hS2, hS3, hS4⟩ := hSw; go_simp; try (with_reducible rfl))
      try simp only [Act.put, List.setIfInBounds_toArray, List.set_cons_zero, List.set_cons_succ]
      refine wpAnyD_take (i := 5) (v := ?vu5) rfl (by kernel_rfl) (by kernel_rfl) (by kernel_rfl) (by kernel_rfl) (fun _ _ _ h => h) (Or.inl ⟨by rfl, ?hu5⟩) hS0 ?ru5
      case hu5 => (intro w hSw; (try dsimp only at hSw); obtain ⟨hS1, hS2, hS3, hS4⟩ := hSw; go_simp; try (with_reducible rfl))
      try simp only [Act.put, List.setIfInBounds_toArray, List.set_cons_zero, List.set_cons_succ]
      refine wpAnyD_take (i := 6) (v := ?vu6) rfl (by kernel_rfl) (by kernel_rfl) (by kernel_rfl) (by kernel_rfl) (fun _ _ _ h => h) (Or.inl ⟨by rfl, ?hu6⟩) hS0 ?ru6
      case hu6 => (intro w hSw; (try dsimp only at hSw); obtain ⟨hS1, hS2, hS3, hS4⟩ := hSw; go_simp; try (with_reducible rfl))
      try simp only [Act.put, List.setIfInBounds_toArray, List.set_cons_zero, List.set_cons_succ]
      refine wpAnyD_take (i := 7) (v := ?vu7) rfl (by kernel_rfl) (by kernel_rfl) (by kernel_rfl) (by kernel_rfl) (fun _ _ _ h => h) (Or.inl ⟨by rfl, ?hu7⟩) hS0 ?ru7
      case hu7 => (intro w hSw; (try dsimp only at hSw); obtain ⟨hS1, hS2, hS3, hS4⟩ := hSw; go_simp; try (with_reducible rfl))
      try simp only [Act.put, List.setIfInBounds_toArray, List.set_cons_zero, List.set_cons_succ]
      refine wpAnyD_take (i := 8) (v := ?vu8) rfl (by kernel_rfl) (by kernel_rfl) (by kernel_rfl) (by kernel_rfl) (fun _ _ _ h => h) (Or.inl ⟨by rfl, ?hu8⟩) hS0 ?ru8
      case hu8 => (intro w hSw; (try dsimp only at hSw); obtain ⟨hS1, hS2, hS3, hS4⟩ := hSw; go_simp; try (with_reducible rfl))
      try simp only [Act.put, List.setIfInBounds_toArray, List.set_cons_zero, List.set_cons_succ]
      refine wpAnyD_take (i := 9) (v := ?vu9) rfl (by kernel_rfl) (by kernel_rfl) (by kernel_rfl) (by kernel_rfl) (fun _ _ _ h => h) (Or.inl ⟨by rfl, ?hu9⟩) hS0 ?ru9
      case hu9 => (intro w hSw; (try dsimp only at hSw); obtain ⟨hS1, hS2, hS3, hS4⟩ := hSw; go_simp; try (with_reducible rfl))
      try simp only [Act.put, List.setIfInBounds_toArray, List.set_cons_zero, List.set_cons_succ]
      refine wpAnyD_take (i := 10) (v := ?vu10) rfl (by kernel_rfl) (by kernel_rfl) (by kernel_rfl) (by kernel_rfl) (fun _ _ _ h => h) (Or.inl ⟨by rfl, ?hu10⟩) hS0 ?ru10
      case hu10 => (intro w hSw; (try dsimp only at hSw); obtain ⟨hS1, hS2, hS3, hS4⟩ := hSw; go_simp; try (with_reducible rfl))
      try simp only [Act.put, List.setIfInBounds_toArray, List.set_cons_zero, List.set_cons_succ]
      refine wpAnyD_take (i := 11) (v := ?vu11) rfl (by kernel_rfl) (by kernel_rfl) (by kernel_rfl) (by kernel_rfl) (fun _ _ _ h => h) (Or.inl ⟨by rfl, ?hu11⟩) hS0 ?ru11
      case hu11 => (intro w hSw; (try dsimp only at hSw); obtain ⟨hS1, hS2, hS3, hS4⟩ := hSw; go_simp; try (with_reducible rfl))
      try simp only [Act.put, List.setIfInBounds_toArray, List.set_cons_zero, List.set_cons_succ]
      refine wpAnyD_take (i := 12) (v := ?vu12) rfl (by kernel_rfl) (by kernel_rfl) (by kernel_rfl) (by kernel_rfl) (fun _ _ _ h => h) (Or.inl ⟨by rfl, ?hu12⟩) hS0 ?ru12
      case hu12 => (intro w hSw; (try dsimp only at hSw); obtain ⟨hS1, hS2, hS3, hS4⟩ := hSw; go_simp; try (with_reducible rfl))
      try simp only [Act.put, List.setIfInBounds_toArray, List.set_cons_zero, List.set_cons_succ]
      refine wpAnyD_one (i := 13) (by kernel_rfl) rfl (fun K hK => ?_)
      go_simp
      refine hK.out _ _ (Or.inr ⟨hx4, hm0, hm1, hm2⟩) (fun _ => ?_)
      clear hK K
      try simp only [Act.put, List.setIfInBounds_toArray, List.set_cons_zero, List.set_cons_succ]
      refine wpAnyD_one (i := 14) (by kernel_rfl) rfl (fun K hK => ?_)
      go_simp
      refine hK.out _ _ (Or.inr ⟨pw_cell_below (below_alloc (Below.refl _ _) _) hx4, pw_cell_below (below_alloc (Below.refl _ _) _) hm0, pw_cell_below (below_alloc (Below.refl _ _) _) hm1, pw_cell_below (below_alloc (Below.refl _ _) _) hm2⟩) (fun _ => ?_)
      clear hK K
      try simp only [Act.put, List.setIfInBounds_toArray, List.set_cons_zero, List.set_cons_succ]
      refine wpAnyD_one (i := 15) (by kernel_rfl) rfl (fun K hK => ?_)
      refine Kd.R_append_step k28 (w0 := w) (W := wr.drew) w.heap.size (by rfl) _ _ 29 28 (.agg #[(.string ⟨#[]⟩), (.string ⟨#[]⟩), (.string ⟨#[]⟩)]) 48 (by rfl) Tryd.underlying29 info28 rfl (by decide) (by decide) v ((O.map toS).take i) (toS x) [.string x.1, .string x.2.1, .string x.2.2] (fun k => w6.heap.size ≤ k) (fun _ => False) (by rfl) (by rfl) (k28_mkM _ _ _ _) (fun _ h => h.elim) ?aF (Kd.R_drew hr.out) (below_drew hbw.out) (below_drew hbw.out).size ?aL ?_
      (case aF => exact (fun k hk => Nat.le_trans hsm.out.1 hk)); (case aL => rw [List.length_take, len_toS]; omega)
      intro v1 w7 ho hb3 hg3 hat
      have hro := Aside0.mk ho
      have b47 := Aside0.mk (blk_grown (show wr.drew.heap[g4]? = _ from b4.out) hg3 (Kd.R_ne (Kd.R_drew hr.out) (show wr.drew.heap[g4]? = _ from b4.out) (by decide)))
      have bg7 := Aside0.mk (blk_grown (show wr.drew.heap[go]? = _ from HGO.out) hg3 (Kd.R_ne (Kd.R_drew hr.out) (show wr.drew.heap[go]? = _ from HGO.out) (by decide)))
      have hsm2 := Aside0.mk (hsm.out.trans ((Same.below (below_drew (Below.refl _ _)) _).trans ((Same.grown (Kd.R_drew hr.out) hg3 hg3.size).mono (by simp))))
      have hbw2 := Aside0.mk hb3
      obtain ⟨A1, c1, e1⟩ := Kd.R_slice ho
      subst e1
      have zc4 : w7.cell? ⟨g4, 0, none⟩ = some v := (blk_cell b47.out 0).trans rfl
      have zf4 := blk_frozen b47.out 0
      have zg0 : w7.cell? ⟨go, 0, none⟩ = some (.string x.1) := (blk_cell bg7.out 0).trans rfl
      have zg1 : w7.cell? ⟨go, 1, none⟩ = some (.string x.2.1) := (blk_cell bg7.out 1).trans rfl
      have zg2 : w7.cell? ⟨go, 2, none⟩ = some (.string x.2.2) := (blk_cell bg7.out 2).trans rfl
      clear ho hb3 hg3 hat
      refine hK.out _ _ (Or.inr ⟨zc4, zg0, zg1, zg2⟩) (fun _ => ?_)
      clear hK K
      try simp only [Act.put, List.setIfInBounds_toArray, List.set_cons_zero, List.set_cons_succ]
      refine wpAnyD_one (i := 16) (by kernel_rfl) rfl (fun K hK => ?_)
      go_simp
      refine hK.out _ _ (Or.inl rfl) (fun _ => ?_)
      clear hK K
      try simp only [Act.put, List.setIfInBounds_toArray, List.set_cons_zero, List.set_cons_succ]
      refine wpAnyD_done (by kernel_rfl) ?_ _
      have hlk := hi.out.2
      have hne : ∀ k, w6.heap.size ≤ k → k ≠ g4 := fun k hk he => by have := blk_lt B4.out; omega
      refine NoPanic.normal ?_
      try go_wp2
      go_roundg (O.length - (i + 1))
      case measure => omega
      case rel =>
        refine ⟨i + 1, _, by first | rfl | simp, ⟨ci, Nat.le_refl _⟩, ⟨blk_put b47.out 0 _ rfl⟩, ⟨?_⟩, ⟨hsm2.out.trans ((Same.set b47.out 0 _).mono (by simp))⟩, ⟨below_set hbw2.out GE4.out⟩⟩
        have e : (O.map toS).take (i + 1) = (O.map toS).take i ++ [toS x] := by
          have h1 := HX.out
          rw [List.getD_eq_getElem?_getD, List.getElem?_eq_getElem ci] at h1
          have h1 : O[i] = x := h1
          rw [List.take_add_one, List.getElem?_map, List.getElem?_eq_getElem ci, h1]; rfl
        rw [e]
        have h := Kd.R_far (p := ⟨g4, 0, none⟩) hro.out hne (.slice A1 ((O.map toS).take i ++ [toS x]).length c1)
        first | exact h | (rw [show ((O.map toS).take i ++ [toS x]).length = min i O.length + 1 from by simp] at h; exact h) | (simp at h ⊢; exact h)
    · have hie : i = O.length := by have := hi.out.1; omega
      subst hie
      have htk : (O.map toS).take O.length = O.map toS := List.take_of_length_le (by rw [len_toS]; exact Nat.le_refl _)
      rw [htk] at hr
      obtain ⟨Av, cv, ev⟩ := Kd.R_slice hr.out
      subst ev
      have hne := NE.out
      have hne2 := NE.out.symm
      have b5 := Aside0.mk (hsm.out.2 _ _ _ B5.out (by decide))
      have xc4 : wr.cell? ⟨g4, 0, none⟩ = some (.slice Av (O.map toS).length cv) := (blk_cell b4.out 0).trans rfl
      have xf4 := blk_frozen b4.out 0
      have xc5 : wr.cell? ⟨g5, 0, none⟩ = some (.int .i64 0) := (blk_cell b5.out 0).trans rfl
      have xf5 := blk_frozen b5.out 0
      have hok4 := Lib.hid (show ∀ k, w6.heap.size ≤ k → k ≠ g4 from fun k hk he => by have := blk_lt B4.out; omega)
      have hok5 := Lib.hid (show ∀ k, w6.heap.size ≤ k → k ≠ g5 from fun k hk he => by have := blk_lt B5.out; omega)
      have hci : ¬ ((O.length : Int) < (O.length : Int)) := by omega
      go_wp2_with fail
      refine leaves_cons (f := 20) (args := #[.pointer (some ⟨g4, 0, none⟩), .pointer (some ⟨g5, 0, none⟩)]) (by simp) (by simp [go_sem]) ?_
      refine (catch_idle ⟨g4, 0, none⟩ ⟨g5, 0, none⟩ _).mono ?_
      rintro e u' w'' ⟨rfl, rfl, rfl⟩
      simp [Leaves, settle, results, Tryd.results11, go_sem, xc4, xc5, hne, hne2]
      refine ⟨Kd.R_mono (ok := fun k => w6.heap.size ≤ k) ?_ (fun _ _ => trivial), ?_⟩
      · have h := Kd.R_far (p := ⟨g5, 0, none⟩) (Kd.R_far (p := ⟨g4, 0, none⟩) hr.out hok4.out (.slice Av (O.map toS).length cv)) hok5.out (.int .i64 0)
        simpa using h
      · exact below_set (below_set hbw.out GE4.out) GE5.out
end Go.Proofs.YtlmmgienbmghmaaDoor.DoorU
