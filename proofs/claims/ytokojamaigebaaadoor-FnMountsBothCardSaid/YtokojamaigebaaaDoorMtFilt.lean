/- The filters of mounts by hand: each closure's body, and that it is a filter. -/
import Derived.Test.YtokojamaigebaaaDoorMtLoop
import Derived.Deep.QuietTactic
import Derived.BigQuiet
import Derived.Tactics
import Derived.Tactics2
import Derived.Lib.Hide
namespace Go.Proofs.YtokojamaigebaaaDoor.MtFilt
open Go.RowKit Go.Proofs.YtokojamaigebaaaDoorW.PrintWords Go.Proofs.YtokojamaigebaaaDoorW.PrintLast Go.Proofs.YtokojamaigebaaaDoorW.PrintMore Go.Proofs.YtokojamaigebaaaDoor.Scan Go.Proofs.YtokojamaigebaaaDoor.ScanL Go.Proofs.YtokojamaigebaaaDoor.GivM Go.Proofs.YtokojamaigebaaaDoor.M Go.Proofs.YtokojamaigebaaaDoor.U Go.Proofs.YtokojamaigebaaaDoor.MtLoop
attribute [local go_sem] max2_int min2_int max_two min_two max_three min_three max_four min_four
set_option linter.unusedVariables false
set_option linter.unusedSimpArgs false
/-- What begins with what. -/
def beg (s p : ByteArray) : Bool := Lib.hasPrefix s.data.toList p.data.toList
def kPre (p : ByteArray) (m : S23) : Bool × Bool := (!(p.toList == [47]) && !(beg (m.f5 ++ (⟨#[47]⟩ : ByteArray)) (p ++ (⟨#[47]⟩ : ByteArray))), false)
def kPar (p : ByteArray) (m : S23) : Bool × Bool := (!(m.f5.toList == [47]) && (!(m.f5.toList == p.toList) && !(beg p (m.f5 ++ (⟨#[47]⟩ : ByteArray)))), false)
def kOne (p : ByteArray) (m : S23) : Bool × Bool := if (m.f5.toList == p.toList) = true then (false, true) else (true, false)
def kFs (ts : List ByteArray) (m : S23) : Bool × Bool := if (ts.any fun t => m.f8.toList == t.toList) = true then (false, false) else (true, false)
set_option maxHeartbeats 8000000 in
set_option maxRecDepth 100000 in
theorem one_body (gc g : Nat) (p : ByteArray) (m : S23) (w : World) (hsz : m.f5.size ≤ 1000000) (hps : p.size ≤ 2147483647) (hc : w.heap[gc]? = some (.cells #[.string p] 9 (0, 0))) (hb : w.heap[g]? = some (.cells (mtCells m) 59 (0, 0))) :
    Calls Tryd.prog 38 #[.pointer (some ⟨g, 0, none⟩), .pointer (some ⟨gc, 0, none⟩)] w fun e w' => e = .returned (.tuple #[.bool (kOne p m).1, .bool (kOne p m).2]) ∧ Below w.heap.size w w' := by
  have hu59 := Tryd.underlying59
  have hp : w.cell? ⟨gc, 0, none⟩ = some (.string p) := (blk_cell hc 0).trans rfl
  have hm : w.cell? ⟨g, 5, none⟩ = some (.string m.f5) := (blk_cell hb 5).trans rfl
  clear hc hb
  by_cases c : (m.f5.toList == p.toList) = true
  · have hk : kOne p m = (false, true) := by unfold kOne; rw [if_pos c]
    rw [hk]
    clear hk
    go_enter Tryd.func38, Tryd.ntmps38
    go_wp2
    go_quiet (fail)
    all_goals (go_wp2)
    all_goals (go_ret2; exact ⟨rfl, pw_below_drewN (Below.refl _ _) _⟩)
  · have hk : kOne p m = (true, false) := by unfold kOne; rw [if_neg c]
    have c2 := Bool.eq_false_iff.2 c
    rw [hk]
    clear hk c
    go_enter Tryd.func38, Tryd.ntmps38
    go_wp2
    go_quiet (fail)
    all_goals (go_wp2)
    all_goals (go_ret2; exact ⟨rfl, pw_below_drewN (Below.refl _ _) _⟩)

set_option maxHeartbeats 8000000 in
set_option maxRecDepth 100000 in
theorem pre_body (gc g : Nat) (p : ByteArray) (m : S23) (w : World) (hsz : m.f5.size ≤ 1000000) (hps : p.size ≤ 2147483647) (hc : w.heap[gc]? = some (.cells #[.string p] 9 (0, 0))) (hb : w.heap[g]? = some (.cells (mtCells m) 59 (0, 0))) :
    Calls Tryd.prog 37 #[.pointer (some ⟨g, 0, none⟩), .pointer (some ⟨gc, 0, none⟩)] w fun e w' => e = .returned (.tuple #[.bool (kPre p m).1, .bool (kPre p m).2]) ∧ Below w.heap.size w w' := by
  have hu59 := Tryd.underlying59
  have hp : w.cell? ⟨gc, 0, none⟩ = some (.string p) := (blk_cell hc 0).trans rfl
  have hm : w.cell? ⟨g, 5, none⟩ = some (.string m.f5) := (blk_cell hb 5).trans rfl
  clear hc hb
  by_cases c : (p.toList == [47]) = true
  · have hk : kPre p m = (false, false) := by unfold kPre; rw [c]; rfl
    rw [hk]
    clear hk
    go_enter Tryd.func37, Tryd.ntmps37
    go_wp2
    go_quiet (fail)
    all_goals (go_wp2)
    all_goals (go_ret2; exact ⟨rfl, pw_below_drewN (Below.refl _ _) _⟩)
  · have c2 := Bool.eq_false_iff.2 c
    have hk : kPre p m = (!(beg (m.f5 ++ (⟨#[47]⟩ : ByteArray)) (p ++ (⟨#[47]⟩ : ByteArray))), false) := by unfold kPre; rw [c2]; rfl
    rw [hk]
    clear hk c
    obtain ⟨b, hb⟩ : ∃ b, beg (m.f5 ++ (⟨#[47]⟩ : ByteArray)) (p ++ (⟨#[47]⟩ : ByteArray)) = b := ⟨_, rfl⟩
    have HB := Lib.hid hb
    rw [hb]
    clear hb
    go_enter Tryd.func37, Tryd.ntmps37
    go_wp2
    go_quiet ((go_at_call 36; refine Calls.quiet_of_same ((strings_HasPrefix.calls _ _ b _ (congrArg some HB.out)).mono (by rintro e w2 ⟨rfl, rfl⟩; exact ⟨rfl, rfl⟩))))
    all_goals (go_wp2)
    all_goals (go_ret2; exact ⟨rfl, pw_below_drewN (Below.refl _ _) _⟩)

set_option maxHeartbeats 8000000 in
set_option maxRecDepth 100000 in
theorem par_body (gc g : Nat) (p : ByteArray) (m : S23) (w : World) (hsz : m.f5.size ≤ 1000000) (hps : p.size ≤ 2147483647) (hc : w.heap[gc]? = some (.cells #[.string p] 9 (0, 0))) (hb : w.heap[g]? = some (.cells (mtCells m) 59 (0, 0))) :
    Calls Tryd.prog 35 #[.pointer (some ⟨g, 0, none⟩), .pointer (some ⟨gc, 0, none⟩)] w fun e w' => e = .returned (.tuple #[.bool (kPar p m).1, .bool (kPar p m).2]) ∧ Below w.heap.size w w' := by
  have hu59 := Tryd.underlying59
  have hp : w.cell? ⟨gc, 0, none⟩ = some (.string p) := (blk_cell hc 0).trans rfl
  have hm : w.cell? ⟨g, 5, none⟩ = some (.string m.f5) := (blk_cell hb 5).trans rfl
  clear hc hb
  by_cases c : (m.f5.toList == [47]) = true
  · have hk : kPar p m = (false, false) := by unfold kPar; rw [c]; rfl
    rw [hk]
    clear hk
    go_enter Tryd.func35, Tryd.ntmps35
    go_wp2_with fail
    all_goals (go_ret2; exact ⟨rfl, Below.refl _ _⟩)
  · have c2 := Bool.eq_false_iff.2 c
    clear c
    by_cases d : (m.f5.toList == p.toList) = true
    · have hk : kPar p m = (false, false) := by unfold kPar; rw [c2, d]; rfl
      rw [hk]
      clear hk
      go_enter Tryd.func35, Tryd.ntmps35
      go_wp2_with fail
      all_goals (go_ret2; exact ⟨rfl, Below.refl _ _⟩)
    · have d2 := Bool.eq_false_iff.2 d
      clear d
      have hk : kPar p m = (!(beg p (m.f5 ++ (⟨#[47]⟩ : ByteArray))), false) := by unfold kPar; rw [c2, d2]; rfl
      rw [hk]
      clear hk
      obtain ⟨b, hb⟩ : ∃ b, beg p (m.f5 ++ (⟨#[47]⟩ : ByteArray)) = b := ⟨_, rfl⟩
      have HB := Lib.hid hb
      rw [hb]
      clear hb
      go_enter Tryd.func35, Tryd.ntmps35
      go_wp2_with (first | (go_at_call 36; refine (strings_HasPrefix.calls _ _ b _ (congrArg some HB.out)).mono ?_; rintro e w2 ⟨rfl, rfl⟩))
      all_goals (go_ret2; exact ⟨rfl, Below.refl _ _⟩)

set_option maxHeartbeats 8000000 in
set_option maxRecDepth 100000 in
theorem fs_body (gc g : Nat) (A : Option Addr) (cap : Nat) (ts : List ByteArray) (m : S23) (w : World) (hc : w.heap[gc]? = some (.cells #[.slice A ts.length cap] 31 (0, 0))) (hC : Kd.string.C w A ts.length ts) (hl : ts.length ≤ 1000000) (hb : w.heap[g]? = some (.cells (mtCells m) 59 (0, 0))) :
    Calls Tryd.prog 34 #[.pointer (some ⟨g, 0, none⟩), .pointer (some ⟨gc, 0, none⟩)] w fun e w' => e = .returned (.tuple #[.bool (kFs ts m).1, .bool (kFs ts m).2]) ∧ Below w.heap.size w w' := by
  have hu59 := Tryd.underlying59
  have hp : w.cell? ⟨gc, 0, none⟩ = some (.slice A ts.length cap) := (blk_cell hc 0).trans rfl
  have hm : w.cell? ⟨g, 8, none⟩ = some (.string m.f8) := (blk_cell hb 8).trans rfl
  have CO := Aside0.mk hC
  have HL := Lib.hid hl
  clear hc hb hC hl
  go_enter Tryd.func34, Tryd.ntmps34
  go_wp2
  go_loopg [9] ts.length (fun kq v9 w' => w' = w ∧ ∃ j : Nat, v9 = .int .i64 j ∧ Aside0 (j ≤ ts.length) ∧ Aside0 (ts.length - j ≤ kq) ∧ Aside0 (∀ i, i < j → (m.f8.toList == (rdOf ByteArray.empty ts i).toList) = false))
  case atStart => exact ⟨rfl, 0, rfl, ⟨by omega⟩, ⟨by omega⟩, ⟨fun i hi => absurd hi (by omega)⟩⟩
  case round =>
    obtain ⟨rfl, j, rfl, hj, hkj, hno⟩ := hrel
    by_cases c : j < ts.length
    · obtain ⟨ad, e0, hx⟩ := Kd.at_string CO.out (j : Int) (by omega) (by omega)
      subst e0
      have p0 : (0 : Int) ≤ (j : Int) := by omega
      have p1 : (j : Int) < (ts.length : Int) := by omega
      have hx2 := hx
      rw [Int.toNat_natCast] at hx2
      by_cases d : (m.f8.toList == (rdOf ByteArray.empty ts (j : Int)).toList) = true
      · have hk : kFs ts m = (false, false) := by
          unfold kFs
          rw [if_pos]
          refine List.any_eq_true.2 ⟨_, List.getElem_mem c, ?_⟩
          have e : rdOf ByteArray.empty ts (j : Int) = ts[j]'c := by unfold rdOf; rw [Int.toNat_natCast, List.getD_eq_getElem?_getD, List.getElem?_eq_getElem c]; rfl
          rw [e] at d
          exact d
        have hk := Lib.hid hk
        go_wp2_with fail
        all_goals (go_ret2; rw [hk.out]; exact ⟨rfl, Below.refl _ _⟩)
      · have d2 := Bool.eq_false_iff.2 d
        clear d
        have hw1 : IntKind.i64.wrap ((j : Int) + 1) = ((j + 1 : Nat) : Int) := by rw [IntKind.wrap_i64]; have := HL.out; omega
        have hlk := hkj.out
        go_wp2_with fail
        go_roundg (ts.length - (j + 1))
        case measure => omega
        case rel => exact ⟨rfl, j + 1, rfl, ⟨by omega⟩, ⟨Nat.le_refl _⟩, ⟨fun i hi => by rcases Nat.lt_succ_iff_lt_or_eq.1 hi with h | h; exact hno.out i h; rw [h]; exact d2⟩⟩
    · have hj' : j = ts.length := by have := hj.out; omega
      have hk : kFs ts m = (true, false) := by
        unfold kFs
        rw [if_neg]
        intro h
        obtain ⟨t, ht, he⟩ := List.any_eq_true.1 h
        obtain ⟨i, hi, rfl⟩ := List.getElem_of_mem ht
        have h2 := hno.out i (by omega)
        have e : rdOf ByteArray.empty ts (i : Int) = ts[i]'hi := by unfold rdOf; rw [Int.toNat_natCast, List.getD_eq_getElem?_getD, List.getElem?_eq_getElem hi]; rfl
        rw [e] at h2
        rw [h2] at he; cases he
      subst hj'
      have hk := Lib.hid hk
      go_wp2_with fail
      all_goals (go_ret2; rw [hk.out]; exact ⟨rfl, Below.refl _ _⟩)

set_option maxRecDepth 100000 in
theorem pre_is (p : ByteArray) (w : World) (hps : p.size ≤ 2147483647) :
    Calls Tryd.prog 23 #[.string p] w fun e w' => ∃ fv, e = .returned fv ∧ FilterIs w' fv (kPre p) ∧ Below w.heap.size w w' := by
  have hmf : ∀ (fn : Fn) (first cap : Array Value) (w : World), (Instr.makeFunc fn first cap).run Tryd.prog w = .ok (.func fn first cap) w := fun _ _ _ _ => rfl
  go_enter Tryd.func23, Tryd.ntmps23
  go_wp2_with (first
    | ((with_reducible refine gate_dst (N := 1) rfl ?_); refine box_event ?hg (N := 1) ?hd (cs := #[.string p]) (t := 9) ?hr ?_; (case hd => rfl); (case hg => rfl); (case hr => first | (go_simp; done) | (go_simp; rfl)); intro g4 hg w1 hbox hb
       have BK4 := Aside0.mk hbox
       have HB := Aside0.mk hb
       clear hbox hb hg))
  go_ret
  refine ⟨_, rfl, .inr ⟨_, _, rfl, fun args w => rfl, fun w2 g m hm hb2 hbk => ?_⟩, HB.out⟩
  exact pre_body g4 g p m w2 hm hps (blk_below BK4.out hb2) hbk

set_option maxRecDepth 100000 in
theorem par_is (p : ByteArray) (w : World) (hps : p.size ≤ 2147483647) :
    Calls Tryd.prog 22 #[.string p] w fun e w' => ∃ fv, e = .returned fv ∧ FilterIs w' fv (kPar p) ∧ Below w.heap.size w w' := by
  have hmf : ∀ (fn : Fn) (first cap : Array Value) (w : World), (Instr.makeFunc fn first cap).run Tryd.prog w = .ok (.func fn first cap) w := fun _ _ _ _ => rfl
  go_enter Tryd.func22, Tryd.ntmps22
  go_wp2_with (first
    | ((with_reducible refine gate_dst (N := 1) rfl ?_); refine box_event ?hg (N := 1) ?hd (cs := #[.string p]) (t := 9) ?hr ?_; (case hd => rfl); (case hg => rfl); (case hr => first | (go_simp; done) | (go_simp; rfl)); intro g4 hg w1 hbox hb
       have BK4 := Aside0.mk hbox
       have HB := Aside0.mk hb
       clear hbox hb hg))
  go_ret
  refine ⟨_, rfl, .inr ⟨_, _, rfl, fun args w => rfl, fun w2 g m hm hb2 hbk => ?_⟩, HB.out⟩
  exact par_body g4 g p m w2 hm hps (blk_below BK4.out hb2) hbk

set_option maxRecDepth 100000 in
theorem one_is (p : ByteArray) (w : World) (hps : p.size ≤ 2147483647) :
    Calls Tryd.prog 24 #[.string p] w fun e w' => ∃ fv, e = .returned fv ∧ FilterIs w' fv (kOne p) ∧ Below w.heap.size w w' := by
  have hmf : ∀ (fn : Fn) (first cap : Array Value) (w : World), (Instr.makeFunc fn first cap).run Tryd.prog w = .ok (.func fn first cap) w := fun _ _ _ _ => rfl
  go_enter Tryd.func24, Tryd.ntmps24
  go_wp2_with (first
    | ((with_reducible refine gate_dst (N := 1) rfl ?_); refine box_event ?hg (N := 1) ?hd (cs := #[.string p]) (t := 9) ?hr ?_; (case hd => rfl); (case hg => rfl); (case hr => first | (go_simp; done) | (go_simp; rfl)); intro g4 hg w1 hbox hb
       have BK4 := Aside0.mk hbox
       have HB := Aside0.mk hb
       clear hbox hb hg))
  go_ret
  refine ⟨_, rfl, .inr ⟨_, _, rfl, fun args w => rfl, fun w2 g m hm hb2 hbk => ?_⟩, HB.out⟩
  exact one_body g4 g p m w2 hm hps (blk_below BK4.out hb2) hbk

set_option maxRecDepth 100000 in
theorem fs_is (A : Option Addr) (cap : Nat) (ts : List ByteArray) (w : World) (hC : Kd.string.C w A ts.length ts) (hl : ts.length ≤ 1000000) :
    Calls Tryd.prog 21 #[.slice A ts.length cap] w fun e w' => ∃ fv, e = .returned fv ∧ FilterIs w' fv (kFs ts) ∧ Below w.heap.size w w' := by
  have hmf : ∀ (fn : Fn) (first cap : Array Value) (w : World), (Instr.makeFunc fn first cap).run Tryd.prog w = .ok (.func fn first cap) w := fun _ _ _ _ => rfl
  have CO := Aside0.mk hC
  clear hC
  go_enter Tryd.func21, Tryd.ntmps21
  go_wp2_with (first
    | ((with_reducible refine gate_dst (N := 1) rfl ?_); refine box_event ?hg (N := 1) ?hd (cs := #[.slice A ts.length cap]) (t := 31) ?hr ?_; (case hd => rfl); (case hg => rfl); (case hr => first | (go_simp; done) | (go_simp; rfl)); intro g4 hg w1 hbox hb
       have BK4 := Aside0.mk hbox
       have HB := Aside0.mk hb
       clear hbox hb hg))
  go_ret
  refine ⟨_, rfl, .inr ⟨_, _, rfl, fun args w => rfl, fun w2 g m hm hb2 hbk => ?_⟩, HB.out⟩
  exact fs_body g4 g A cap ts m w2 (blk_below BK4.out hb2) (Kd.C_below (Kd.C_below CO.out HB.out) hb2) hl hbk
end Go.Proofs.YtokojamaigebaaaDoor.MtFilt
