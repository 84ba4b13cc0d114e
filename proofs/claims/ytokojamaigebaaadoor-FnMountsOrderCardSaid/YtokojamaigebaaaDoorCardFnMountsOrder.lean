/- The row and the tied card of FnMountsOrder. -/
import Derived.Test.YtokojamaigebaaaDoorCards
import Derived.Test.YtokojamaigebaaaDoorTie
import Derived.Test.YtokojamaigebaaaDoorPureFnMountsOrder
import Derived.Test.YtokojamaigebaaaDoorMtTabs
import Derived.Test.YtokojamaigebaaaDoorMtOpen
import Derived.Test.YtokojamaigebaaaDoorFactsFnMountsOrder
import Derived.WalkKit
import Derived.ProofKit
import Derived.OpenShut
import Derived.ShutString
import Derived.ChangeOld
import Derived.Below
import Derived.Carry
import Derived.SizedLaws
import Derived.LaidMore
import Derived.Stop.Joined
import Derived.SevenTiedAt
import Derived.Lay
import Derived.MakeChecks
namespace Go.Proofs.YtokojamaigebaaaDoor.fnMountsOrder
open Go.ChangeShapes Go.WideShapes Go.ChangeAt Go.RowKit
open Go.ChangeMaps (open_string shut_string)
open Go.Proofs.YtokojamaigebaaaDoorW.PrintWords Go.Proofs.YtokojamaigebaaaDoorW.PrintLast Go.Proofs.YtokojamaigebaaaDoorW.PrintMore Go.Proofs.YtokojamaigebaaaDoor.M
set_option linter.unusedVariables false
theorem own : ownKnob Tryd.prog.godebug = none := by kernel_rfl
theorem lo : laidOutB Tryd.prog = true := by kernel_rfl
theorem walk (A0 : Option Addr) (c0 : Nat) (l : List S23) (kind : Int) (A1 : Option Addr) (c1 : Nat) (ps : List ByteArray) (W : World) (h0 : Kd.C k23 W A0 l.length l) (hc0 : l.length ≤ c0) (h1 : Kd.C Kd.string W A1 ps.length ps) (hc1 : ps.length ≤ c1) (hT : MtDoor.Tabs W) :
    Calls Tryd.prog 4 #[.slice A0 l.length c0, .agg #[.int .i64 kind, .slice A1 ps.length c1]] W fun e W' => e = .returned (.bool true) ∧ Below W.heap.size W W' := by
  obtain ⟨k0, h⟩ := MtPure.order_is l kind ps
  exact L.laws_FnMountsOrder.calls k0 A0 c0 l kind A1 c1 ps true W h0 hc0 h1 hc1 (h k0 (Nat.le_refl _)) hT
theorem door_met (os : Os) (args : Array Value) : laidMetH Tryd.prog Rows.fnMountsOrderRow.laid ((World.laidAll Tryd.prog os Rows.fnMountsOrderRow.laid).forCall (fun _ _ => 0) ⟨#[], args, []⟩).memory :=
  by rw [MakeChecks.laidMetH_plain _ _ _ (by kernel_rfl)]; exact laidMet_laidAll _ (by kernel_rfl) (by kernel_rfl)
set_option maxRecDepth 100000 in
theorem lifted (os : Os) (started : os.Started) (H : Type) (enc : TypeId × Value → H) :
    ReturnsInHanded {} Tryd.checked os 4 .any (fun w args => (Rows.fnMountsOrderSpec.pre enc Tryd.prog Tryd.f4 [] false w args ∧ laidMetH Tryd.prog Rows.fnMountsOrderRow.laid w) ∧ sizedMet enc Tryd.prog Tryd.f4 (OpenSpec.ofChange Rows.fnMountsOrderSpec) false w args)
      (Rows.fnMountsOrderSpec.post enc Tryd.prog Tryd.f4 false true false false) := by
  refine returnsInHanded_of_change_and (C := Tryd.checked) (X := fun w _ => laidMetH Tryd.prog Rows.fnMountsOrderRow.laid w) (fun _ _ _ hh h => h.of_heap hh) own started (by kernel_rfl) Tryd.func4
    (ChangeSpec.witness_shaped (enc := enc) (C := Tryd.checked) (os := os) (X := fun w _ => laidMetH Tryd.prog Rows.fnMountsOrderRow.laid w) false (World.laidAll Tryd.prog os Rows.fnMountsOrderRow.laid) #[.slice none 0 0, .agg #[.int .i64 0, .slice none 0 0]] 8 (World.laidAll_os _ _ _) (World.shaped_of_ZipB (by kernel_rfl) (by kernel_rfl)) (by kernel_rfl) (by kernel_rfl) (by kernel_rfl) (door_met os _)) ?_
  intro W base args ds gs before hval0 hW hcnd hsz0 hL _
  have hval : ∀ (j : Nat) t v, Tryd.f4.params[j]? = some t → args[j]? = some v → Value.okWide Tryd.prog W .any base t v := hval0
  have hW' := hW
  obtain ⟨p, q, hA0, hV, rfl, hfz, hnd⟩ := hW
  have hltB : ∀ x ∈ p, x.block < W.heap.size := fun x hx => hW'.lt x (List.mem_append_left _ hx)
  have hA : DataW.TrodAll enc Tryd.prog W 0 (fun _ => true) true Tryd.f4.params.toList args.toList ds p := hA0
  rw [Tryd.params4] at hA hval
  obtain ⟨v0, vs0, d0, ds0, p0, q0, hargs, rfl, rfl, h0, r0⟩ := trodAll_cons hA
  obtain ⟨v1, vs1, d1, ds1, p1, q1, rfl, rfl, rfl, h1, r1⟩ := trodAll_cons r0
  obtain ⟨rfl, rfl, rfl⟩ := trodAll_nil r1
  obtain rfl : args = #[v0, v1] := by cases args; simp_all
  obtain ⟨rfl, rfl⟩ := trodVars_none hV
  have hltA := hltB
  have k0 := h0
  have hlt0 : ∀ x ∈ p0, x.block < W.heap.size := fun x hx => hltA x (by simp [hx])
  have k1 := h1
  have hlt1 : ∀ x ∈ p1, x.block < W.heap.size := fun x hx => hltA x (by simp [hx])
  have hs0 : ∃ (A : Option Addr) (c : Nat) (l : List S23), v0 = .slice A l.length c ∧ l.length ≤ c ∧ Kd.C k23 W A l.length l := by
    obtain ⟨a, n, c, rfl⟩ := okWide_slice Tryd.underlying28 (hval 0 28 v0 rfl rfl)
    obtain ⟨fuel, hd⟩ := h0
    obtain ⟨A, c, l, e, hc, hC⟩ := MtOpen.open_mounts (t := 28) rfl hd
    exact ⟨A, c, l, (List.cons.inj e).1, hc, hC⟩
  have hs1 : ∃ (kind : Int) (A : Option Addr) (c : Nat) (l : List ByteArray), v1 = .agg #[.int .i64 kind, .slice A l.length c] ∧ l.length ≤ c ∧ Kd.C Kd.string W A l.length l := by
    obtain ⟨c0, c1, z0, z1, n, rfl, _, _, g0, g1⟩ := Joins.open_agg2 Tryd.underlying33 (by kernel_rfl) (by kernel_rfl) (hval 1 33 v1 rfl rfl) h1
    obtain ⟨kind, e0, _, _⟩ := DataW.trod_int Tryd.underlying3 g0
    obtain ⟨A, c, l, e1, hc, hC⟩ := MtOpen.open_strs g1
    obtain rfl := (List.cons.inj e0).1
    obtain rfl := (List.cons.inj e1).1
    exact ⟨kind, A, c, l, rfl, hc, hC⟩
  obtain ⟨A0, c0, l, rfl, hl0, hC0⟩ := hs0
  obtain ⟨kind, A1, c1, ps, rfl, hl1, hC1⟩ := hs1
  clear hA0 hval0 hsz0
  refine (walk A0 c0 l kind A1 c1 ps W hC0 hl0 hC1 hl1 (MtTabs.tabs_of_laid W _ hL (by kernel_rfl) rfl rfl)).mono fun e W' ⟨he, bel⟩ => ?_
  subst he
  exact ⟨_, rfl, _, _, _, [], _, [], hW', trodAll_mk1 (shut_bool Tryd.underlying4 _), (trodAll_cons_mk (Below.trod lo (by kernel_rfl) (of_decide_eq_true (by kernel_rfl)) k0 bel hlt0) (trodAll_cons_mk (Below.trod lo (by kernel_rfl) (of_decide_eq_true (by kernel_rfl)) k1 bel hlt1) trodAll_mk0)), rfl, bel.frame _, fun h => by cases h⟩
theorem said : Rows.FnMountsOrderSaid :=
  OpenClaim.holds_of_wide 4 Tryd.f4 rfl rfl rfl rfl rfl rfl rfl ⟨rfl, rfl, rfl, rfl, rfl⟩ rfl rfl rfl rfl rfl (by kernel_rfl) Tryd.func4 facts
    (of_decide_eq_true (by kernel_rfl)) (by unfold Func.isWrapper; first | (rw [if_pos (by decide +kernel)]; kernel_rfl) | (rw [if_neg (by decide +kernel)]; exact ⟨rfl, rfl⟩))
    (fun os started H enc _ => lifted os started H enc)
theorem plain (f : FuncId) (fn : Func) (hf : Tryd.pinned.checked.prog.funcNamed "pub-frontispiece/laws.FnMountsOrder" = some f) (hfn : Tryd.pinned.checked.prog.funcs[f]? = some fn) :
    true = Tryd.pinned.checked.prog.looks [] ∧ ∀ (j : Nat) t, fn.params[j]? = some t → Tryd.pinned.checked.prog.wantsStandIn t = false := by
  obtain rfl : f = 4 := Option.some.inj ((show Tryd.prog.funcNamed "pub-frontispiece/laws.FnMountsOrder" = some 4 by kernel_rfl).symm.trans hf) |>.symm
  obtain rfl : fn = Tryd.f4 := (Option.some.inj (Tryd.func4.symm.trans hfn)).symm
  refine ⟨by kernel_rfl, fun j t ht => ?_⟩
  rw [Tryd.params4] at ht
  have hm := Array.mem_of_getElem? ht
  simp only [List.mem_toArray, List.mem_cons, List.not_mem_nil, or_false] at hm
  rcases hm with rfl | rfl
  · exact (show Tryd.prog.wantsStandIn 28 = false by kernel_rfl)
  · exact (show Tryd.prog.wantsStandIn 33 = false by kernel_rfl)
theorem card : Rows.FnMountsOrderCardSaid :=
  Claim7.holds_tied_plain_at .later [] _ _ _ _ said (fun _ h => by cases h) (by kernel_rfl) (fun _ h => by cases h) fnMountsOrder_row_tie rfl ⟨rfl, rfl⟩ (by kernel_rfl) rfl plain (by kernel_rfl)
end Go.Proofs.YtokojamaigebaaaDoor.fnMountsOrder
namespace Go.Proofs.YtokojamaigebaaaDoor
/-- The card, under a short name, for the claim. -/
theorem fnMountsOrder_card : Rows.FnMountsOrderCardSaid := fnMountsOrder.card
#print axioms fnMountsOrder_card
end Go.Proofs.YtokojamaigebaaaDoor
