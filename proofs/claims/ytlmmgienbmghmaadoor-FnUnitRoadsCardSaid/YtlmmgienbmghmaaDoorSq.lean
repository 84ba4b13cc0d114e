/- Short words for what printed texts say often; no condition. -/
import Derived.Test.YtlmmgienbmghmaaDoorWWords
import Derived.Test.YtlmmgienbmghmaaDoorWMore
set_option linter.unusedVariables false
namespace Go.Proofs.YtlmmgienbmghmaaDoorW.PrintWords
open Go.RowKit
def tfA (p q : Nat) : Array Bool := (List.replicate p true ++ List.replicate q false).toArray
def bnA (n m : Nat) : Array Bool := ((List.range n).map fun i => m.testBit i).toArray
theorem belH {w W : World} (h : Below w.heap.size w W := by repeat (first | (with_reducible first | exact HB.out | apply below_alloc | apply pw_below_drewN | apply below_drew1) | exact HB.out)) : Below w.heap.size w W := h
theorem belS {w W : World} (h : Below w.heap.size w W := by repeat (first | (with_reducible first | exact HB.out | apply below_alloc | apply pw_below_drewN | apply below_drew1 | refine below_set ?_ (Aside0.out (by assumption))) | exact HB.out)) : Below w.heap.size w W := h
theorem bN {w : World} {g : Nat} {o : Obj} (h : w.heap[g]? = some o) (n : Nat) : (w.drewN n).heap[g]? = some o := blk_drewN h n
theorem bW {w : World} {g : Nat} {o : Obj} (h : w.heap[g]? = some o) : w.drew.heap[g]? = some o := blk_drew h
theorem bA {w : World} {g : Nat} {o : Obj} (h : w.heap[g]? = some o) (u : Obj) : (w.alloc u).heap[g]? = some o := blk_alloc h u
theorem sA {α : Type} (l : List α) (i : Nat) (a : α) : l.toArray.setIfInBounds i a = (l.set i a).toArray := List.setIfInBounds_toArray ..
theorem s0 {α : Type} (b : α) (l : List α) (a : α) : (b :: l).set 0 a = a :: l := List.set_cons_zero
theorem s1 {α : Type} (b : α) (l : List α) (i : Nat) (a : α) : (b :: l).set (i + 1) a = b :: l.set i a := List.set_cons_succ
theorem blk_put8 {w : World} {g : Nat} {t : TypeId} {a0 a1 a2 a3 a4 a5 a6 a7 u0 u1 u2 u3 u4 u5 u6 u7 : Value} (h : w.heap[g]? = some (.cells #[a0, a1, a2, a3, a4, a5, a6, a7] t (0, 0))) :
    ((((((((w.setCell ⟨g, 0, none⟩ u0).setCell ⟨g, 1, none⟩ u1).setCell ⟨g, 2, none⟩ u2).setCell ⟨g, 3, none⟩ u3).setCell ⟨g, 4, none⟩ u4).setCell ⟨g, 5, none⟩ u5).setCell ⟨g, 6, none⟩ u6).setCell ⟨g, 7, none⟩ u7).heap[g]? = some (.cells #[u0, u1, u2, u3, u4, u5, u6, u7] t (0, 0)) := by
  refine blk_put (cs := #[u0, u1, u2, u3, u4, u5, u6, a7]) ?_ 7 _ rfl
  refine blk_put (cs := #[u0, u1, u2, u3, u4, u5, a6, a7]) ?_ 6 _ rfl
  refine blk_put (cs := #[u0, u1, u2, u3, u4, a5, a6, a7]) ?_ 5 _ rfl
  refine blk_put (cs := #[u0, u1, u2, u3, a4, a5, a6, a7]) ?_ 4 _ rfl
  refine blk_put (cs := #[u0, u1, u2, a3, a4, a5, a6, a7]) ?_ 3 _ rfl
  refine blk_put (cs := #[u0, u1, a2, a3, a4, a5, a6, a7]) ?_ 2 _ rfl
  refine blk_put (cs := #[u0, a1, a2, a3, a4, a5, a6, a7]) ?_ 1 _ rfl
  refine blk_put (cs := #[a0, a1, a2, a3, a4, a5, a6, a7]) ?_ 0 _ rfl
  exact h
theorem bY {P Q : Prop} (h : P) (k : P → Q := by intro h; (with_reducible repeat (first | refine bN ?_ _ | refine bW ?_ | refine bA ?_ _)); exact h) : Q := k h
theorem rows3 {w : World} {g : Nat} {t : TypeId} {a0 a1 a2 : Value} (b : Aside0 (w.heap[g]? = some (.cells #[a0, a1, a2] t (0, 0)))) : w.cell? ⟨g, 0, none⟩ = some a0 ∧ w.cell? ⟨g, 1, none⟩ = some a1 ∧ w.cell? ⟨g, 2, none⟩ = some a2 ∧ w.frozen? ⟨g, 0, none⟩ = false ∧ w.frozen? ⟨g, 1, none⟩ = false ∧ w.frozen? ⟨g, 2, none⟩ = false :=
  ⟨(blk_cell b.out 0).trans rfl, (blk_cell b.out 1).trans rfl, (blk_cell b.out 2).trans rfl, blk_frozen b.out 0, blk_frozen b.out 1, blk_frozen b.out 2⟩
theorem rows8 {w : World} {g : Nat} {t : TypeId} {a0 a1 a2 a3 a4 a5 a6 a7 : Value} (b : Aside0 (w.heap[g]? = some (.cells #[a0, a1, a2, a3, a4, a5, a6, a7] t (0, 0)))) : w.cell? ⟨g, 0, none⟩ = some a0 ∧ w.cell? ⟨g, 1, none⟩ = some a1 ∧ w.cell? ⟨g, 2, none⟩ = some a2 ∧ w.cell? ⟨g, 3, none⟩ = some a3 ∧ w.cell? ⟨g, 4, none⟩ = some a4 ∧ w.cell? ⟨g, 5, none⟩ = some a5 ∧ w.cell? ⟨g, 6, none⟩ = some a6 ∧ w.cell? ⟨g, 7, none⟩ = some a7 ∧ w.frozen? ⟨g, 0, none⟩ = false ∧ w.frozen? ⟨g, 1, none⟩ = false ∧ w.frozen? ⟨g, 2, none⟩ = false ∧ w.frozen? ⟨g, 3, none⟩ = false ∧ w.frozen? ⟨g, 4, none⟩ = false ∧ w.frozen? ⟨g, 5, none⟩ = false ∧ w.frozen? ⟨g, 6, none⟩ = false ∧ w.frozen? ⟨g, 7, none⟩ = false :=
  ⟨(blk_cell b.out 0).trans rfl, (blk_cell b.out 1).trans rfl, (blk_cell b.out 2).trans rfl, (blk_cell b.out 3).trans rfl, (blk_cell b.out 4).trans rfl, (blk_cell b.out 5).trans rfl, (blk_cell b.out 6).trans rfl, (blk_cell b.out 7).trans rfl, blk_frozen b.out 0, blk_frozen b.out 1, blk_frozen b.out 2, blk_frozen b.out 3, blk_frozen b.out 4, blk_frozen b.out 5, blk_frozen b.out 6, blk_frozen b.out 7⟩
theorem rows11 {w : World} {g : Nat} {t : TypeId} {a0 a1 a2 a3 a4 a5 a6 a7 a8 a9 a10 : Value} (b : Aside0 (w.heap[g]? = some (.cells #[a0, a1, a2, a3, a4, a5, a6, a7, a8, a9, a10] t (0, 0)))) : w.cell? ⟨g, 0, none⟩ = some a0 ∧ w.cell? ⟨g, 1, none⟩ = some a1 ∧ w.cell? ⟨g, 2, none⟩ = some a2 ∧ w.cell? ⟨g, 3, none⟩ = some a3 ∧ w.cell? ⟨g, 4, none⟩ = some a4 ∧ w.cell? ⟨g, 5, none⟩ = some a5 ∧ w.cell? ⟨g, 6, none⟩ = some a6 ∧ w.cell? ⟨g, 7, none⟩ = some a7 ∧ w.cell? ⟨g, 8, none⟩ = some a8 ∧ w.cell? ⟨g, 9, none⟩ = some a9 ∧ w.cell? ⟨g, 10, none⟩ = some a10 ∧ w.frozen? ⟨g, 0, none⟩ = false ∧ w.frozen? ⟨g, 1, none⟩ = false ∧ w.frozen? ⟨g, 2, none⟩ = false ∧ w.frozen? ⟨g, 3, none⟩ = false ∧ w.frozen? ⟨g, 4, none⟩ = false ∧ w.frozen? ⟨g, 5, none⟩ = false ∧ w.frozen? ⟨g, 6, none⟩ = false ∧ w.frozen? ⟨g, 7, none⟩ = false ∧ w.frozen? ⟨g, 8, none⟩ = false ∧ w.frozen? ⟨g, 9, none⟩ = false ∧ w.frozen? ⟨g, 10, none⟩ = false :=
  ⟨(blk_cell b.out 0).trans rfl, (blk_cell b.out 1).trans rfl, (blk_cell b.out 2).trans rfl, (blk_cell b.out 3).trans rfl, (blk_cell b.out 4).trans rfl, (blk_cell b.out 5).trans rfl, (blk_cell b.out 6).trans rfl, (blk_cell b.out 7).trans rfl, (blk_cell b.out 8).trans rfl, (blk_cell b.out 9).trans rfl, (blk_cell b.out 10).trans rfl, blk_frozen b.out 0, blk_frozen b.out 1, blk_frozen b.out 2, blk_frozen b.out 3, blk_frozen b.out 4, blk_frozen b.out 5, blk_frozen b.out 6, blk_frozen b.out 7, blk_frozen b.out 8, blk_frozen b.out 9, blk_frozen b.out 10⟩
theorem Kd.R_far8 {α : Type} {d : Kd α} {e : Nat} {w : World} {base : Nat} {ok : Nat → Prop} {v : Value} {xs : List α} {g : Nat} (h : d.R e w base ok v xs) (hok : ∀ k, ok k → k ≠ g) (u0 u1 u2 u3 u4 u5 u6 u7 : Value) :
    d.R e ((((((((w.setCell ⟨g, 0, none⟩ u0).setCell ⟨g, 1, none⟩ u1).setCell ⟨g, 2, none⟩ u2).setCell ⟨g, 3, none⟩ u3).setCell ⟨g, 4, none⟩ u4).setCell ⟨g, 5, none⟩ u5).setCell ⟨g, 6, none⟩ u6).setCell ⟨g, 7, none⟩ u7) base ok v xs :=
  Kd.R_far (p := ⟨g, 7, none⟩) (Kd.R_far (p := ⟨g, 6, none⟩) (Kd.R_far (p := ⟨g, 5, none⟩) (Kd.R_far (p := ⟨g, 4, none⟩) (Kd.R_far (p := ⟨g, 3, none⟩) (Kd.R_far (p := ⟨g, 2, none⟩) (Kd.R_far (p := ⟨g, 1, none⟩) (Kd.R_far (p := ⟨g, 0, none⟩) h hok u0) hok u1) hok u2) hok u3) hok u4) hok u5) hok u6) hok u7
end Go.Proofs.YtlmmgienbmghmaaDoorW.PrintWords
