/- The buffer of the reader of unit files: its methods, by hand. -/
import Derived.Test.YtlmmgienbmghmaaDoorProg
import Derived.WalkKit
import Derived.WalkSpells
import Derived.WalkLawsBesides
import Derived.KernelRfl
import Derived.BigQuiet
import Derived.Deep.QuietTactic
import Derived.StillTailTactics
import Derived.Deep.RegionHeld3
import Derived.Deep.RegionWith
import Derived.Lib.Hide
import Derived.Below
set_option linter.unusedVariables false
set_option linter.unusedSimpArgs false
namespace Go.Proofs.YtlmmgienbmghmaaDoor.Lex
open Go.RowKit

/-- Between two worlds: only blocks of S, and new ones, have changed. -/
structure Chg (w w' : World) (S : Nat → Prop) : Prop where
  os : w'.os = w.os
  tape : w'.tape = w.tape
  output : w'.output = w.output
  size : w.heap.size ≤ w'.heap.size
  block : ∀ k, k < w.heap.size → ¬ S k → w'.heap[k]? = w.heap[k]?
theorem Chg.refl (w : World) (S : Nat → Prop) : Chg w w S := ⟨rfl, rfl, rfl, Nat.le_refl _, fun _ _ _ => rfl⟩
theorem Chg.trans {a b c : World} {S : Nat → Prop} (h : Chg a b S) (k : Chg b c S) : Chg a c S :=
  ⟨k.os.trans h.os, k.tape.trans h.tape, k.output.trans h.output, Nat.le_trans h.size k.size, fun i hi hs => (k.block i (Nat.lt_of_lt_of_le hi h.size) hs).trans (h.block i hi hs)⟩
theorem Chg.mono {a b : World} {S T : Nat → Prop} (h : Chg a b S) (hST : ∀ k, S k → T k) : Chg a b T := ⟨h.os, h.tape, h.output, h.size, fun i hi hs => h.block i hi (fun k => hs (hST i k))⟩
theorem Chg.of_below {w w' : World} (h : Below w.heap.size w w') (S : Nat → Prop) : Chg w w' S := ⟨h.os, h.tape, h.output, h.size, fun k hk _ => h.block k hk⟩
theorem Chg.below {w w' : World} {S : Nat → Prop} (h : Chg w w' S) {B : Nat} (hB : B ≤ w.heap.size) (hS : ∀ k, S k → B ≤ k) : Below B w w' :=
  ⟨h.os, h.tape, h.output, h.size, fun k hk => h.block k (by omega) (fun hs => by have := hS k hs; omega)⟩
theorem Chg.drew (w : World) (S : Nat → Prop) : Chg w w.drew S := ⟨rfl, rfl, rfl, Nat.le_refl _, fun _ _ _ => rfl⟩
theorem Chg.drewN (w : World) (n : Nat) (S : Nat → Prop) : Chg w (w.drewN n) S := ⟨rfl, rfl, rfl, Nat.le_refl _, fun _ _ _ => rfl⟩
theorem Chg.set {w : World} {p : Addr} {u : Value} {S : Nat → Prop} (hS : S p.block) : Chg w (w.setCell p u) S := by
  refine ⟨rfl, rfl, rfl, ?_, fun k hk hs => ?_⟩
  · simp [World.setCell]
  · exact Below.heap_setCell w p u k (fun e => hs (e ▸ hS))

/-- The buffer, at block g: text, r, w, last, done. -/
def BufAt (W : World) (g : Nat) (t : ByteArray) (r w last : Int) (d : Bool) : Prop :=
  W.heap[g]? = some (.cells #[.string t, .int .i64 r, .int .i64 w, .int .i64 last, .bool d] 88 (0, 0))
section
variable {W : World} {g : Nat} {t : ByteArray} {r w last : Int} {d : Bool}
theorem BufAt.c0 (h : BufAt W g t r w last d) : W.cell? ⟨g, 0, none⟩ = some (.string t) := by simp [World.cell?, show W.heap[g]? = _ from h]
theorem BufAt.c1 (h : BufAt W g t r w last d) : W.cell? ⟨g, 1, none⟩ = some (.int .i64 r) := by simp [World.cell?, show W.heap[g]? = _ from h]
theorem BufAt.c2 (h : BufAt W g t r w last d) : W.cell? ⟨g, 2, none⟩ = some (.int .i64 w) := by simp [World.cell?, show W.heap[g]? = _ from h]
theorem BufAt.c3 (h : BufAt W g t r w last d) : W.cell? ⟨g, 3, none⟩ = some (.int .i64 last) := by simp [World.cell?, show W.heap[g]? = _ from h]
theorem BufAt.c4 (h : BufAt W g t r w last d) : W.cell? ⟨g, 4, none⟩ = some (.bool d) := by simp [World.cell?, show W.heap[g]? = _ from h]
theorem BufAt.fz (h : BufAt W g t r w last d) (j : Nat) : W.frozen? ⟨g, j, none⟩ = false := by simp [World.frozen?, show W.heap[g]? = _ from h]
theorem BufAt.lt (h : BufAt W g t r w last d) : g < W.heap.size := (Array.getElem?_eq_some_iff.1 h).1
theorem BufAt.drewN (h : BufAt W g t r w last d) (n : Nat) : BufAt (W.drewN n) g t r w last d := h
theorem BufAt.set1 (h : BufAt W g t r w last d) (x : Int) : BufAt (W.setCell ⟨g, 1, none⟩ (.int .i64 x)) g t x w last d := by
  have : W.heap[g]? = _ := h
  simp [BufAt, World.setCell, Array.getElem?_modify, this]
theorem BufAt.set2 (h : BufAt W g t r w last d) (x : Int) : BufAt (W.setCell ⟨g, 2, none⟩ (.int .i64 x)) g t r x last d := by
  have : W.heap[g]? = _ := h
  simp [BufAt, World.setCell, Array.getElem?_modify, this]
theorem BufAt.set3 (h : BufAt W g t r w last d) (x : Int) : BufAt (W.setCell ⟨g, 3, none⟩ (.int .i64 x)) g t r w x d := by
  have : W.heap[g]? = _ := h
  simp [BufAt, World.setCell, Array.getElem?_modify, this]
theorem BufAt.set4 (h : BufAt W g t r w last d) (x : Bool) : BufAt (W.setCell ⟨g, 4, none⟩ (.bool x)) g t r w last x := by
  have : W.heap[g]? = _ := h
  simp [BufAt, World.setCell, Array.getElem?_modify, this]
theorem BufAt.chg {W' : World} {S : Nat → Prop} (h : BufAt W g t r w last d) (c : Chg W W' S) (hS : ¬ S g) : BufAt W' g t r w last d := (c.block g h.lt hS).trans h
end

set_option maxHeartbeats 800000 in
theorem fill_is (g : Nat) (t : ByteArray) (r w last : Int) (d : Bool) (W : World) (h : BufAt W g t r w last d) (hr : 0 ≤ r) (hr2 : r ≤ t.size) (ht : t.size ≤ 100000) :
    Calls Tryd.prog 58 #[.pointer (some ⟨g, 0, none⟩)] W fun e W' => e = .returned (.tuple #[]) ∧
      BufAt W' g t r (if w = t.size then w else min t.size (r + 4096)) last (if w = t.size then true else d) ∧ Chg W W' (· = g) := by
  have k0 := h.c0
  have k1 := h.c1
  have k2 := h.c2
  have k4 := h.c4
  have f2 := h.fz 2
  have f4 := h.fz 4
  by_cases e : w = t.size
  · rw [if_pos e, if_pos e]
    have e1 : ((w : Int) == (t.size : Int)) = true := by simp [e]
    have HE := Lib.hid e
    have H := Lib.hid h
    clear h e
    go_enter Tryd.func58, Tryd.ntmps58
    go_wp2
    go_quiet (fail)
    go_wp2
    refine bodyPost_ret (results_none rfl _ _ _) rfl ?_
    have HB := (H.out.drewN nq).set4 true
    exact ⟨rfl, HB, (Chg.drewN W nq _).trans (Chg.set rfl)⟩
  · rw [if_neg e, if_neg e]
    have e1 : ((w : Int) == (t.size : Int)) = false := by simp [e]
    have H := Lib.hid h
    clear h
    go_enter Tryd.func58, Tryd.ntmps58
    go_wp2
    go_quiet (fail)
    go_wp2
    go_region
    go_end0
    have HB := (H.out.drewN (nq + 1)).set2 (if r + 4096 < (t.size : Int) then r + 4096 else (t.size : Int))
    have em : (if r + 4096 < (t.size : Int) then r + 4096 else (t.size : Int)) = min (t.size : Int) (r + 4096) := by split <;> omega
    rw [em] at HB ⊢
    exact ⟨rfl, HB, (Chg.drewN W (nq + 1) _).trans (Chg.set rfl)⟩
end Go.Proofs.YtlmmgienbmghmaaDoor.Lex
