import Derived.Test.YtlmmgienbmghmaaDoorProg
import Derived.WalkKit
import Derived.WalkSpells
import Derived.WalkLawsBesides
import Derived.KernelRfl
import Derived.BigQuiet
import Derived.Deep.QuietTactic
import Derived.StillTailTactics
import Derived.Deep.RegionHeld3
import Derived.Deep.RegionWith
import Derived.Lib.Hide
import Derived.Below
import Derived.Test.YtlmmgienbmghmaaDoorWMore
import Derived.Deep.LoopGhost
import Derived.Lib.ConvBytes
import Derived.Tactics
import Derived.Tactics2
/- The buffer of the reader of unit files: its methods, by hand. -/
set_option linter.unusedVariables false
set_option linter.unusedSimpArgs false
namespace Go.Proofs.YtlmmgienbmghmaaDoor.Lex
open Go.RowKit

/-- Between two worlds: only blocks of S, and new ones, have changed. -/
structure Chg (w w' : World) (S : Nat → Prop) : Prop where
  os : w'.os = w.os
  tape : w'.tape = w.tape
  output : w'.output = w.output
  size : w.heap.size ≤ w'.heap.size
  block : ∀ k, k < w.heap.size → ¬ S k → w'.heap[k]? = w.heap[k]?
theorem Chg.refl (w : World) (S : Nat → Prop) : Chg w w S := ⟨rfl, rfl, rfl, Nat.le_refl _, fun _ _ _ => rfl⟩
theorem Chg.trans {a b c : World} {S : Nat → Prop} (h : Chg a b S) (k : Chg b c S) : Chg a c S :=
  ⟨k.os.trans h.os, k.tape.trans h.tape, k.output.trans h.output, Nat.le_trans h.size k.size, fun i hi hs => (k.block i (Nat.lt_of_lt_of_le hi h.size) hs).trans (h.block i hi hs)⟩
theorem Chg.mono {a b : World} {S T : Nat → Prop} (h : Chg a b S) (hST : ∀ k, S k → T k) : Chg a b T := ⟨h.os, h.tape, h.output, h.size, fun i hi hs => h.block i hi (fun k => hs (hST i k))⟩
theorem Chg.of_below {w w' : World} (h : Below w.heap.size w w') (S : Nat → Prop) : Chg w w' S := ⟨h.os, h.tape, h.output, h.size, fun k hk _ => h.block k hk⟩
theorem Chg.below {w w' : World} {S : Nat → Prop} (h : Chg w w' S) {B : Nat} (hB : B ≤ w.heap.size) (hS : ∀ k, S k → B ≤ k) : Below B w w' :=
  ⟨h.os, h.tape, h.output, h.size, fun k hk => h.block k (by omega) (fun hs => by have := hS k hs; omega)⟩
theorem Chg.drew (w : World) (S : Nat → Prop) : Chg w w.drew S := ⟨rfl, rfl, rfl, Nat.le_refl _, fun _ _ _ => rfl⟩
theorem Chg.drewN (w : World) (n : Nat) (S : Nat → Prop) : Chg w (w.drewN n) S := ⟨rfl, rfl, rfl, Nat.le_refl _, fun _ _ _ => rfl⟩
theorem Chg.set {w : World} {p : Addr} {u : Value} {S : Nat → Prop} (hS : S p.block) : Chg w (w.setCell p u) S := by
  refine ⟨rfl, rfl, rfl, ?_, fun k hk hs => ?_⟩
  · simp [World.setCell]
  · exact Below.heap_setCell w p u k (fun e => hs (e ▸ hS))

/-- The buffer, at block g: text, r, w, last, done. -/
def BufAt (W : World) (g : Nat) (t : ByteArray) (r w last : Int) (d : Bool) : Prop :=
  W.heap[g]? = some (.cells #[.string t, .int .i64 r, .int .i64 w, .int .i64 last, .bool d] 88 (0, 0))
section
variable {W : World} {g : Nat} {t : ByteArray} {r w last : Int} {d : Bool}
theorem BufAt.c0 (h : BufAt W g t r w last d) : W.cell? ⟨g, 0, none⟩ = some (.string t) := by simp [World.cell?, show W.heap[g]? = _ from h]
theorem BufAt.c1 (h : BufAt W g t r w last d) : W.cell? ⟨g, 1, none⟩ = some (.int .i64 r) := by simp [World.cell?, show W.heap[g]? = _ from h]
theorem BufAt.c2 (h : BufAt W g t r w last d) : W.cell? ⟨g, 2, none⟩ = some (.int .i64 w) := by simp [World.cell?, show W.heap[g]? = _ from h]
theorem BufAt.c3 (h : BufAt W g t r w last d) : W.cell? ⟨g, 3, none⟩ = some (.int .i64 last) := by simp [World.cell?, show W.heap[g]? = _ from h]
theorem BufAt.c4 (h : BufAt W g t r w last d) : W.cell? ⟨g, 4, none⟩ = some (.bool d) := by simp [World.cell?, show W.heap[g]? = _ from h]
theorem BufAt.fz (h : BufAt W g t r w last d) (j : Nat) : W.frozen? ⟨g, j, none⟩ = false := by simp [World.frozen?, show W.heap[g]? = _ from h]
theorem BufAt.lt (h : BufAt W g t r w last d) : g < W.heap.size := (Array.getElem?_eq_some_iff.1 h).1
theorem BufAt.drewN (h : BufAt W g t r w last d) (n : Nat) : BufAt (W.drewN n) g t r w last d := h
theorem BufAt.set1 (h : BufAt W g t r w last d) (x : Int) : BufAt (W.setCell ⟨g, 1, none⟩ (.int .i64 x)) g t x w last d := by
  have : W.heap[g]? = _ := h
  simp [BufAt, World.setCell, Array.getElem?_modify, this]
theorem BufAt.set2 (h : BufAt W g t r w last d) (x : Int) : BufAt (W.setCell ⟨g, 2, none⟩ (.int .i64 x)) g t r x last d := by
  have : W.heap[g]? = _ := h
  simp [BufAt, World.setCell, Array.getElem?_modify, this]
theorem BufAt.set3 (h : BufAt W g t r w last d) (x : Int) : BufAt (W.setCell ⟨g, 3, none⟩ (.int .i64 x)) g t r w x d := by
  have : W.heap[g]? = _ := h
  simp [BufAt, World.setCell, Array.getElem?_modify, this]
theorem BufAt.set4 (h : BufAt W g t r w last d) (x : Bool) : BufAt (W.setCell ⟨g, 4, none⟩ (.bool x)) g t r w last x := by
  have : W.heap[g]? = _ := h
  simp [BufAt, World.setCell, Array.getElem?_modify, this]
theorem BufAt.chg {W' : World} {S : Nat → Prop} (h : BufAt W g t r w last d) (c : Chg W W' S) (hS : ¬ S g) : BufAt W' g t r w last d := (c.block g h.lt hS).trans h
end

set_option maxHeartbeats 800000 in
theorem fill_is (g : Nat) (t : ByteArray) (r w last : Int) (d : Bool) (W : World) (h : BufAt W g t r w last d) (hr : 0 ≤ r) (hr2 : r ≤ t.size) (ht : t.size ≤ 100000) :
    Calls Tryd.prog 58 #[.pointer (some ⟨g, 0, none⟩)] W fun e W' => e = .returned (.tuple #[]) ∧
      BufAt W' g t r (if w = t.size then w else min t.size (r + 4096)) last (if w = t.size then true else d) ∧ Chg W W' (· = g) := by
  have k0 := h.c0
  have k1 := h.c1
  have k2 := h.c2
  have k4 := h.c4
  have f2 := h.fz 2
  have f4 := h.fz 4
  by_cases e : w = t.size
  · rw [if_pos e, if_pos e]
    have e1 : ((w : Int) == (t.size : Int)) = true := by simp [e]
    have HE := Lib.hid e
    have H := Lib.hid h
    clear h e
    go_enter Tryd.func58, Tryd.ntmps58
    go_wp2
    go_quiet (fail)
    go_wp2
    refine bodyPost_ret (results_none rfl _ _ _) rfl ?_
    have HB := (H.out.drewN nq).set4 true
    exact ⟨rfl, HB, (Chg.drewN W nq _).trans (Chg.set rfl)⟩
  · rw [if_neg e, if_neg e]
    have e1 : ((w : Int) == (t.size : Int)) = false := by simp [e]
    have H := Lib.hid h
    clear h
    go_enter Tryd.func58, Tryd.ntmps58
    go_wp2
    go_quiet (fail)
    go_wp2
    go_region
    go_end0
    have HB := (H.out.drewN (nq + 1)).set2 (if r + 4096 < (t.size : Int) then r + 4096 else (t.size : Int))
    have em : (if r + 4096 < (t.size : Int) then r + 4096 else (t.size : Int)) = min (t.size : Int) (r + 4096) := by split <;> omega
    rw [em] at HB ⊢
    exact ⟨rfl, HB, (Chg.drewN W (nq + 1) _).trans (Chg.set rfl)⟩
end Go.Proofs.YtlmmgienbmghmaaDoor.Lex

/- The buffer of the reader of unit files, by hand: ReadBytes, Peek, and the small ones. -/
set_option linter.unusedVariables false
set_option linter.unusedSimpArgs false
namespace Go.Proofs.YtlmmgienbmghmaaDoor.Lex
open Go.RowKit Go.Proofs.YtlmmgienbmghmaaDoorW.PrintWords Go.Proofs.YtlmmgienbmghmaaDoorW.PrintLast Go.Proofs.YtlmmgienbmghmaaDoorW.PrintMore
/-- The buffer: where reading goes on, where it ends, where the rune that was read last begins, and whether the text's end was met. -/
structure Bf where
  r : Nat
  w : Nat
  last : Nat
  d : Bool
/-- The buffer of a text of n bytes lies within it. -/
structure Bf.Ok (b : Bf) (n : Nat) : Prop where
  rw : b.r ≤ b.w
  wn : b.w ≤ n
  ln : b.last ≤ n
  dn : b.d = true → b.w = n
def Bf.fill (b : Bf) (n : Nat) : Bf := if b.w = n then ⟨b.r, b.w, b.last, true⟩ else ⟨b.r, min n (b.r + 4096), b.last, b.d⟩
theorem Bf.Ok.fill {b : Bf} {n : Nat} (h : b.Ok n) (h4 : b.w - b.r ≤ 4096) : (b.fill n).Ok n := by
  have h1 := h.rw
  have h2 := h.wn
  unfold Bf.fill
  by_cases c : b.w = n
  · rw [if_pos c]; exact ⟨h1, h2, h.ln, fun _ => c⟩
  · rw [if_neg c]; exact ⟨by simp only []; omega, by simp only []; omega, h.ln, fun hd => absurd (h.dn hd) c⟩
/-- The buffer's box holds it. -/
def BufB (W : World) (g : Nat) (t : ByteArray) (b : Bf) : Prop := BufAt W g t b.r b.w b.last b.d
theorem fillB_is (g : Nat) (t : ByteArray) (b : Bf) (W : World) (h : BufB W g t b) (ok : b.Ok t.size) (ht : t.size ≤ 100000) :
    Calls Tryd.prog 58 #[.pointer (some ⟨g, 0, none⟩)] W fun e W' => e = .returned (.tuple #[]) ∧ BufB W' g t (b.fill t.size) ∧ Chg W W' (· = g) := by
  have h1 := ok.rw
  have h2 := ok.wn
  refine (fill_is g t b.r b.w b.last b.d W h (by omega) (by omega) ht).mono ?_
  rintro e W' ⟨rfl, hb, hc⟩
  refine ⟨rfl, ?_, hc⟩
  unfold BufB Bf.fill
  by_cases c : b.w = t.size
  · have c2 : (b.w : Int) = (t.size : Int) := by omega
    rw [if_pos c2, if_pos c2] at hb
    rw [if_pos c]
    exact hb
  · have c2 : ¬ (b.w : Int) = (t.size : Int) := by omega
    rw [if_neg c2, if_neg c2] at hb
    rw [if_neg c]
    have e : min (t.size : Int) ((b.r : Int) + 4096) = ((min t.size (b.r + 4096) : Nat) : Int) := by omega
    rw [e] at hb
    exact hb
/-- The end of a text, as an error. -/
def eofV : Value := .iface 113 (.agg #[])
set_option maxHeartbeats 4000000 in
theorem buffered_is (g : Nat) (t : ByteArray) (b : Bf) (W : World) (h : BufB W g t b) (ok : b.Ok t.size) (ht : t.size ≤ 100000) :
    Calls Tryd.prog 43 #[.pointer (some ⟨g, 0, none⟩)] W fun e W' => e = .returned (.int .i64 ((b.w - b.r : Nat) : Int)) ∧ ∃ n, W' = W.drewN n := by
  have k1 := h.c1
  have k2 := h.c2
  have h1 := ok.rw
  have h2 := ok.wn
  have e0 : wrap64 ((b.w : Int) - (b.r : Int)) = ((b.w - b.r : Nat) : Int) := by rw [← i64_w, IntKind.wrap_i64]; omega
  have E0 := Lib.hid e0
  clear h ok h1 h2 e0
  go_enter Tryd.func43, Tryd.ntmps43
  go_wp2
  go_quiet (fail)
  all_goals go_wp2
  all_goals (go_ret; refine ⟨?_, _, rfl⟩; rw [E0.out]; rfl)
set_option maxHeartbeats 4000000 in
theorem unread_is (g : Nat) (t : ByteArray) (b : Bf) (W : World) (h : BufB W g t b) :
    Calls Tryd.prog 82 #[.pointer (some ⟨g, 0, none⟩)] W fun e W' => e = .returned .nilIface ∧ BufB W' g t ⟨b.last, b.w, b.last, b.d⟩ ∧ Chg W W' (· = g) := by
  have k1 := h.c1
  have k3 := h.c3
  have f1 := h.fz 1
  have H := Lib.hid h
  clear h
  go_enter Tryd.func82, Tryd.ntmps82
  go_wp2
  go_ret
  exact ⟨rfl, BufAt.set1 H.out _, Chg.set rfl⟩
theorem ta_eof (W : World) : (Instr.typeAssert (.iface 113 (.agg #[])) 44 113 true).run Tryd.prog W = .ok (.tuple #[.agg #[], .bool true]) W := by
  simp [Instr.typeAssert, run_underlying Tryd.underlying113]
theorem ta_nil (W : World) : (Instr.typeAssert .nilIface 44 113 true).run Tryd.prog W = .ok (.tuple #[.agg #[], .bool false]) W := by
  simp [Instr.typeAssert, run_underlying Tryd.underlying113, Tryd.zeroValue113]
set_option maxHeartbeats 4000000 in
set_option maxRecDepth 100000 in
theorem zzEOF_eof (W : World) : Calls Tryd.prog 54 #[eofV] W fun e W' => e = .returned (.bool true) ∧ Below W.heap.size W W' := by
  unfold eofV
  have hu := Tryd.underlying113
  have ha := ta_eof
  go_enter Tryd.func54, Tryd.ntmps54
  go_wp2
  go_ret
  exact ⟨rfl, below_alloc (Below.refl _ _) _⟩
set_option maxHeartbeats 4000000 in
set_option maxRecDepth 100000 in
theorem zzEOF_nil (W : World) : Calls Tryd.prog 54 #[.nilIface] W fun e W' => e = .returned (.bool false) ∧ Below W.heap.size W W' := by
  have hu := Tryd.underlying113
  have ha := ta_nil
  go_enter Tryd.func54, Tryd.ntmps54
  go_wp2
  go_ret
  exact ⟨rfl, below_alloc (Below.refl _ _) _⟩
end Go.Proofs.YtlmmgienbmghmaaDoor.Lex
