/- The buffer of the reader of unit files, by hand: ReadBytes, Peek, and the small ones. -/
import Derived.Test.YtlmmgienbmghmaaDoorLexA
import Derived.Test.YtlmmgienbmghmaaDoorWMore
import Derived.Deep.LoopGhost
import Derived.Lib.ConvBytes
import Derived.Tactics
import Derived.Tactics2
set_option linter.unusedVariables false
set_option linter.unusedSimpArgs false
namespace Go.Proofs.YtlmmgienbmghmaaDoor.Lex
open Go.RowKit Go.Proofs.YtlmmgienbmghmaaDoorW.PrintWords Go.Proofs.YtlmmgienbmghmaaDoorW.PrintLast Go.Proofs.YtlmmgienbmghmaaDoorW.PrintMore
/-- The buffer: where reading goes on, where it ends, where the rune that was read last begins, and whether the text's end was met. -/
structure Bf where
  r : Nat
  w : Nat
  last : Nat
  d : Bool
/-- The buffer of a text of n bytes lies within it. -/
structure Bf.Ok (b : Bf) (n : Nat) : Prop where
  rw : b.r ≤ b.w
  wn : b.w ≤ n
  ln : b.last ≤ n
  dn : b.d = true → b.w = n
def Bf.fill (b : Bf) (n : Nat) : Bf := if b.w = n then ⟨b.r, b.w, b.last, true⟩ else ⟨b.r, min n (b.r + 4096), b.last, b.d⟩
theorem Bf.Ok.fill {b : Bf} {n : Nat} (h : b.Ok n) (h4 : b.w - b.r ≤ 4096) : (b.fill n).Ok n := by
  have h1 := h.rw
  have h2 := h.wn
  unfold Bf.fill
  by_cases c : b.w = n
  · rw [if_pos c]; exact ⟨h1, h2, h.ln, fun _ => c⟩
  · rw [if_neg c]; exact ⟨by simp only []; omega, by simp only []; omega, h.ln, fun hd => absurd (h.dn hd) c⟩
/-- The buffer's box holds it. -/
def BufB (W : World) (g : Nat) (t : ByteArray) (b : Bf) : Prop := BufAt W g t b.r b.w b.last b.d
theorem fillB_is (g : Nat) (t : ByteArray) (b : Bf) (W : World) (h : BufB W g t b) (ok : b.Ok t.size) (ht : t.size ≤ 100000) :
    Calls Tryd.prog 58 #[.pointer (some ⟨g, 0, none⟩)] W fun e W' => e = .returned (.tuple #[]) ∧ BufB W' g t (b.fill t.size) ∧ Chg W W' (· = g) := by
  have h1 := ok.rw
  have h2 := ok.wn
  refine (fill_is g t b.r b.w b.last b.d W h (by omega) (by omega) ht).mono ?_
  rintro e W' ⟨rfl, hb, hc⟩
  refine ⟨rfl, ?_, hc⟩
  unfold BufB Bf.fill
  by_cases c : b.w = t.size
  · have c2 : (b.w : Int) = (t.size : Int) := by omega
    rw [if_pos c2, if_pos c2] at hb
    rw [if_pos c]
    exact hb
  · have c2 : ¬ (b.w : Int) = (t.size : Int) := by omega
    rw [if_neg c2, if_neg c2] at hb
    rw [if_neg c]
    have e : min (t.size : Int) ((b.r : Int) + 4096) = ((min t.size (b.r + 4096) : Nat) : Int) := by omega
    rw [e] at hb
    exact hb
/-- The end of a text, as an error. -/
def eofV : Value := .iface 113 (.agg #[])
set_option maxHeartbeats 4000000 in
theorem buffered_is (g : Nat) (t : ByteArray) (b : Bf) (W : World) (h : BufB W g t b) (ok : b.Ok t.size) (ht : t.size ≤ 100000) :
    Calls Tryd.prog 43 #[.pointer (some ⟨g, 0, none⟩)] W fun e W' => e = .returned (.int .i64 ((b.w - b.r : Nat) : Int)) ∧ ∃ n, W' = W.drewN n := by
  have k1 := h.c1
  have k2 := h.c2
  have h1 := ok.rw
  have h2 := ok.wn
  have e0 : wrap64 ((b.w : Int) - (b.r : Int)) = ((b.w - b.r : Nat) : Int) := by rw [← i64_w, IntKind.wrap_i64]; omega
  have E0 := Lib.hid e0
  clear h ok h1 h2 e0
  go_enter Tryd.func43, Tryd.ntmps43
  go_wp2
  go_quiet (fail)
  all_goals go_wp2
  all_goals (go_ret; refine ⟨?_, _, rfl⟩; rw [E0.out]; rfl)
set_option maxHeartbeats 4000000 in
theorem unread_is (g : Nat) (t : ByteArray) (b : Bf) (W : World) (h : BufB W g t b) :
    Calls Tryd.prog 82 #[.pointer (some ⟨g, 0, none⟩)] W fun e W' => e = .returned .nilIface ∧ BufB W' g t ⟨b.last, b.w, b.last, b.d⟩ ∧ Chg W W' (· = g) := by
  have k1 := h.c1
  have k3 := h.c3
  have f1 := h.fz 1
  have H := Lib.hid h
  clear h
  go_enter Tryd.func82, Tryd.ntmps82
  go_wp2
  go_ret
  exact ⟨rfl, BufAt.set1 H.out _, Chg.set rfl⟩
theorem ta_eof (W : World) : (Instr.typeAssert (.iface 113 (.agg #[])) 44 113 true).run Tryd.prog W = .ok (.tuple #[.agg #[], .bool true]) W := by
  simp [Instr.typeAssert, run_underlying Tryd.underlying113]
theorem ta_nil (W : World) : (Instr.typeAssert .nilIface 44 113 true).run Tryd.prog W = .ok (.tuple #[.agg #[], .bool false]) W := by
  simp [Instr.typeAssert, run_underlying Tryd.underlying113, Tryd.zeroValue113]
set_option maxHeartbeats 4000000 in
set_option maxRecDepth 100000 in
theorem zzEOF_eof (W : World) : Calls Tryd.prog 54 #[eofV] W fun e W' => e = .returned (.bool true) ∧ Below W.heap.size W W' := by
  unfold eofV
  have hu := Tryd.underlying113
  have ha := ta_eof
  go_enter Tryd.func54, Tryd.ntmps54
  go_wp2
  go_ret
  exact ⟨rfl, below_alloc (Below.refl _ _) _⟩
set_option maxHeartbeats 4000000 in
set_option maxRecDepth 100000 in
theorem zzEOF_nil (W : World) : Calls Tryd.prog 54 #[.nilIface] W fun e W' => e = .returned (.bool false) ∧ Below W.heap.size W W' := by
  have hu := Tryd.underlying113
  have ha := ta_nil
  go_enter Tryd.func54, Tryd.ntmps54
  go_wp2
  go_ret
  exact ⟨rfl, below_alloc (Below.refl _ _) _⟩
end Go.Proofs.YtlmmgienbmghmaaDoor.Lex
