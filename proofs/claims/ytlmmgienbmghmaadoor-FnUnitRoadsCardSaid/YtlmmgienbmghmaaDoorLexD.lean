/- The buffer of the reader of unit files, by hand: Peek (where the buffer holds enough), FullRuneInString, ReadRune. -/
import Derived.Test.YtlmmgienbmghmaaDoorLexC
import Derived.Shelf.Unicode.DecodeAny
set_option linter.unusedVariables false
set_option linter.unusedSimpArgs false
namespace Go.Proofs.YtlmmgienbmghmaaDoor.Lex
open Go.RowKit Go.Proofs.YtlmmgienbmghmaaDoorW.PrintWords Go.Proofs.YtlmmgienbmghmaaDoorW.PrintLast Go.Proofs.YtlmmgienbmghmaaDoorW.PrintMore
set_option maxHeartbeats 8000000 in
set_option maxRecDepth 100000 in
theorem peek_is (g : Nat) (t : ByteArray) (b : Bf) (W : World) (h : BufB W g t b) (ok : b.Ok t.size) (ht : t.size ≤ 100000) (hn : 2048 ≤ b.w - b.r) :
    Calls Tryd.prog 44 #[.pointer (some ⟨g, 0, none⟩), .int .i64 2048] W fun e W' => ∃ v, e = .returned (.tuple #[v, .nilIface]) ∧ IsBytes W' v ((t.data.toList.drop b.r).take 2048) ∧ Below W.heap.size W W' := by
  have a0 := h.c0
  have a1 := h.c1
  have a2 := h.c2
  have a4 := h.c4
  have h1 := ok.rw
  have h2 := ok.wn
  obtain ⟨q, hq⟩ : ∃ q : Nat, q = b.r + 2048 := ⟨_, rfl⟩
  have e1 : IntKind.i64.wrap ((b.w : Int) - (b.r : Int)) = ((b.w - b.r : Nat) : Int) := by rw [IntKind.wrap_i64]; omega
  have e2 : IntKind.i64.wrap ((b.r : Int) + 2048) = (q : Int) := by rw [IntKind.wrap_i64]; omega
  have f4 : decide (((b.w - b.r : Nat) : Int) < 2048) = false := decide_eq_false (by omega)
  have f5 : decide (b.w - b.r < 2048) = false := decide_eq_false (by omega)
  have p1 : (0 : Int) ≤ (b.r : Int) := by omega
  have p4 : b.r ≤ q := by omega
  have p5 : q ≤ t.size := by omega
  have p2 : (b.r : Int) ≤ (q : Int) := by omega
  have p3 : (q : Int) ≤ (t.size : Int) := by omega
  have d2 : decide ((b.r : Int) ≤ (q : Int)) = true := decide_eq_true p2
  have d3 : decide ((q : Int) ≤ (t.size : Int)) = true := decide_eq_true p3
  have HQ := Lib.hid hq
  have H := Lib.hid h
  obtain ⟨W0, hW0⟩ : ∃ W0, W0 = W := ⟨_, rfl⟩
  have HW0 := Lib.hid hW0
  rw [show (fun (e : Ending) (W' : World) => ∃ v, e = .returned (.tuple #[v, .nilIface]) ∧ IsBytes W' v ((t.data.toList.drop b.r).take 2048) ∧ Below W.heap.size W W') = (fun (e : Ending) (W' : World) => ∃ v, e = .returned (.tuple #[v, .nilIface]) ∧ IsBytes W' v ((t.data.toList.drop b.r).take 2048) ∧ Below W0.heap.size W0 W') by rw [hW0]]
  clear h ok h1 h2 hn hq hW0
  go_enter Tryd.func44, Tryd.ntmps44
  go_wp2
  go_loopg [35] 0 (fun kq v35 w' => w' = W)
  case atStart => exact rfl
  case round =>
    obtain rfl := hrel
    go_wp2
    go_quiet (fail)
    have Hw2 := Aside0.mk (show BufAt (wr.drewN nq) g t b.r b.w b.last b.d from H.out.drewN nq)
    have Bw2 := Aside0.mk (show Below W0.heap.size W0 (wr.drewN nq) from pw_below_drewN (show Below W0.heap.size W0 wr from HW0.out ▸ Below.refl _ _) nq)
    clear a0 a1 a2 a4
    generalize wr.drewN nq = w2 at *
    have a0 := Hw2.out.c0
    have a1 := Hw2.out.c1
    have a2 := Hw2.out.c2
    have a4 := Hw2.out.c4
    go_wp2
    go_quiet (fail)
    have Hw3 := Aside0.mk (show BufAt (w2.drewN nq) g t b.r b.w b.last b.d from Hw2.out.drewN nq)
    have Bw3 := Aside0.mk (show Below W0.heap.size W0 (w2.drewN nq) from pw_below_drewN Bw2.out nq)
    clear a0 a1 a2 a4
    generalize w2.drewN nq = w3 at *
    have a0 := Hw3.out.c0
    have a1 := Hw3.out.c1
    have a2 := Hw3.out.c2
    have a4 := Hw3.out.c4
    go_wp2
    go_still_tail 15, (by kernel_rfl)
    change wpList _ _ _ _ _ w3.drew
    have H4 := Aside0.mk (show Below W0.heap.size W0 w3.drew from below_drew Bw3.out)
    clear a0 a1 a2 a4 Hw2 Hw3 Bw2 Bw3 H
    generalize w3.drew = w4 at *
    have hcv := Lib.run_convert_string_bytes (P := Tryd.prog) w4 9 26 5 (t.extract b.r q) (u := .string) Tryd.underlying9 Tryd.underlying26 Tryd.underlying5
    go_wp2
    go_ret2
    have hB := bytesWorld_below w4 5 (t.extract b.r q)
    have hsz : (t.extract b.r q).size = q - b.r := by rw [ByteArray.size_extract]; omega
    have hdat : (t.extract b.r q).data.toList = (t.data.toList.drop b.r).take (q - b.r) := Lib.extract_data t b.r q
    have hI := isBytes_conv w4 (t.extract b.r q) (by omega)
    have hq2 : q - b.r = 2048 := by have := HQ.out; omega
    rw [hsz, hdat] at hI
    have hI2 : IsBytes (Lib.bytesWorld w4 5 (t.extract b.r q)) (.slice (some ⟨w4.heap.size, 0, none⟩) (q - b.r) (grownCap w4 (q - b.r) 0 5)) ((t.data.toList.drop b.r).take 2048) := by
      generalize (Value.slice (some ⟨w4.heap.size, 0, none⟩) (q - b.r) (grownCap w4 (q - b.r) 0 5)) = vv at hI ⊢
      rw [← hq2]
      exact hI
    exact ⟨_, rfl, hI2, below_step H4.out hB⟩
end Go.Proofs.YtlmmgienbmghmaaDoor.Lex
