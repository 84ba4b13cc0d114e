/- The buffer of the reader of unit files, by hand: ReadRune at every text. -/
import Derived.Test.YtlmmgienbmghmaaDoorLexE
import Derived.BigQuiet
import Derived.Deep.Quiet
set_option linter.unusedVariables false
set_option linter.unusedSimpArgs false
namespace Go.Proofs.YtlmmgienbmghmaaDoor.Lex
open Go.RowKit Go.Proofs.YtlmmgienbmghmaaDoorW.PrintWords Go.Proofs.YtlmmgienbmghmaaDoorW.PrintLast Go.Proofs.YtlmmgienbmghmaaDoorW.PrintMore
/-- The buffer is filled before a rune is read. -/
def need (t : ByteArray) (b : Bf) : Bool := decide (b.w < b.r + 4) && (!(fullF (t.extract b.r b.w)) && !b.d)
def rrF (t : ByteArray) (b : Bf) : Bf := if need t b = true then (if need t (b.fill t.size) = true then (b.fill t.size).fill t.size else b.fill t.size) else b
/-- ReadRune: the buffer behind it, and the rune, if there is one. -/
def rr (t : ByteArray) (b : Bf) : Bf × Option Nat :=
  if (rrF t b).r = (rrF t b).w then (⟨(rrF t b).r, (rrF t b).w, (rrF t b).r, false⟩, none)
  else (⟨(rrF t b).r + (Lib.decodeGo (t.extract (rrF t b).r (rrF t b).w)).2, (rrF t b).w, (rrF t b).r, (rrF t b).d⟩, some (Lib.decodeGo (t.extract (rrF t b).r (rrF t b).w)).1)
def RR (t : ByteArray) (b : Bf) (k : Nat) (b1 : Bf) : Prop :=
  (k = 2 ∧ b1 = b) ∨ (k = 1 ∧ need t b = true ∧ b1 = b.fill t.size) ∨ (k = 0 ∧ need t b = true ∧ need t (b.fill t.size) = true ∧ b1 = (b.fill t.size).fill t.size)
theorem need_iff (t : ByteArray) (b : Bf) : need t b = true ↔ b.w < b.r + 4 ∧ fullF (t.extract b.r b.w) = false ∧ b.d = false := by
  unfold need
  simp
theorem fill_ok {b : Bf} {n : Nat} (h : b.Ok n) (h4 : b.w ≤ 4096 + b.r) : (b.fill n).Ok n ∧ (b.fill n).w ≤ 4096 + (b.fill n).r ∧ (b.fill n).r = b.r := ⟨h.fill (by omega), fill_w _ _ h4, fill_r _ _⟩
theorem need3 {t : ByteArray} {b : Bf} (ok : b.Ok t.size) (h1 : need t b = true) (h2 : need t (b.fill t.size) = true) : need t ((b.fill t.size).fill t.size) = false := by
  cases h : need t ((b.fill t.size).fill t.size) with
  | false => rfl
  | true =>
    exfalso
    obtain ⟨a1, a2, a3⟩ := (need_iff t _).1 h1
    obtain ⟨b1, b2, b3⟩ := (need_iff t _).1 h2
    obtain ⟨c1, c2, c3⟩ := (need_iff t _).1 h
    have hw := ok.wn
    unfold Bf.fill at b1 b3 c1 c3
    by_cases e1 : b.w = t.size
    · rw [if_pos e1] at b3; cases b3
    · simp only [if_neg e1] at b1 b3 c1 c3
      have e2 : min t.size (b.r + 4096) = t.size := by omega
      rw [if_pos e2] at c3
      cases c3
theorem rr_step {t : ByteArray} {b b1 : Bf} {k : Nat} (ok : b.Ok t.size) (h : RR t b k b1) (hn : need t b1 = true) : ∃ k', k = k' + 1 ∧ RR t b k' (b1.fill t.size) := by
  rcases h with ⟨rfl, rfl⟩ | ⟨rfl, h1, rfl⟩ | ⟨rfl, h1, h2, rfl⟩
  · exact ⟨1, rfl, .inr (.inl ⟨rfl, hn, rfl⟩)⟩
  · exact ⟨0, rfl, .inr (.inr ⟨rfl, h1, hn, rfl⟩)⟩
  · rw [need3 ok h1 h2] at hn; cases hn
theorem rr_end {t : ByteArray} {b b1 : Bf} {k : Nat} (h : RR t b k b1) (hn : need t b1 = false) : rrF t b = b1 := by
  unfold rrF
  rcases h with ⟨rfl, rfl⟩ | ⟨rfl, h1, rfl⟩ | ⟨rfl, h1, h2, rfl⟩
  · rw [if_neg (by rw [hn]; decide)]
  · rw [if_pos h1, if_neg (by rw [hn]; decide)]
  · rw [if_pos h1, if_pos h2]
theorem rr_inv {t : ByteArray} {b b1 : Bf} {k : Nat} (h : RR t b k b1) (ok : b.Ok t.size) (h4 : b.w ≤ 4096 + b.r) : b1.Ok t.size ∧ b1.w ≤ 4096 + b1.r ∧ b1.r = b.r := by
  have f1 := fill_ok ok h4
  have f2 := fill_ok f1.1 f1.2.1
  rcases h with ⟨rfl, rfl⟩ | ⟨rfl, h1, rfl⟩ | ⟨rfl, h1, h2, rfl⟩
  · exact ⟨ok, h4, rfl⟩
  · exact f1
  · exact ⟨f2.1, f2.2.1, f2.2.2.trans f1.2.2⟩
theorem rrF_ok {t : ByteArray} {b : Bf} (ok : b.Ok t.size) (h4 : b.w ≤ 4096 + b.r) : (rrF t b).Ok t.size ∧ (rrF t b).w ≤ 4096 + (rrF t b).r ∧ (rrF t b).r = b.r := by
  have f1 := fill_ok ok h4
  have f2 := fill_ok f1.1 f1.2.1
  unfold rrF
  split
  · split
    · exact ⟨f2.1, f2.2.1, f2.2.2.trans f1.2.2⟩
    · exact f1
  · exact ⟨ok, h4, rfl⟩
theorem dec_le (s : ByteArray) : (Lib.decodeGo s).2 ≤ s.size := Lib.decodeGo_le_size s
theorem rr_ok {t : ByteArray} {b : Bf} (ok : b.Ok t.size) (h4 : b.w ≤ 4096 + b.r) : (rr t b).1.Ok t.size ∧ (rr t b).1.w ≤ 4096 + (rr t b).1.r := by
  obtain ⟨h1, h2, h3⟩ := rrF_ok ok h4
  have a1 := h1.rw
  have a2 := h1.wn
  unfold rr
  split
  · exact ⟨⟨a1, a2, by show (rrF t b).r ≤ t.size; omega, fun e => by cases e⟩, h2⟩
  · have hd := dec_le (t.extract (rrF t b).r (rrF t b).w)
    rw [ByteArray.size_extract] at hd
    exact ⟨⟨by show (rrF t b).r + _ ≤ (rrF t b).w; omega, a2, by show (rrF t b).r ≤ t.size; omega, h1.dn⟩, by show (rrF t b).w ≤ 4096 + ((rrF t b).r + _); omega⟩
/-- A world that has gone on from W: what W held stays. -/
structure Later (W : World) where
  w : World
  b : Below W.heap.size W w
instance (W : World) : Nonempty (Later W) := ⟨⟨W, Below.refl _ _⟩⟩
theorem Later.cell {W : World} {a : Addr} {v : Value} (h : W.cell? a = some v) : ∀ x : Later W, x.w.cell? a = some v := fun x => pw_cell_below x.b h
theorem wp_region_later {P : Program} {id : Nat} {Q : Exit → Act → World → Prop} {a : Act} {W : World} {l : List Oper} (hm : P.follows .mixedOrders = true) (hB : Region.lexB .any l.toArray = true)
    (h : wpQuiet P l.toArray (fun w' => ∃ x : Later W, w' = x.w) (fun a' => ∀ w', (∃ x : Later W, w' = x.w) → Q .normal a' w') l a) : (Code.region id l.toArray true).wp P Q a W :=
  wp_region_quiet (C := fun w' => ∃ x : Later W, w' = x.w) hm hB ⟨⟨W.drew, below_drew (Below.refl _ _)⟩, rfl⟩ (by simpa using h)
theorem Calls.later {P : Program} {f : FuncId} {args : Array Value} {W : World} {x : Later W} {v : Value}
    (h : ∀ W2, Below W.heap.size W W2 → Calls P f args W2 fun e w' => e = .returned v ∧ Below W2.heap.size W2 w') : Calls P f args x.w fun e w'' => e = .returned v ∧ ∃ y : Later W, w'' = y.w :=
  (h x.w x.b).mono fun e w' hh => ⟨hh.1, ⟨⟨w', below_step x.b hh.2⟩, rfl⟩⟩
set_option maxHeartbeats 8000000 in
set_option maxRecDepth 100000 in
theorem readRune_is (w0 : World) (g : Nat) (t : ByteArray) (b : Bf) (W : World) (h : BufB W g t b) (ok : b.Ok t.size) (h4 : b.w ≤ 4096 + b.r) (ht : t.size ≤ 100000) (hT : Lib.Utf8Tabs 3 4 w0) (hB : Below w0.heap.size w0 W) (hg : w0.heap.size ≤ g) :
    Calls Tryd.prog 53 #[.pointer (some ⟨g, 0, none⟩)] W fun e W' => Chg W W' (· = g) ∧ BufB W' g t (rr t b).1 ∧
      (((rr t b).2 = none ∧ e = .returned (.tuple #[.int .i32 0, .int .i64 0, eofV])) ∨
       ∃ (c k : Nat), (rr t b).2 = some c ∧ e = .returned (.tuple #[.int .i32 c, .int .i64 k, .nilIface])) := by
  have a0 := h.c0
  have a1 := h.c1
  have a2 := h.c2
  have a4 := h.c4
  have H := Aside0.mk h
  have OK := Lib.hid ok
  have H4 := Lib.hid h4
  have HT := Lib.hid hT
  have HB := Lib.hid hB
  clear h hT hB h4
  go_enter Tryd.func53, Tryd.ntmps53
  go_wp2
  go_loopg [52] 2 (fun kq v52 w' => ∃ b1 : Bf, Aside0 (RR t b kq b1) ∧ Aside0 (BufB w' g t b1) ∧ Aside0 (Chg W w' (· = g)))
  case atStart => exact ⟨b, ⟨.inl ⟨rfl, rfl⟩⟩, H, ⟨Chg.refl _ _⟩⟩
  case round =>
    obtain ⟨⟨r0, ww, ll, dd⟩, hrr, hbuf, hchg⟩ := hrel
    obtain ⟨hok1, h41, hr0⟩ := rr_inv hrr.out OK.out H4.out
    have hr0 : r0 = b.r := hr0
    subst hr0
    clear a0 a1 a2 a4 H
    have hbuf := Aside0.mk (show BufAt wr g t b.r ww ll dd from hbuf.out)
    have a0 := hbuf.out.c0
    have a1 := hbuf.out.c1
    have a2 := hbuf.out.c2
    have a4 := hbuf.out.c4
    have h1 : b.r ≤ ww := hok1.rw
    have h2 : ww ≤ t.size := hok1.wn
    have h5 : ww ≤ 4096 + b.r := h41
    have OK1 := Lib.hid hok1
    have H41 := Lib.hid h41
    clear hok1 h41
    have e4 : IntKind.i64.wrap ((b.r : Int) + 4) = (b.r : Int) + 4 := by rw [IntKind.wrap_i64]; omega
    have p1 : (0 : Int) ≤ (b.r : Int) := by omega
    have p2 : (b.r : Int) ≤ (ww : Int) := by omega
    have p3 : (ww : Int) ≤ (t.size : Int) := by omega
    have d2 : decide ((b.r : Int) ≤ (ww : Int)) = true := decide_eq_true p2
    have d3 : decide ((ww : Int) ≤ (t.size : Int)) = true := decide_eq_true p3
    have HBr := Lib.hid (HB.out.trans (hchg.out.below (B := w0.heap.size) HB.out.size (fun k hk => by rw [hk]; exact hg)))
    have hTr := Lib.hid (Utf8Tabs_below HT.out HBr.out)
    have hF := Lib.hid (fun (W2 : World) (hb : Below wr.heap.size wr W2) => full_is (t.extract b.r ww) W2 (Utf8Tabs_below hTr.out hb))
    obtain ⟨x, hx⟩ : ∃ x, fullF (t.extract b.r ww) = x := ⟨_, rfl⟩
    rw [hx] at hF
    have HX := Lib.hid hx
    clear hx
    have k0 := Later.cell a0
    have k1 := Later.cell a1
    have k2 := Later.cell a2
    have k4 := Later.cell a4
    have hN : (need t ⟨b.r, ww, ll, dd⟩ = true ∧ ww < b.r + 4 ∧ x = false ∧ dd = false) ∨ (need t ⟨b.r, ww, ll, dd⟩ = false ∧ (¬ ww < b.r + 4 ∨ (ww < b.r + 4 ∧ (x = true ∨ (x = false ∧ dd = true))))) := by
      rw [← HX.out]
      cases hn : need t ⟨b.r, ww, ll, dd⟩ with
      | true => exact .inl ⟨rfl, (need_iff t _).1 hn⟩
      | false =>
        refine .inr ⟨rfl, ?_⟩
        by_cases c1 : ww < b.r + 4
        · refine .inr ⟨c1, ?_⟩
          cases hf : fullF (t.extract b.r ww) with
          | true => exact .inl rfl
          | false =>
            cases hd : dd with
            | true => exact .inr ⟨rfl, rfl⟩
            | false => rw [(need_iff t ⟨b.r, ww, ll, dd⟩).2 ⟨c1, hf, hd⟩] at hn; cases hn
        · exact .inl c1
    rcases hN with ⟨hn, c1, rfl, rfl⟩ | ⟨hn, hN⟩
    · have f1 : decide ((ww : Int) < (b.r : Int) + 4) = true := decide_eq_true (by omega)
      have f2 : decide (ww < b.r + 4) = true := decide_eq_true c1
      have e6 : IntKind.i64.wrap ((ww : Int) - (b.r : Int)) = ((ww - b.r : Nat) : Int) := by rw [IntKind.wrap_i64]; omega
      have f4 : decide (((ww - b.r : Nat) : Int) < 4096) = true := decide_eq_true (by omega)
      have f5 : decide (ww - b.r < 4096) = true := decide_eq_true (by omega)
      obtain ⟨k', rfl, hst⟩ := rr_step OK.out hrr.out hn
      have HST := Lib.hid hst
      clear hst hn
      go_wp2
      refine wp_region_later (by kernel_rfl) (by kernel_rfl) ?_
      repeat (go_big_quiet_step ((go_at_call 63; refine Calls.later (hF.out))))
      refine wpQuiet_nil ?_
      rintro w2 ⟨x9, hx9⟩
      have hb2 := x9.b
      rw [← hx9] at hb2
      clear hx9 x9
      have Xf := Lib.hid (show BufB w2 g t ⟨b.r, ww, ll, false⟩ from hbuf.out.chg (Chg.of_below hb2 (fun _ => False)) (fun h => h))
      have Yf := Lib.hid (hchg.out.trans (Chg.of_below hb2 (· = g)))
      clear k0 k1 k2 k4 a0 a1 a2 a4 hb2
      go_wp2_with fail
      refine (fillB_is g t ⟨b.r, ww, ll, false⟩ w2 Xf.out OK1.out ht).mono ?_
      rintro e9 W9 ⟨rfl, hb9, hc9⟩
      have Xg := Lib.hid hb9
      have Yg := Lib.hid (Yf.out.trans hc9)
      clear hb9 hc9 Xf Yf
      go_wp2_with fail
      go_roundg k'
      case measure => omega
      case rel => exact ⟨_, ⟨HST.out⟩, ⟨Xg.out⟩, ⟨Yg.out⟩⟩
    · have hend := Lib.hid (rr_end hrr.out hn)
      clear hn
      rcases hN with c1 | ⟨c1, rfl | ⟨rfl, rfl⟩⟩
      · have f1 : decide ((ww : Int) < (b.r : Int) + 4) = false := decide_eq_false (by omega)
        have f2 : decide (ww < b.r + 4) = false := decide_eq_false c1
        go_wp2
        refine wp_region_later (by kernel_rfl) (by kernel_rfl) ?_
        repeat (go_big_quiet_step (fail))
        refine wpQuiet_nil ?_
        rintro w2 ⟨x9, hx9⟩
        have hb2 := x9.b
        rw [← hx9] at hb2
        clear hx9 x9
        have Xw2 := Aside0.mk (show BufAt w2 g t b.r ww ll dd from hbuf.out.chg (Chg.of_below hb2 (fun _ => False)) (fun h => h))
        have Yw2 := Aside0.mk (hchg.out.trans (Chg.of_below hb2 (· = g)))
        have HBr := Lib.hid (HBr.out.trans (hb2.mono HBr.out.size))
        clear k0 k1 k2 k4 a0 a1 a2 a4 hb2 f1 f2 hF hbuf hchg hTr
        have a1 := Xw2.out.c1
        have a3 := Xw2.out.c3
        have z3 := Xw2.out.fz 3
        go_wp2
        obtain ⟨w3, hw3⟩ : ∃ w3, w3 = w2.setCell ⟨g, 3, none⟩ (.int .i64 (b.r : Int)) := ⟨_, rfl⟩
        rw [← hw3]
        have Xw3 := Aside0.mk (show BufAt w3 g t b.r ww b.r dd by rw [hw3]; exact Xw2.out.set3 _)
        have Yw3 := Aside0.mk (show Chg W w3 (· = g) by rw [hw3]; exact Yw2.out.trans (Chg.set rfl))
        clear hw3 a1 a3 z3 Xw2 Yw2
        have a1 := Xw3.out.c1
        have a2 := Xw3.out.c2
        by_cases cz : b.r = ww
        · have g1 : ((b.r : Int) == (ww : Int)) = true := beq_iff_eq.2 (by omega)
          have CZ := Lib.hid cz
          clear cz
          go_quiet (fail)
          have Xw4 := Aside0.mk (show BufAt (w3.drewN nq) g t b.r ww b.r dd from Xw3.out.drewN nq)
          have Yw4 := Aside0.mk (Yw3.out.trans (Chg.drewN w3 nq (· = g)))
          clear a1 a2 Xw3 Yw3 g1
          generalize w3.drewN nq = w4 at *
          have a4 := Xw4.out.c4
          have z4 := Xw4.out.fz 4
          go_wp2
          go_ret3
          have hx : rr t b = (⟨b.r, ww, b.r, false⟩, none) := by unfold rr; rw [hend.out, if_pos (show b.r = ww from CZ.out)]
          rw [hx]
          exact ⟨Yw4.out.trans (Chg.set rfl), Xw4.out.set4 _, .inl ⟨rfl, rfl⟩⟩
        · have g1 : ((b.r : Int) == (ww : Int)) = false := beq_eq_false_iff_ne.2 (by omega)
          have CZ := Lib.hid cz
          clear cz
          go_quiet (fail)
          have Xw4 := Aside0.mk (show BufAt (w3.drewN nq) g t b.r ww b.r dd from Xw3.out.drewN nq)
          have Yw4 := Aside0.mk (Yw3.out.trans (Chg.drewN w3 nq (· = g)))
          clear a1 a2 Xw3 Yw3 g1
          generalize w3.drewN nq = w4 at *
          have a0 := Xw4.out.c0
          have a1 := Xw4.out.c1
          have a2 := Xw4.out.c2
          have k0 := Later.cell a0
          have k1 := Later.cell a1
          have k2 := Later.cell a2
          have HB4 := Lib.hid (HB.out.trans (Yw4.out.below (B := w0.heap.size) HB.out.size (fun k hk => by rw [hk]; exact hg)))
          have hT4 := Lib.hid (Utf8Tabs_below HT.out HB4.out)
          have hD := Lib.hid (fun (W2 : World) (hb : Below w4.heap.size w4 W2) => GivU.lib_utf8_DecodeRuneInString (t.extract b.r ww) W2 (Utf8Tabs_below hT4.out hb))
          have hx : rr t b = (⟨b.r + (Lib.decodeGo (t.extract b.r ww)).2, ww, b.r, dd⟩, some (Lib.decodeGo (t.extract b.r ww)).1) := by unfold rr; rw [hend.out, if_neg (show ¬ b.r = ww from CZ.out)]
          have hds := dec_le (t.extract b.r ww)
          rw [ByteArray.size_extract] at hds
          obtain ⟨cc, hcc⟩ : ∃ cc, (Lib.decodeGo (t.extract b.r ww)).1 = cc := ⟨_, rfl⟩
          obtain ⟨kk, hkk⟩ : ∃ kk, (Lib.decodeGo (t.extract b.r ww)).2 = kk := ⟨_, rfl⟩
          rw [hcc, hkk] at hD hx
          rw [hkk] at hds
          have hkb : b.r + kk ≤ 100000 := by omega
          have HXX := Lib.hid hx
          clear hx hcc hkk hds a0 a1 a2
          obtain ⟨r1, hr1⟩ : ∃ r1 : Nat, r1 = b.r + kk := ⟨_, rfl⟩
          have e5 : IntKind.i64.wrap ((b.r : Int) + (kk : Int)) = (r1 : Int) := by rw [IntKind.wrap_i64]; omega
          have e7 : wrap64 ((b.r : Int) + (kk : Int)) = (r1 : Int) := by rw [← i64_w]; exact e5
          have HR1 := Lib.hid hr1
          clear hr1 hkb
          go_wp2
          refine wp_region_later (by kernel_rfl) (by kernel_rfl) ?_
          repeat (go_big_quiet_step ((go_at_call 64; refine Calls.later (hD.out))))
          refine wpQuiet_nil ?_
          rintro w5 ⟨x9, hx9⟩
          have hb5 := x9.b
          rw [← hx9] at hb5
          clear hx9 x9
          have Xw5 := Aside0.mk (show BufAt w5 g t b.r ww b.r dd from Xw4.out.chg (Chg.of_below hb5 (fun _ => False)) (fun h => h))
          have Yw5 := Aside0.mk (Yw4.out.trans (Chg.of_below hb5 (· = g)))
          clear k0 k1 k2 hb5 hD Xw4 Yw4
          have a1 := Xw5.out.c1
          have z1 := Xw5.out.fz 1
          go_wp2
          go_ret3
          rw [HXX.out]
          have hr1 := HR1.out
          refine ⟨Yw5.out.trans (Chg.set rfl), ?_, .inr ⟨cc, kk, rfl, rfl⟩⟩
          show BufAt _ g t ((b.r + kk : Nat) : Int) ww b.r dd
          rw [← hr1]
          exact Xw5.out.set1 _
      · have f1 : decide ((ww : Int) < (b.r : Int) + 4) = true := decide_eq_true (by omega)
        have f2 : decide (ww < b.r + 4) = true := decide_eq_true c1
        go_wp2
        refine wp_region_later (by kernel_rfl) (by kernel_rfl) ?_
        repeat (go_big_quiet_step ((go_at_call 63; refine Calls.later (hF.out))))
        refine wpQuiet_nil ?_
        rintro w2 ⟨x9, hx9⟩
        have hb2 := x9.b
        rw [← hx9] at hb2
        clear hx9 x9
        have Xw2 := Aside0.mk (show BufAt w2 g t b.r ww ll dd from hbuf.out.chg (Chg.of_below hb2 (fun _ => False)) (fun h => h))
        have Yw2 := Aside0.mk (hchg.out.trans (Chg.of_below hb2 (· = g)))
        have HBr := Lib.hid (HBr.out.trans (hb2.mono HBr.out.size))
        clear k0 k1 k2 k4 a0 a1 a2 a4 hb2 f1 f2 hF hbuf hchg hTr
        have a1 := Xw2.out.c1
        have a3 := Xw2.out.c3
        have z3 := Xw2.out.fz 3
        go_wp2
        obtain ⟨w3, hw3⟩ : ∃ w3, w3 = w2.setCell ⟨g, 3, none⟩ (.int .i64 (b.r : Int)) := ⟨_, rfl⟩
        rw [← hw3]
        have Xw3 := Aside0.mk (show BufAt w3 g t b.r ww b.r dd by rw [hw3]; exact Xw2.out.set3 _)
        have Yw3 := Aside0.mk (show Chg W w3 (· = g) by rw [hw3]; exact Yw2.out.trans (Chg.set rfl))
        clear hw3 a1 a3 z3 Xw2 Yw2
        have a1 := Xw3.out.c1
        have a2 := Xw3.out.c2
        by_cases cz : b.r = ww
        · have g1 : ((b.r : Int) == (ww : Int)) = true := beq_iff_eq.2 (by omega)
          have CZ := Lib.hid cz
          clear cz
          go_quiet (fail)
          have Xw4 := Aside0.mk (show BufAt (w3.drewN nq) g t b.r ww b.r dd from Xw3.out.drewN nq)
          have Yw4 := Aside0.mk (Yw3.out.trans (Chg.drewN w3 nq (· = g)))
          clear a1 a2 Xw3 Yw3 g1
          generalize w3.drewN nq = w4 at *
          have a4 := Xw4.out.c4
          have z4 := Xw4.out.fz 4
          go_wp2
          go_ret3
          have hx : rr t b = (⟨b.r, ww, b.r, false⟩, none) := by unfold rr; rw [hend.out, if_pos (show b.r = ww from CZ.out)]
          rw [hx]
          exact ⟨Yw4.out.trans (Chg.set rfl), Xw4.out.set4 _, .inl ⟨rfl, rfl⟩⟩
        · have g1 : ((b.r : Int) == (ww : Int)) = false := beq_eq_false_iff_ne.2 (by omega)
          have CZ := Lib.hid cz
          clear cz
          go_quiet (fail)
          have Xw4 := Aside0.mk (show BufAt (w3.drewN nq) g t b.r ww b.r dd from Xw3.out.drewN nq)
          have Yw4 := Aside0.mk (Yw3.out.trans (Chg.drewN w3 nq (· = g)))
          clear a1 a2 Xw3 Yw3 g1
          generalize w3.drewN nq = w4 at *
          have a0 := Xw4.out.c0
          have a1 := Xw4.out.c1
          have a2 := Xw4.out.c2
          have k0 := Later.cell a0
          have k1 := Later.cell a1
          have k2 := Later.cell a2
          have HB4 := Lib.hid (HB.out.trans (Yw4.out.below (B := w0.heap.size) HB.out.size (fun k hk => by rw [hk]; exact hg)))
          have hT4 := Lib.hid (Utf8Tabs_below HT.out HB4.out)
          have hD := Lib.hid (fun (W2 : World) (hb : Below w4.heap.size w4 W2) => GivU.lib_utf8_DecodeRuneInString (t.extract b.r ww) W2 (Utf8Tabs_below hT4.out hb))
          have hx : rr t b = (⟨b.r + (Lib.decodeGo (t.extract b.r ww)).2, ww, b.r, dd⟩, some (Lib.decodeGo (t.extract b.r ww)).1) := by unfold rr; rw [hend.out, if_neg (show ¬ b.r = ww from CZ.out)]
          have hds := dec_le (t.extract b.r ww)
          rw [ByteArray.size_extract] at hds
          obtain ⟨cc, hcc⟩ : ∃ cc, (Lib.decodeGo (t.extract b.r ww)).1 = cc := ⟨_, rfl⟩
          obtain ⟨kk, hkk⟩ : ∃ kk, (Lib.decodeGo (t.extract b.r ww)).2 = kk := ⟨_, rfl⟩
          rw [hcc, hkk] at hD hx
          rw [hkk] at hds
          have hkb : b.r + kk ≤ 100000 := by omega
          have HXX := Lib.hid hx
          clear hx hcc hkk hds a0 a1 a2
          obtain ⟨r1, hr1⟩ : ∃ r1 : Nat, r1 = b.r + kk := ⟨_, rfl⟩
          have e5 : IntKind.i64.wrap ((b.r : Int) + (kk : Int)) = (r1 : Int) := by rw [IntKind.wrap_i64]; omega
          have e7 : wrap64 ((b.r : Int) + (kk : Int)) = (r1 : Int) := by rw [← i64_w]; exact e5
          have HR1 := Lib.hid hr1
          clear hr1 hkb
          go_wp2
          refine wp_region_later (by kernel_rfl) (by kernel_rfl) ?_
          repeat (go_big_quiet_step ((go_at_call 64; refine Calls.later (hD.out))))
          refine wpQuiet_nil ?_
          rintro w5 ⟨x9, hx9⟩
          have hb5 := x9.b
          rw [← hx9] at hb5
          clear hx9 x9
          have Xw5 := Aside0.mk (show BufAt w5 g t b.r ww b.r dd from Xw4.out.chg (Chg.of_below hb5 (fun _ => False)) (fun h => h))
          have Yw5 := Aside0.mk (Yw4.out.trans (Chg.of_below hb5 (· = g)))
          clear k0 k1 k2 hb5 hD Xw4 Yw4
          have a1 := Xw5.out.c1
          have z1 := Xw5.out.fz 1
          go_wp2
          go_ret3
          rw [HXX.out]
          have hr1 := HR1.out
          refine ⟨Yw5.out.trans (Chg.set rfl), ?_, .inr ⟨cc, kk, rfl, rfl⟩⟩
          show BufAt _ g t ((b.r + kk : Nat) : Int) ww b.r dd
          rw [← hr1]
          exact Xw5.out.set1 _
      · have f1 : decide ((ww : Int) < (b.r : Int) + 4) = true := decide_eq_true (by omega)
        have f2 : decide (ww < b.r + 4) = true := decide_eq_true c1
        go_wp2
        refine wp_region_later (by kernel_rfl) (by kernel_rfl) ?_
        repeat (go_big_quiet_step ((go_at_call 63; refine Calls.later (hF.out))))
        refine wpQuiet_nil ?_
        rintro w2 ⟨x9, hx9⟩
        have hb2 := x9.b
        rw [← hx9] at hb2
        clear hx9 x9
        have Xw2 := Aside0.mk (show BufAt w2 g t b.r ww ll true from hbuf.out.chg (Chg.of_below hb2 (fun _ => False)) (fun h => h))
        have Yw2 := Aside0.mk (hchg.out.trans (Chg.of_below hb2 (· = g)))
        have HBr := Lib.hid (HBr.out.trans (hb2.mono HBr.out.size))
        clear k0 k1 k2 k4 a0 a1 a2 a4 hb2 f1 f2 hF hbuf hchg hTr
        have a1 := Xw2.out.c1
        have a3 := Xw2.out.c3
        have z3 := Xw2.out.fz 3
        go_wp2
        obtain ⟨w3, hw3⟩ : ∃ w3, w3 = w2.setCell ⟨g, 3, none⟩ (.int .i64 (b.r : Int)) := ⟨_, rfl⟩
        rw [← hw3]
        have Xw3 := Aside0.mk (show BufAt w3 g t b.r ww b.r true by rw [hw3]; exact Xw2.out.set3 _)
        have Yw3 := Aside0.mk (show Chg W w3 (· = g) by rw [hw3]; exact Yw2.out.trans (Chg.set rfl))
        clear hw3 a1 a3 z3 Xw2 Yw2
        have a1 := Xw3.out.c1
        have a2 := Xw3.out.c2
        by_cases cz : b.r = ww
        · have g1 : ((b.r : Int) == (ww : Int)) = true := beq_iff_eq.2 (by omega)
          have CZ := Lib.hid cz
          clear cz
          go_quiet (fail)
          have Xw4 := Aside0.mk (show BufAt (w3.drewN nq) g t b.r ww b.r true from Xw3.out.drewN nq)
          have Yw4 := Aside0.mk (Yw3.out.trans (Chg.drewN w3 nq (· = g)))
          clear a1 a2 Xw3 Yw3 g1
          generalize w3.drewN nq = w4 at *
          have a4 := Xw4.out.c4
          have z4 := Xw4.out.fz 4
          go_wp2
          go_ret3
          have hx : rr t b = (⟨b.r, ww, b.r, false⟩, none) := by unfold rr; rw [hend.out, if_pos (show b.r = ww from CZ.out)]
          rw [hx]
          exact ⟨Yw4.out.trans (Chg.set rfl), Xw4.out.set4 _, .inl ⟨rfl, rfl⟩⟩
        · have g1 : ((b.r : Int) == (ww : Int)) = false := beq_eq_false_iff_ne.2 (by omega)
          have CZ := Lib.hid cz
          clear cz
          go_quiet (fail)
          have Xw4 := Aside0.mk (show BufAt (w3.drewN nq) g t b.r ww b.r true from Xw3.out.drewN nq)
          have Yw4 := Aside0.mk (Yw3.out.trans (Chg.drewN w3 nq (· = g)))
          clear a1 a2 Xw3 Yw3 g1
          generalize w3.drewN nq = w4 at *
          have a0 := Xw4.out.c0
          have a1 := Xw4.out.c1
          have a2 := Xw4.out.c2
          have k0 := Later.cell a0
          have k1 := Later.cell a1
          have k2 := Later.cell a2
          have HB4 := Lib.hid (HB.out.trans (Yw4.out.below (B := w0.heap.size) HB.out.size (fun k hk => by rw [hk]; exact hg)))
          have hT4 := Lib.hid (Utf8Tabs_below HT.out HB4.out)
          have hD := Lib.hid (fun (W2 : World) (hb : Below w4.heap.size w4 W2) => GivU.lib_utf8_DecodeRuneInString (t.extract b.r ww) W2 (Utf8Tabs_below hT4.out hb))
          have hx : rr t b = (⟨b.r + (Lib.decodeGo (t.extract b.r ww)).2, ww, b.r, true⟩, some (Lib.decodeGo (t.extract b.r ww)).1) := by unfold rr; rw [hend.out, if_neg (show ¬ b.r = ww from CZ.out)]
          have hds := dec_le (t.extract b.r ww)
          rw [ByteArray.size_extract] at hds
          obtain ⟨cc, hcc⟩ : ∃ cc, (Lib.decodeGo (t.extract b.r ww)).1 = cc := ⟨_, rfl⟩
          obtain ⟨kk, hkk⟩ : ∃ kk, (Lib.decodeGo (t.extract b.r ww)).2 = kk := ⟨_, rfl⟩
          rw [hcc, hkk] at hD hx
          rw [hkk] at hds
          have hkb : b.r + kk ≤ 100000 := by omega
          have HXX := Lib.hid hx
          clear hx hcc hkk hds a0 a1 a2
          obtain ⟨r1, hr1⟩ : ∃ r1 : Nat, r1 = b.r + kk := ⟨_, rfl⟩
          have e5 : IntKind.i64.wrap ((b.r : Int) + (kk : Int)) = (r1 : Int) := by rw [IntKind.wrap_i64]; omega
          have e7 : wrap64 ((b.r : Int) + (kk : Int)) = (r1 : Int) := by rw [← i64_w]; exact e5
          have HR1 := Lib.hid hr1
          clear hr1 hkb
          go_wp2
          refine wp_region_later (by kernel_rfl) (by kernel_rfl) ?_
          repeat (go_big_quiet_step ((go_at_call 64; refine Calls.later (hD.out))))
          refine wpQuiet_nil ?_
          rintro w5 ⟨x9, hx9⟩
          have hb5 := x9.b
          rw [← hx9] at hb5
          clear hx9 x9
          have Xw5 := Aside0.mk (show BufAt w5 g t b.r ww b.r true from Xw4.out.chg (Chg.of_below hb5 (fun _ => False)) (fun h => h))
          have Yw5 := Aside0.mk (Yw4.out.trans (Chg.of_below hb5 (· = g)))
          clear k0 k1 k2 hb5 hD Xw4 Yw4
          have a1 := Xw5.out.c1
          have z1 := Xw5.out.fz 1
          go_wp2
          go_ret3
          rw [HXX.out]
          have hr1 := HR1.out
          refine ⟨Yw5.out.trans (Chg.set rfl), ?_, .inr ⟨cc, kk, rfl, rfl⟩⟩
          show BufAt _ g t ((b.r + kk : Nat) : Int) ww b.r true
          rw [← hr1]
          exact Xw5.out.set1 _
end Go.Proofs.YtlmmgienbmghmaaDoor.Lex
