/- The buffer of the reader of unit files, by hand: ReadBytes. -/
import Derived.Test.YtlmmgienbmghmaaDoorLexB
import Derived.Lib.Strings
set_option linter.unusedVariables false
set_option linter.unusedSimpArgs false
namespace Go.Proofs.YtlmmgienbmghmaaDoor.Lex
open Go.RowKit Go.Proofs.YtlmmgienbmghmaaDoorW.PrintWords Go.Proofs.YtlmmgienbmghmaaDoorW.PrintLast Go.Proofs.YtlmmgienbmghmaaDoorW.PrintMore
/-- The first place of a byte, n places from r on. -/
def findN (c : UInt8) (l : List UInt8) : Nat → Nat → Option Nat
  | 0, _ => none
  | n + 1, r => if l.getD r 0 = c then some r else findN c l n (r + 1)
/-- ReadBytes: the buffer behind it, and whether the text's end was met (n: as many rounds). -/
def rbN (c : UInt8) (l : List UInt8) : Nat → Bf → Option (Bf × Bool)
  | 0, _ => none
  | n + 1, b => match findN c l (b.w - b.r) b.r with
    | some i => some (⟨i + 1, b.w, b.last, b.d⟩, false)
    | none => if b.d = true then some (⟨b.w, b.w, b.last, false⟩, true) else rbN c l n (Bf.fill ⟨if 4096 ≤ b.w - b.r then b.w else b.r, b.w, b.last, b.d⟩ l.length)
theorem findN_some (c : UInt8) (l : List UInt8) : ∀ (n r i : Nat), findN c l n r = some i → r ≤ i ∧ i < r + n ∧ l.getD i 0 = c
  | 0, r, i, h => by cases h
  | n + 1, r, i, h => by
    rw [findN] at h
    by_cases e : l.getD r 0 = c
    · rw [if_pos e] at h
      obtain rfl := Option.some.inj h
      exact ⟨Nat.le_refl _, by omega, e⟩
    · rw [if_neg e] at h
      obtain ⟨h1, h2, h3⟩ := findN_some c l n (r + 1) i h
      exact ⟨by omega, by omega, h3⟩
/-- The error beside what was read. -/
def errOf (e : Bool) : Value := if e = true then eofV else .nilIface
/-- A slice of bytes, in memory. -/
def IsBytes (W : World) (v : Value) (l : List UInt8) : Prop := ∃ (A : Option Addr) (c : Nat), v = .slice A l.length c ∧ l.length ≤ c ∧ Kd.C (Kd.int .u8) W A l.length (l.map fun b => (b.toNat : Int))
theorem IsBytes.below {W W' : World} {v : Value} {l : List UInt8} (h : IsBytes W v l) (hb : Below W.heap.size W W') : IsBytes W' v l := by
  obtain ⟨A, c, e, hc, hC⟩ := h
  exact ⟨A, c, e, hc, Kd.C_below hC hb⟩
theorem fill_w (b : Bf) (n : Nat) (h : b.w ≤ 4096 + b.r) : (b.fill n).w ≤ 4096 + (b.fill n).r := by
  unfold Bf.fill
  split
  · exact h
  · show min n (b.r + 4096) ≤ 4096 + b.r
    omega
theorem fill_r (b : Bf) (n : Nat) : (b.fill n).r = b.r := by unfold Bf.fill; split <;> rfl
theorem rb_found {c : UInt8} {l : List UInt8} {k i : Nat} {b b' : Bf} {e : Bool} (h : rbN c l k b = some (b', e)) (hf : findN c l (b.w - b.r) b.r = some i) : b' = ⟨i + 1, b.w, b.last, b.d⟩ ∧ e = false := by
  cases k with
  | zero => cases h
  | succ k =>
    rw [rbN, hf] at h
    obtain ⟨h1, h2⟩ := Prod.mk.inj (Option.some.inj h)
    exact ⟨h1.symm, h2.symm⟩
theorem rb_eof {c : UInt8} {l : List UInt8} {k : Nat} {b b' : Bf} {e : Bool} (h : rbN c l k b = some (b', e)) (hf : findN c l (b.w - b.r) b.r = none) (hd : b.d = true) : b' = ⟨b.w, b.w, b.last, false⟩ ∧ e = true := by
  cases k with
  | zero => cases h
  | succ k =>
    rw [rbN, hf] at h
    simp only [] at h
    rw [if_pos hd] at h
    obtain ⟨h1, h2⟩ := Prod.mk.inj (Option.some.inj h)
    exact ⟨h1.symm, h2.symm⟩
theorem rb_more {c : UInt8} {l : List UInt8} {k : Nat} {b b' : Bf} {e : Bool} (h : rbN c l k b = some (b', e)) (hf : findN c l (b.w - b.r) b.r = none) (hd : b.d = false) : ∃ k', k = k' + 1 ∧ rbN c l k' (Bf.fill ⟨if 4096 ≤ b.w - b.r then b.w else b.r, b.w, b.last, b.d⟩ l.length) = some (b', e) := by
  cases k with
  | zero => cases h
  | succ k =>
    rw [rbN, hf] at h
    simp only [] at h
    rw [if_neg (by rw [hd]; decide)] at h
    exact ⟨k, rfl, h⟩
theorem bytesWorld_below (w : World) (e : TypeId) (s : ByteArray) : Below w.heap.size w (Lib.bytesWorld w e s) := bytes_below (Below.refl _ _) (Nat.le_refl _) e s
theorem isBytes_conv (w : World) (s : ByteArray) (hs : s.size ≤ 1000000) : IsBytes (Lib.bytesWorld w 5 s) (.slice (some ⟨w.heap.size, 0, none⟩) s.size (grownCap w s.size 0 5)) s.data.toList := by
  have hsz : s.data.toList.length = s.size := (Lib.size_eq s).symm
  refine ⟨some ⟨w.heap.size, 0, none⟩, _, by rw [hsz], by rw [hsz]; exact grownCap_ge w s.size 0 5, ?_⟩
  refine ⟨by rw [List.length_map], by omega, fun _ => ⟨_, rfl, fun j p hp => ⟨[.int .u8 p], rfl, rfl, fun i u hu => ?_⟩⟩⟩
  cases i with
  | succ i => simp at hu
  | zero =>
    obtain rfl : Value.int .u8 p = u := by simpa using hu
    have hj2 : j < s.data.toList.length := by have := (List.getElem?_eq_some_iff.1 hp).1; rwa [List.length_map] at this
    have hj : j < s.size := by omega
    rw [add_plain]
    have e1 : (Kd.int .u8).sz = 1 := rfl
    rw [e1, Nat.mul_one, Nat.add_zero, Lib.bytesWorld_cell w 5 s j hj]
    have h2 := (List.getElem?_eq_some_iff.1 hp).2
    have : p = ((s.data.toList[j]'hj2).toNat : Int) := by rw [← h2]; simp
    rw [this]
    simp [List.getD_eq_getElem?_getD, List.getElem?_eq_getElem hj2]
set_option maxHeartbeats 8000000 in
set_option maxRecDepth 100000 in
theorem readBytes_is (g : Nat) (t : ByteArray) (c : UInt8) (b b' : Bf) (e : Bool) (k : Nat) (W : World) (h : BufB W g t b) (ok : b.Ok t.size) (h4 : b.w ≤ 4096 + b.r) (ht : t.size ≤ 100000) (hk : rbN c t.data.toList k b = some (b', e)) :
    Calls Tryd.prog 65 #[.pointer (some ⟨g, 0, none⟩), .int .u8 c.toNat] W fun e' W' => ∃ v, e' = .returned (.tuple #[v, errOf e]) ∧ IsBytes W' v ((t.data.toList.drop b.r).take (b'.r - b.r)) ∧ BufB W' g t b' ∧ b'.Ok t.size ∧ b'.w ≤ 4096 + b'.r ∧ Chg W W' (· = g) := by
  have HK := Lib.hid hk
  have OK := Lib.hid ok
  have H4 := Lib.hid h4
  have k1 := h.c1
  have H := Aside0.mk h
  have HC := Aside0.mk (Chg.refl W (· = g))
  have hlen : t.data.toList.length = t.size := (Lib.size_eq t).symm
  have HL := Lib.hid hlen
  clear h ok h4 hk hlen
  go_enter Tryd.func65, Tryd.ntmps65
  go_wp2
  go_loopg [7] k (fun kq v7 w' => ∃ b1 : Bf, Aside0 (rbN c t.data.toList kq b1 = some (b', e)) ∧ Aside0 (b1.Ok t.size ∧ b1.w ≤ 4096 + b1.r ∧ b.r ≤ b1.r) ∧ Aside0 (BufB w' g t b1) ∧ Aside0 (Chg W w' (· = g)))
  case atStart => exact ⟨b, ⟨HK.out⟩, ⟨OK.out, H4.out, Nat.le_refl _⟩, H, HC⟩
  case round =>
    obtain ⟨b1, hrb, hok, hbuf, hchg⟩ := hrel
    clear HK OK H4 H HC k1
    have a0 := hbuf.out.c0
    have a1 := hbuf.out.c1
    have a2 := hbuf.out.c2
    have a4 := hbuf.out.c4
    have z1 := hbuf.out.fz 1
    have z4 := hbuf.out.fz 4
    go_wp2
    go_loopg [7] (b1.w - b1.r) (fun kj v7 w' => w' = wr ∧ ∃ i : Nat, v7 = .int .i64 i ∧ Aside0 (b1.r ≤ i ∧ i ≤ b1.w ∧ findN c t.data.toList (b1.w - i) i = findN c t.data.toList (b1.w - b1.r) b1.r) ∧ Aside0 (b1.w - i ≤ kj))
    case atStart => exact ⟨rfl, b1.r, rfl, ⟨Nat.le_refl _, hok.out.1.rw, rfl⟩, ⟨Nat.le_refl _⟩⟩
    case round =>
      obtain ⟨rfl, i, rfl, hi, hki⟩ := hrel
      have hi1 := hi.out.1
      have hi2 := hi.out.2.1
      have hw := hok.out.1.wn
      by_cases ci : i < b1.w
      · have hit : i < t.size := by omega
        have q0 : (i : Int) < (b1.w : Int) := by omega
        have q1 : (0 : Int) ≤ (i : Int) := by omega
        have q2 : (i : Int) < (t.size : Int) := by omega
        have hg : t.data.toList.getD i 0 = t[i]'hit := by
          rw [List.getD_eq_getElem?_getD, List.getElem?_eq_getElem (by rw [HL.out]; exact hit)]
          rfl
        have hf : findN c t.data.toList (b1.w - i) i = if t[i]'hit = c then some i else findN c t.data.toList (b1.w - (i + 1)) (i + 1) := by
          rw [show b1.w - i = (b1.w - (i + 1)) + 1 by omega, findN, hg]
        by_cases cc : t[i]'hit = c
        · have hx : (((t[i]'hit).toNat : Int) == (c.toNat : Int)) = true := by rw [cc]; simp
          have hfs : findN c t.data.toList (b1.w - b1.r) b1.r = some i := by rw [← hi.out.2.2, hf, if_pos cc]
          have HFS := Lib.hid hfs
          clear hf hfs cc hg hi1 hi2 hw
          go_wp2
          obtain ⟨j, hj⟩ : ∃ j : Nat, j = i + 1 := ⟨_, rfl⟩
          have hji : (i : Int) + 1 = (j : Int) := by omega
          obtain ⟨W1, hW1⟩ : ∃ W1, W1 = wr.setCell ⟨g, 1, none⟩ (.int .i64 ((i : Int) + 1)) := ⟨_, rfl⟩
          rw [← hW1]
          have hb1 := Aside0.mk (show BufAt W1 g t (j : Int) b1.w b1.last b1.d by rw [hW1, hji]; exact hbuf.out.set1 _)
          have hc1 := Aside0.mk (show Chg W W1 (· = g) by rw [hW1]; exact hchg.out.trans (Chg.set rfl))
          clear hW1 hbuf hchg a0 a1 a2 a4 z1 z4 hx q0
          have a0 := hb1.out.c0
          have a1 := hb1.out.c1
          have p1 : (0 : Int) ≤ (b.r : Int) := by omega
          have hbr := hok.out.2.2
          have hir := hi.out.1
          have p4 : b.r ≤ j := by omega
          have p5 : j ≤ t.size := by omega
          have p2 : (b.r : Int) ≤ (j : Int) := by omega
          have p3 : (j : Int) ≤ (t.size : Int) := by omega
          have d2 : decide ((b.r : Int) ≤ (j : Int)) = true := decide_eq_true p2
          have d3 : decide ((j : Int) ≤ (t.size : Int)) = true := decide_eq_true p3
          have HJ := Lib.hid hj
          clear hj hji hbr hir
          go_still_tail 10, (by kernel_rfl)
          change wpList _ _ _ _ _ W1.drew
          have hb2 := Aside0.mk (show BufAt W1.drew g t (j : Int) b1.w b1.last b1.d from hb1.out)
          have hc2 := Aside0.mk (hc1.out.trans (Chg.drew W1 _))
          clear hb1 hc1 a0 a1
          generalize W1.drew = W2 at *
          have hcv := Lib.run_convert_string_bytes (P := Tryd.prog) W2 9 26 5 (t.extract b.r j) (u := .string) Tryd.underlying9 Tryd.underlying26 Tryd.underlying5
          go_wp2
          go_ret2
          obtain ⟨rfl, rfl⟩ := rb_found hrb.out HFS.out
          have hB := bytesWorld_below W2 5 (t.extract b.r j)
          have hsz : (t.extract b.r j).size = j - b.r := by rw [ByteArray.size_extract]; omega
          have hdat : (t.extract b.r j).data.toList = (t.data.toList.drop b.r).take (j - b.r) := Lib.extract_data t b.r j
          have hI := isBytes_conv W2 (t.extract b.r j) (by omega)
          rw [hsz, hdat] at hI
          obtain rfl := HJ.out
          have g1 := hok.out.2.1
          have g2 := hi.out.1
          refine ⟨.slice (some ⟨W2.heap.size, 0, none⟩) (i + 1 - b.r) (grownCap W2 (i + 1 - b.r) 0 5), rfl, hI, hb2.out.chg (Chg.of_below hB (fun _ => False)) (fun h => h), ⟨?_, hok.out.1.wn, hok.out.1.ln, hok.out.1.dn⟩, ?_, hc2.out.trans (Chg.of_below hB _)⟩
          · show i + 1 ≤ b1.w
            omega
          · show b1.w ≤ 4096 + (i + 1)
            omega
        · have hx : (((t[i]'hit).toNat : Int) == (c.toNat : Int)) = false := by
            apply beq_eq_false_iff_ne.2
            intro he
            exact cc (UInt8.toNat_inj.1 (Int.ofNat.inj he))
          have hlk := hki.out
          have hne := Aside0.mk (show b1.r ≤ i + 1 ∧ i + 1 ≤ b1.w ∧ findN c t.data.toList (b1.w - (i + 1)) (i + 1) = findN c t.data.toList (b1.w - b1.r) b1.r from ⟨by omega, ci, by rw [← hi.out.2.2, hf, if_neg cc]⟩)
          clear hf cc hg hi1 hi2 hw hi
          go_wp2
          go_roundg (b1.w - (i + 1))
          case measure => omega
          case rel => exact ⟨rfl, i + 1, by simp, hne, ⟨Nat.le_refl _⟩⟩
      · have hiw : i = b1.w := by omega
        have q0 : ¬ (i : Int) < (b1.w : Int) := by omega
        have q1 : decide ((i : Int) < (b1.w : Int)) = false := decide_eq_false q0
        have hfn : findN c t.data.toList (b1.w - b1.r) b1.r = none := by rw [← hi.out.2.2, hiw, Nat.sub_self]; rfl
        have HFN := Lib.hid hfn
        have hrw := hok.out.1.rw
        clear hfn hi hki hi1 hi2 hw hiw
        cases hd : b1.d with
        | true =>
          rw [hd] at a4
          go_wp2
          obtain ⟨W1, hW1⟩ : ∃ W1, W1 = (wr.setCell ⟨g, 1, none⟩ (.int .i64 (b1.w : Int))).setCell ⟨g, 4, none⟩ (.bool false) := ⟨_, rfl⟩
          rw [← hW1]
          have hb1 := Aside0.mk (show BufAt W1 g t (b1.w : Int) b1.w b1.last false by rw [hW1]; exact (hbuf.out.set1 _).set4 _)
          have hc1 := Aside0.mk (show Chg W W1 (· = g) by rw [hW1]; exact (hchg.out.trans (Chg.set rfl)).trans (Chg.set rfl))
          have hwn := hok.out.1.wn
          have hbr := hok.out.2.2
          clear hW1 hbuf hchg a0 a1 a2 a4 z1 z4 q0 q1
          have a0 := hb1.out.c0
          have a1 := hb1.out.c1
          have p1 : (0 : Int) ≤ (b.r : Int) := by omega
          have p4 : b.r ≤ b1.w := by omega
          have p5 : b1.w ≤ t.size := by omega
          have p2 : (b.r : Int) ≤ (b1.w : Int) := by omega
          have p3 : (b1.w : Int) ≤ (t.size : Int) := by omega
          have d2 : decide ((b.r : Int) ≤ (b1.w : Int)) = true := decide_eq_true p2
          have d3 : decide ((b1.w : Int) ≤ (t.size : Int)) = true := decide_eq_true p3
          have hcv : ∀ W2 : World, (convert 9 26 (.string (t.extract b.r b1.w))).run Tryd.prog W2 = .ok (.slice (some ⟨W2.heap.size, 0, none⟩) (t.extract b.r b1.w).size (grownCap W2 (t.extract b.r b1.w).size 0 5)) (Lib.bytesWorld W2 5 (t.extract b.r b1.w)) := fun W2 => Lib.run_convert_string_bytes (P := Tryd.prog) W2 9 26 5 (t.extract b.r b1.w) (u := .string) Tryd.underlying9 Tryd.underlying26 Tryd.underlying5
          go_region
          go_wp2
          go_ret2
          obtain ⟨rfl, rfl⟩ := rb_eof hrb.out HFN.out hd
          have hB := bytesWorld_below W1.drew 5 (t.extract b.r b1.w)
          have hsz : (t.extract b.r b1.w).size = b1.w - b.r := by rw [ByteArray.size_extract]; omega
          have hdat : (t.extract b.r b1.w).data.toList = (t.data.toList.drop b.r).take (b1.w - b.r) := Lib.extract_data t b.r b1.w
          have hI := isBytes_conv W1.drew (t.extract b.r b1.w) (by omega)
          have hb2 : BufAt W1.drew g t (b1.w : Int) b1.w b1.last false := hb1.out
          rw [hsz, hdat] at hI
          refine ⟨.slice (some ⟨W1.heap.size, 0, none⟩) (b1.w - b.r) (grownCap W1.drew (b1.w - b.r) 0 5), rfl, hI, hb2.chg (Chg.of_below hB (fun _ => False)) (fun h => h), ⟨Nat.le_refl _, hwn, hok.out.1.ln, fun h => by cases h⟩, ?_, (hc1.out.trans (Chg.drew W1 _)).trans (Chg.of_below hB _)⟩
          show b1.w ≤ 4096 + b1.w
          omega
        | false =>
          rw [hd] at a4
          obtain ⟨kk, hkk, hrb2⟩ := rb_more hrb.out HFN.out hd
          subst hkk
          rw [HL.out] at hrb2
          have hwn := hok.out.1.wn
          have h48 := hok.out.2.1
          have hbr := hok.out.2.2
          have e0 : wrap64 ((b1.w : Int) - (b1.r : Int)) = ((b1.w - b1.r : Nat) : Int) := by rw [← i64_w, IntKind.wrap_i64]; omega
          have e1 : IntKind.i64.wrap ((b1.w : Int) - (b1.r : Int)) = ((b1.w - b1.r : Nat) : Int) := by rw [IntKind.wrap_i64]; omega
          by_cases c4 : 4096 ≤ b1.w - b1.r
          · have f4 : decide ((4096 : Int) ≤ ((b1.w - b1.r : Nat) : Int)) = true := decide_eq_true (by omega)
            have f5 : decide (4096 ≤ b1.w - b1.r) = true := decide_eq_true c4
            have f6 : decide ((4096 : Int) ≤ (b1.w : Int) - (b1.r : Int)) = true := decide_eq_true (by omega)
            rw [if_pos c4] at hrb2
            go_wp2
            go_quiet (fail)
            have hb1 := Aside0.mk (show BufB ((wr.drewN nq).setCell ⟨g, 1, none⟩ (.int .i64 (b1.w : Int))) g t ⟨b1.w, b1.w, b1.last, b1.d⟩ by exact BufAt.set1 (hbuf.out.drewN nq) _)
            have hc1 := Aside0.mk ((hchg.out.trans (Chg.drewN wr nq (· = g))).trans (Chg.set (p := ⟨g, 1, none⟩) (u := .int .i64 (b1.w : Int)) (S := (· = g)) rfl))
            have ok1 : (⟨b1.w, b1.w, b1.last, b1.d⟩ : Bf).Ok t.size := ⟨Nat.le_refl _, hwn, hok.out.1.ln, hok.out.1.dn⟩
            have OK1 := Lib.hid ok1
            clear ok1
            go_wp2_with (go_at_call 58; refine (fillB_is g t ⟨b1.w, b1.w, b1.last, b1.d⟩ _ hb1.out OK1.out ht).mono ?_; rintro e9 W9 ⟨rfl, hb9, hc9⟩)
            have hfl := OK1.out.fill (by show b1.w - b1.w ≤ 4096; omega)
            go_roundg kk
            case measure => omega
            case rel => exact ⟨_, ⟨hrb2⟩, ⟨hfl, fill_w _ _ (by simp only []; omega), by rw [fill_r]; simp only []; omega⟩, ⟨hb9⟩, ⟨hc1.out.trans hc9⟩⟩
          · have f4 : decide ((4096 : Int) ≤ ((b1.w - b1.r : Nat) : Int)) = false := decide_eq_false (by omega)
            have f5 : decide (4096 ≤ b1.w - b1.r) = false := decide_eq_false c4
            have f6 : decide ((4096 : Int) ≤ (b1.w : Int) - (b1.r : Int)) = false := decide_eq_false (by omega)
            rw [if_neg c4] at hrb2
            go_wp2
            go_quiet (fail)
            have hb1 := Aside0.mk (show BufB (wr.drewN nq) g t b1 from hbuf.out.drewN nq)
            have hc1 := Aside0.mk (hchg.out.trans (Chg.drewN wr nq (· = g)))
            go_wp2_with (go_at_call 58; refine (fillB_is g t b1 _ hb1.out hok.out.1 ht).mono ?_; rintro e9 W9 ⟨rfl, hb9, hc9⟩)
            have hfl := hok.out.1.fill (by omega)
            go_roundg kk
            case measure => omega
            case rel => exact ⟨_, ⟨hrb2⟩, ⟨hfl, fill_w _ _ (by simp only []; omega), by rw [fill_r]; simp only []; omega⟩, ⟨hb9⟩, ⟨hc1.out.trans hc9⟩⟩
end Go.Proofs.YtlmmgienbmghmaaDoor.Lex
