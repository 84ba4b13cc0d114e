/- The lexer of unit files, by hand: the name of an option. -/
import Derived.Test.YtlmmgienbmghmaaDoorLexM
set_option linter.unusedVariables false
set_option linter.unusedSimpArgs false
namespace Go.Proofs.YtlmmgienbmghmaaDoor.Lex
open Go.RowKit Go.Proofs.YtlmmgienbmghmaaDoorW.PrintWords Go.Proofs.YtlmmgienbmghmaaDoorW.PrintLast Go.Proofs.YtlmmgienbmghmaaDoorW.PrintMore Go.Proofs.YtlmmgienbmghmaaDoor.GivU Go.Proofs.YtlmmgienbmghmaaDoor.J
inductive NameEnd where
  | eof
  | bad
  | ok
/-- An option's name, rune by rune: the buffer behind it, how it ended, the name. -/
def optN (t : ByteArray) : Nat → Bf → ByteArray → Option (Bf × NameEnd × ByteArray)
  | 0, _, _ => none
  | k + 1, b, acc => match (rr t b).2 with
    | none => some ((rr t b).1, .eof, acc)
    | some c => if c = 10 ∨ c = 13 then some ((rr t b).1, .bad, acc) else if c = 61 then some ((rr t b).1, .ok, acc) else optN t k (rr t b).1 (acc ++ Utf8.encode (c : Int))
/-- strings.TrimSpace. -/
def trimV (s : ByteArray) : ByteArray := ⟨(Lib.trimSpaceD s.data.toList).toArray⟩
theorem encode_le (n : Int) : (Utf8.encode n).size ≤ 4 := by
  unfold Utf8.encode
  simp only []
  repeat' split
  all_goals (show _ ≤ 4; first | decide | exact Nat.le_refl _ | (simp [ByteArray.size]))
def optnStep (s : ByteArray) : NameEnd → ByteArray → Option Step
  | .ok, nm => some (.optv s (trimV nm) ByteArray.empty)
  | _, _ => none
/-- How a step ends. -/
def OutIs (W' : World) (p : Nat) (o : Option Step) (e' : Ending) : Prop :=
  match o with
  | some s' => ∃ v, e' = .returned (.tuple #[v, .nilIface]) ∧ StepAt W' p s' v
  | none => ∃ T q, e' = .returned (.tuple #[.nilFunc, .iface T q])
set_option maxHeartbeats 8000000 in
set_option maxRecDepth 100000 in
theorem optn_is (w0 W : World) (p g : Nat) (s t : ByteArray) (b b' : Bf) (k : Nat) (en : NameEnd) (nm : ByteArray) (q0 q1 : Nat) (dv : Value) (cels : List Cel) (h : LexAt w0 W p g t b dv .nilIface cels) (ht : t.size ≤ 100000) (hT : UTabs w0) (hkm : k ≤ 1000000)
    (hq0 : Box W q0 74 (.pointer (some ⟨p, 0, none⟩))) (hq1 : Box W q1 9 (.string s)) (hk : optN t k b ByteArray.empty = some (b', en, nm)) :
    Calls Tryd.prog 91 #[.pointer (some ⟨q0, 0, none⟩), .pointer (some ⟨q1, 0, none⟩)] W fun e' W' => StepPost w0 p g t cels b' [] (optnStep s en nm) e' W' := by
  have hbg := show W.heap[g]? = _ from h.buf
  have n0 : q0 ≠ g := ne_type hq0 hbg (by decide)
  have n1 : q1 ≠ g := ne_type hq1 hbg (by decide)
  have np : p ≠ g := h.pg
  suffices HQ : Calls Tryd.prog 91 #[.pointer (some ⟨q0, 0, none⟩), .pointer (some ⟨q1, 0, none⟩)] W fun e' W' => BufB W' g t b' ∧ (b'.Ok t.size ∧ b'.w ≤ 4096 + b'.r) ∧ Chg W W' (· = g) ∧ OutIs W' p (optnStep s en nm) e' from
    HQ.mono fun e' W' ⟨hb, hok, hc, hv⟩ => StepPost.go h hc hb hok.1 hok.2 hv
  have HQ0 := Lib.hid hq0
  have HQ1 := Lib.hid hq1
  have HP := Lib.hid h.lex.c0
  have HB := Lib.hid h.buf
  have HO := Lib.hid (show b.Ok t.size ∧ b.w ≤ 4096 + b.r from ⟨h.ok, h.h4⟩)
  have HBS := Lib.hid h.base
  have HG := Lib.hid h.hg
  have HK := Lib.hid hk
  have HT := Lib.hid hT
  clear h hbg hk hq0 hq1 hT
  obtain ⟨W0, hW0⟩ : ∃ W0, W0 = W := ⟨_, rfl⟩
  rw [show (fun (e' : Ending) (W' : World) => BufB W' g t b' ∧ (b'.Ok t.size ∧ b'.w ≤ 4096 + b'.r) ∧ Chg W W' (· = g) ∧ OutIs W' p (optnStep s en nm) e') = (fun (e' : Ending) (W' : World) => BufB W' g t b' ∧ (b'.Ok t.size ∧ b'.w ≤ 4096 + b'.r) ∧ Chg W0 W' (· = g) ∧ OutIs W' p (optnStep s en nm) e') by rw [hW0]]
  have HC := Lib.hid (show Chg W0 W (· = g) by rw [hW0]; exact Chg.refl _ _)
  have HQ0 := Lib.hid (show Box W0 q0 74 (.pointer (some ⟨p, 0, none⟩)) by rw [hW0]; exact HQ0.out)
  have HQ1 := Lib.hid (show Box W0 q1 9 (.string s) by rw [hW0]; exact HQ1.out)
  have HP := Lib.hid (show W0.cell? ⟨p, 0, none⟩ = some (.pointer (some ⟨g, 0, none⟩)) by rw [hW0]; exact HP.out)
  have HBS := Lib.hid (show Below w0.heap.size w0 W0 by rw [hW0]; exact HBS.out)
  clear hW0
  go_enter Tryd.func91, Tryd.ntmps91
  go_wp2
  go_loopg [4] k (fun kq v4 w' => ∃ (b1 : Bf) (acc : ByteArray), v4 = .string acc ∧ Hid (optN t kq b1 acc = some (b', en, nm)) ∧ Hid (acc.size + 4 * kq ≤ 4 * k) ∧ Hid (b1.Ok t.size ∧ b1.w ≤ 4096 + b1.r) ∧ Hid (BufB w' g t b1) ∧ Hid (Chg W0 w' (· = g)))
  case atStart => exact ⟨b, ByteArray.empty, rfl, HK, Lib.hid (by show 0 + 4 * k ≤ 4 * k; omega), HO, HB, HC⟩
  case round =>
    obtain ⟨b1, acc, rfl, hon, hsz, hok, hbuf, hchg⟩ := hrel
    have HR := readRune_is w0 g t b1 wr hbuf.out hok.out.1 hok.out.2 ht HT.out.u8 (HBS.out.trans (hchg.out.below (B := w0.heap.size) HBS.out.size (fun k hk => by rw [hk]; exact HG.out))) HG.out
    have hok2 := Lib.hid (rr_ok hok.out.1 hok.out.2)
    obtain ⟨kk, rfl⟩ : ∃ kk, gk = kk + 1 := by
      cases gk with
      | zero => have := hon.out; cases this
      | succ kk => exact ⟨kk, rfl⟩
    have hon2 := hon.out
    rw [optN] at hon2
    generalize rr t b1 = RRv at HR hok2 hon2
    obtain ⟨b2, oc⟩ := RRv
    have hx0 : wr.cell? (⟨q0, 0, none⟩ : Addr) = some (.pointer (some ⟨p, 0, none⟩)) := (HQ0.out.chg hchg.out n0).cell
    have hxp : wr.cell? (⟨p, 0, none⟩ : Addr) = some (.pointer (some ⟨g, 0, none⟩)) := hchg.out.cell HP.out np
    have HON := Lib.hid hon2
    clear HB HO HC HK hon hon2 hok hbuf
    go_wp2_with fail
    refine HR.mono ?_
    clear HR hx0 hxp
    rintro e1 W1 ⟨hC, hB, h1⟩
    have HC := Lib.hid (hchg.out.trans hC)
    have HB := Lib.hid hB
    clear hC hB hchg
    rcases h1 with ⟨hn, rfl⟩ | ⟨n, kw, hn, rfl⟩
    · have hoc : oc = none := hn
      subst hoc
      have he := HON.out
      simp only [Option.some.injEq, Prod.mk.injEq] at he
      obtain ⟨rfl, rfl, rfl⟩ := he
      clear hn HON
      unfold eofV
      go_wp2_with fail
      go_ret2
      exact ⟨HB.out, hok2.out, HC.out, _, _, rfl⟩
    · have hoc : oc = some n := hn
      subst hoc
      have he := HON.out
      simp only [] at he
      clear hn HON
      by_cases c1 : n = 10 ∨ n = 13
      · rw [if_pos c1] at he
        simp only [Option.some.injEq, Prod.mk.injEq] at he
        obtain ⟨rfl, rfl, rfl⟩ := he
        rcases c1 with rfl | rfl
        · go_wp2_with fail
          refine (errors_New_is _ W1).mono ?_
          rintro e3 W2 ⟨rfl, hb⟩
          have HB2 := Lib.hid (show BufB W2 g t _ from HB.out.chg (Chg.of_below hb (fun _ => False)) (fun h => h))
          have HC2 := Lib.hid (HC.out.trans (Chg.of_below hb _))
          clear hb HB HC
          go_wp2_with fail
          go_ret2
          exact ⟨HB2.out, hok2.out, HC2.out, _, _, rfl⟩
        · go_wp2_with fail
          refine (errors_New_is _ W1).mono ?_
          rintro e3 W2 ⟨rfl, hb⟩
          have HB2 := Lib.hid (show BufB W2 g t _ from HB.out.chg (Chg.of_below hb (fun _ => False)) (fun h => h))
          have HC2 := Lib.hid (HC.out.trans (Chg.of_below hb _))
          clear hb HB HC
          go_wp2_with fail
          go_ret2
          exact ⟨HB2.out, hok2.out, HC2.out, _, _, rfl⟩
      · rw [if_neg c1] at he
        have q10 : ((n : Int) == 10) = false := beq_eq_false_iff_ne.2 (by omega)
        have q13 : ((n : Int) == 13) = false := beq_eq_false_iff_ne.2 (by omega)
        by_cases c2 : n = 61
        · rw [if_pos c2] at he
          simp only [Option.some.injEq, Prod.mk.injEq] at he
          obtain ⟨rfl, rfl, rfl⟩ := he
          have q61 : ((n : Int) == 61) = true := beq_iff_eq.2 (by omega)
          have hsz2 : acc.size ≤ 9223372036854775807 := by have := hsz.out; omega
          have HBW := Lib.hid (HBS.out.trans (HC.out.below (B := w0.heap.size) HBS.out.size (fun k hk => by rw [hk]; exact HG.out)))
          have hTW := HT.out.below HBW.out
          have hTS := Lib.hid (lib_strings_TrimSpace_any acc W1 hsz2 hTW.ss hTW.u8 hTW.ws)
          clear hsz2 hTW c1 c2 hsz
          go_wp2_with fail
          refine hTS.out.mono ?_
          rintro e3 W2 ⟨rfl, hb⟩
          have HB2 := Lib.hid (show BufB W2 g t _ from HB.out.chg (Chg.of_below hb (fun _ => False)) (fun h => h))
          have HC2 := Lib.hid (HC.out.trans (Chg.of_below hb _))
          clear hb HB HC hTS
          have y0 : W2.cell? (⟨q0, 0, none⟩ : Addr) = some (.pointer (some ⟨p, 0, none⟩)) := (HQ0.out.chg HC2.out n0).cell
          have y1 : W2.cell? (⟨q1, 0, none⟩ : Addr) = some (.string s) := (HQ1.out.chg HC2.out n1).cell
          have htv : (⟨(Lib.trimSpaceD acc.data.toList).toArray⟩ : ByteArray) = trimV acc := rfl
          rw [htv]
          go_wp2_with fail
          refine (optvFunc_is p s (trimV acc) _ W2 (Nat.lt_of_lt_of_le (World.block_lt_of_cell? W0 _ HP.out) HC2.out.size)).mono ?_
          rintro e4 W3 ⟨fn', f1', f2', rfl, hst, hb⟩
          have K0 := Lib.hid hst
          have HB3 := Lib.hid (show BufB W3 g t _ from HB2.out.chg (Chg.of_below hb (fun _ => False)) (fun h => h))
          have HC3 := Lib.hid (HC2.out.trans (Chg.of_below hb _))
          clear hst hb HB2 HC2 y0 y1
          go_wp2_with fail
          go_ret2
          exact ⟨HB3.out, hok2.out, HC3.out, _, rfl, K0.out⟩
        · rw [if_neg c2] at he
          have HE := Lib.hid he
          have q61 : ((n : Int) == 61) = false := beq_eq_false_iff_ne.2 (by omega)
          have hsz3 := Lib.hid (show (acc ++ Utf8.encode (n : Int)).size + 4 * kk ≤ 4 * k by have h1 := hsz.out; have h2 := encode_le (n : Int); rw [ByteArray.size_append]; omega)
          clear he c1 c2
          obtain ⟨E, hE⟩ : ∃ E, Utf8.encode (n : Int) = E := ⟨_, rfl⟩
          rw [hE] at HE hsz3
          have hcv : ∀ W2 : World, (convert 21 9 (.int .i32 (n : Int))).run Tryd.prog W2 = .ok (.string E) W2 := fun W2 => by rw [run_convert_int_string (hs := by rfl) (hd := Tryd.underlying9), hE]
          have hEs : E.size ≤ 4 := by rw [← hE]; exact encode_le _
          have hq0 : acc.size + E.size ≤ 5000000 := by have := hsz.out; omega
          have hq2 : acc.size + E.size ≤ 9223372036854775807 := Nat.le_trans hq0 (by decide)
          have hq1 : ¬ (acc.size + E.size > 9223372036854775807) := Nat.not_lt.2 hq2
          clear hE hsz hq0 hEs
          go_wp2_with fail
          go_roundg kk
          case measure => omega
          case rel => exact ⟨b2, acc ++ E, by first | rfl | simp, HE, hsz3, hok2, HB, HC⟩
end Go.Proofs.YtlmmgienbmghmaaDoor.Lex
