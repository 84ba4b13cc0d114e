/- The lexer of unit files, by hand: a line passed over; between options. -/
import Derived.Test.YtlmmgienbmghmaaDoorLexK
set_option linter.unusedVariables false
set_option linter.unusedSimpArgs false
namespace Go.Proofs.YtlmmgienbmghmaaDoor.Lex
open Go.RowKit Go.Proofs.YtlmmgienbmghmaaDoorW.PrintWords Go.Proofs.YtlmmgienbmghmaaDoorW.PrintLast Go.Proofs.YtlmmgienbmghmaaDoorW.PrintMore Go.Proofs.YtlmmgienbmghmaaDoor.GivU Go.Proofs.YtlmmgienbmghmaaDoor.J
theorem ign_is (w0 W : World) (p g : Nat) (t : ByteArray) (b b' : Bf) (m n : Nat) (s : Step) (q0 q1 : Nat) (fn : Fn) (f1 f2 : Array Value) (dv : Value) (cels : List Cel) (h : LexAt w0 W p g t b dv .nilIface cels) (ht : t.size ≤ 100000)
    (h0 : Box W q0 74 (.pointer (some ⟨p, 0, none⟩))) (h1 : Box W q1 95 (.func fn f1 f2)) (hs : StepAt W p s (.func fn f1 f2)) (hk : ignN t.data.toList m n b = some b') :
    Calls Tryd.prog 67 #[.pointer (some ⟨q0, 0, none⟩), .pointer (some ⟨q1, 0, none⟩)] W fun e' W' => StepPost w0 p g t cels b' [] (some s) e' W' := by
  have hb := show W.heap[g]? = _ from h.buf
  refine (ignore_is q0 q1 p g t b b' m n fn f1 f2 W h0.cell h1.cell h.lex.c0 (ne_type h0 hb (by decide)) (ne_type h1 hb (by decide)) h.pg h.buf h.ok h.h4 ht hk).mono ?_
  rintro e' W' ⟨rfl, hB, hO, h5, hC⟩
  exact StepPost.go h hC hB hO h5 ⟨_, rfl, hs.chg hC (fun k hk => by rw [hk]; exact ⟨_, _, hb, by decide, by decide, by decide⟩)⟩
theorem Chg.same {W W1 W2 : World} {S : Nat → Prop} (c : Chg W W1 S) (h1 : W2.os = W1.os) (h2 : W2.tape = W1.tape) (h3 : W2.output = W1.output) (h4 : W2.heap = W1.heap) : Chg W W2 S :=
  ⟨h1.trans c.os, h2.trans c.tape, h3.trans c.output, by rw [h4]; exact c.size, fun k hk hs => by rw [h4]; exact c.block k hk hs⟩
set_option maxHeartbeats 8000000 in
set_option maxRecDepth 100000 in
theorem soo_is (w0 W : World) (p g : Nat) (s t : ByteArray) (b : Bf) (q0 q1 : Nat) (dv : Value) (cels : List Cel) (h : LexAt w0 W p g t b dv .nilIface cels) (ht : t.size ≤ 100000) (hT : UTabs w0)
    (hq0 : Box W q0 74 (.pointer (some ⟨p, 0, none⟩))) (hq1 : Box W q1 9 (.string s)) :
    Calls Tryd.prog 80 #[.pointer (some ⟨q0, 0, none⟩), .pointer (some ⟨q1, 0, none⟩)] W fun e' W' => StepPost w0 p g t cels (sooF t b s).1 [] (some (sooF t b s).2) e' W' := by
  have HR := readRune_is w0 g t b W h.buf h.ok h.h4 ht hT.u8 h.base h.hg
  have hp : W.cell? (⟨p, 0, none⟩ : Addr) = some (.pointer (some ⟨g, 0, none⟩)) := h.lex.c0
  have hok := sooF_ok s h.ok h.h4
  have hbg := show W.heap[g]? = _ from h.buf
  have n0 : q0 ≠ g := ne_type hq0 hbg (by decide)
  have n1 : q1 ≠ g := ne_type hq1 hbg (by decide)
  have np : p ≠ g := h.pg
  suffices HQ : Calls Tryd.prog 80 #[.pointer (some ⟨q0, 0, none⟩), .pointer (some ⟨q1, 0, none⟩)] W fun e' W' => ∃ v, e' = .returned (.tuple #[v, .nilIface]) ∧ StepAt W' p (sooF t b s).2 v ∧ BufB W' g t (sooF t b s).1 ∧ Chg W W' (· = g) from
    HQ.mono fun e' W' ⟨v, he, hs, hb, hc⟩ => StepPost.go h hc hb hok.1 hok.2 ⟨v, he, hs⟩
  have hs : sooF t b s = match (rr t b).2 with
    | none => ((rr t b).1, .stop)
    | some c => if spR c = true then ((rr t b).1, .soo s) else if c = 91 then ((rr t b).1, .name) else if isCom c = true then ((rr t b).1, .ign (.soo s))
      else (⟨(rr t b).1.last, (rr t b).1.w, (rr t b).1.last, (rr t b).1.d⟩, .optn s) := rfl
  have HQ0 := Lib.hid hq0
  have HQ1 := Lib.hid hq1
  have HP := Lib.hid hp
  have hq0c := hq0.cell
  clear h hok hbg hq0 hq1
  generalize sooF t b s = S at hs ⊢
  generalize (rr t b).1 = b1 at HR hs ⊢
  go_enter Tryd.func80, Tryd.ntmps80
  go_wp2_with fail
  refine HR.mono ?_
  clear HR hq0c hp
  rintro e1 W1 ⟨hC, hB, h1⟩
  have HC := Lib.hid hC
  have HB := Lib.hid hB
  clear hC hB
  rcases h1 with ⟨hn, rfl⟩ | ⟨n, k, hn, rfl⟩
  · rw [hn] at hs
    have hs : S = (b1, .stop) := hs
    subst hs
    clear hn
    unfold eofV
    go_wp2_with fail
    refine (zzEOF_eof W1).mono ?_
    rintro e3 W2 ⟨rfl, hb⟩
    have HB2 := Lib.hid (show BufB W2 g t _ from HB.out.chg (Chg.of_below hb (fun _ => False)) (fun h => h))
    have HC2 := Lib.hid (HC.out.trans (Chg.of_below hb _))
    clear HB HC hb
    go_wp2_with fail
    go_ret2
    exact ⟨_, rfl, rfl, HB2.out, HC2.out⟩
  · rw [hn] at hs
    obtain ⟨x, hx⟩ : ∃ x : Bool, x = spR n := ⟨_, rfl⟩
    have HX := Lib.hid hx
    have HSP := Lib.hid (show unit_zzSpace.f (n : Int) = some x by rw [hx]; exact sp_f n)
    have HS := Lib.hid hs
    clear hs hn hx
    go_wp2_with fail
    refine (unit_zzSpace.calls _ _ _ HSP.out).mono ?_
    rintro e2 W2 ⟨rfl, nd, rfl⟩
    have HB2 := Lib.hid (show BufB (W1.drewN nd) g t _ from HB.out.drewN nd)
    have HC2 := Lib.hid (HC.out.trans (Chg.drewN W1 nd _))
    generalize W1.drewN nd = W2 at HB2 HC2 ⊢
    clear HB HC HSP
    have x0 : W2.cell? (⟨q0, 0, none⟩ : Addr) = some (.pointer (some ⟨p, 0, none⟩)) := (HQ0.out.chg HC2.out n0).cell
    have x1 : W2.cell? (⟨q1, 0, none⟩ : Addr) = some (.string s) := (HQ1.out.chg HC2.out n1).cell
    have xp : W2.cell? (⟨p, 0, none⟩ : Addr) = some (.pointer (some ⟨g, 0, none⟩)) := HC2.out.cell HP.out np
    cases x with
    | true =>
      have HS2 := Lib.hid (HS.out.trans (if_pos HX.out.symm))
      clear HX HS
      go_wp2_with fail
      refine (sooFunc_is p s W2).mono ?_
      rintro e4 W3 ⟨fn', f1', f2', rfl, hst, hb⟩
      have K0 := Lib.hid hst
      have HB3 := Lib.hid (show BufB W3 g t _ from HB2.out.chg (Chg.of_below hb (fun _ => False)) (fun h => h))
      have HC3 := Lib.hid (HC2.out.trans (Chg.of_below hb _))
      clear hst hb HB2 HC2 x0 x1 xp
      go_wp2_with fail
      go_ret2
      rw [HS2.out]
      exact ⟨_, rfl, K0.out, HB3.out, HC3.out⟩
    | false =>
      have HS2 := Lib.hid (HS.out.trans (if_neg (by rw [← HX.out]; decide)))
      clear HX HS
      by_cases c1 : n = 91
      · subst c1
        have HS3 := Lib.hid (HS2.out.trans (if_pos rfl))
        clear HS2
        go_wp2_with fail
        go_ret2
        rw [HS3.out]
        exact ⟨_, rfl, rfl, HB2.out, HC2.out⟩
      · have q1' : ((n : Int) == 91) = false := beq_eq_false_iff_ne.2 (by omega)
        have HS3 := Lib.hid (HS2.out.trans (if_neg c1))
        clear HS2
        obtain ⟨y, hy⟩ : ∃ y, isCom n = y := ⟨_, rfl⟩
        have HF := Lib.hid (show unit_isComment.f (n : Int) = some y by rw [com_f, hy])
        cases y with
        | true =>
          have HS4 := Lib.hid (HS3.out.trans (if_pos hy))
          clear hy c1 HS3
          go_wp2_with fail
          refine (unit_isComment.calls _ _ _ HF.out).mono ?_
          rintro e3 W3 ⟨rfl, nd, rfl⟩
          have HB3 := Lib.hid (show BufB (W2.drewN nd) g t _ from HB2.out.drewN nd)
          have HC3 := Lib.hid (HC2.out.trans (Chg.drewN W2 nd _))
          clear x0 x1 xp
          have x0 : (W2.drewN nd).cell? (⟨q0, 0, none⟩ : Addr) = some (.pointer (some ⟨p, 0, none⟩)) := (HQ0.out.chg HC3.out n0).cell
          have x1 : (W2.drewN nd).cell? (⟨q1, 0, none⟩ : Addr) = some (.string s) := (HQ1.out.chg HC3.out n1).cell
          generalize W2.drewN nd = W3 at HB3 HC3 x0 x1 ⊢
          clear HB2 HC2 HF
          go_wp2_with fail
          go_region_with (first
            | (go_at_call 75; refine (sooFunc_is p s _).mono ?_; rintro e4 Wa ⟨fna, f1a, f2a, rfl, k0, hb4⟩
               have x0' : Wa.cell? (⟨q0, 0, none⟩ : Addr) = some (.pointer (some ⟨p, 0, none⟩)) := pw_cell_below hb4 x0
               have HB4 := Lib.hid hb4
               have K0 := Lib.hid k0
               clear k0 hb4)
            | (go_at_call 57; refine (ignFunc_is p (.soo s) _ _ _ _ (by first | exact K0.out | exact StepAt.below (below_drew (Below.refl _ _)) _ _ K0.out)).mono ?_; rintro e5 Wb ⟨fnb, f1b, f2b, rfl, j0, hb5⟩
               have J0 := Lib.hid j0
               have HB5 := Lib.hid hb5
               clear j0 hb5))
          all_goals
            have d4 : Chg W Wa (· = g) := by
              refine Chg.trans ?_ (Chg.of_below HB4.out _)
              exact Chg.same HC3.out rfl rfl rfl rfl
            have d5 : Chg W Wb (· = g) := by
              refine Chg.trans ?_ (Chg.of_below HB5.out _)
              exact Chg.same d4 rfl rfl rfl rfl
            have D5 := Lib.hid d5
            have b4 := Lib.hid (show BufB Wa g t b1 by unfold BufB; refine BufAt.chg ?_ (Chg.of_below HB4.out (fun _ => False)) (fun h => h); exact HB3.out)
            have b5 := Lib.hid (show BufB Wb g t b1 by unfold BufB; refine BufAt.chg ?_ (Chg.of_below HB5.out (fun _ => False)) (fun h => h); exact b4.out)
            clear d4 d5 b4
            go_wp2_with fail
            go_ret2
            rw [HS4.out]
            exact ⟨_, rfl, by first | exact J0.out | exact StepAt.below (below_drew (Below.refl _ _)) _ _ J0.out, b5.out, Chg.same D5.out rfl rfl rfl rfl⟩
        | false =>
          have HS4 := Lib.hid (HS3.out.trans (if_neg (by rw [hy]; decide)))
          clear hy c1 HS3
          go_wp2_with fail
          refine (unit_isComment.calls _ _ _ HF.out).mono ?_
          rintro e3 W3 ⟨rfl, nd, rfl⟩
          have HB3 := Lib.hid (show BufB (W2.drewN nd) g t _ from HB2.out.drewN nd)
          have HC3 := Lib.hid (HC2.out.trans (Chg.drewN W2 nd _))
          clear x0 x1 xp
          have x0 : (W2.drewN nd).cell? (⟨q0, 0, none⟩ : Addr) = some (.pointer (some ⟨p, 0, none⟩)) := (HQ0.out.chg HC3.out n0).cell
          have xp : (W2.drewN nd).cell? (⟨p, 0, none⟩ : Addr) = some (.pointer (some ⟨g, 0, none⟩)) := HC3.out.cell HP.out np
          generalize W2.drewN nd = W3 at HB3 HC3 x0 xp ⊢
          clear HB2 HC2 HF
          go_wp2_with fail
          refine (unread_is g t _ W3 HB3.out).mono ?_
          rintro e4 W4 ⟨rfl, hB4, hC4⟩
          have HB4 := Lib.hid hB4
          have HC4 := Lib.hid (HC3.out.trans hC4)
          clear hB4 hC4 HB3 HC3 x0 xp
          have x0 : W4.cell? (⟨q0, 0, none⟩ : Addr) = some (.pointer (some ⟨p, 0, none⟩)) := (HQ0.out.chg HC4.out n0).cell
          have x1 : W4.cell? (⟨q1, 0, none⟩ : Addr) = some (.string s) := (HQ1.out.chg HC4.out n1).cell
          go_wp2_with fail
          refine (optnFunc_is p s W4).mono ?_
          rintro e5 W5 ⟨fn', f1', f2', rfl, hst, hb⟩
          have K0 := Lib.hid hst
          have HB5 := Lib.hid (show BufB W5 g t _ from HB4.out.chg (Chg.of_below hb (fun _ => False)) (fun h => h))
          have HC5 := Lib.hid (HC4.out.trans (Chg.of_below hb _))
          clear hst hb HB4 HC4 x0 x1
          go_wp2_with fail
          go_ret2
          rw [HS4.out]
          exact ⟨_, rfl, K0.out, HB5.out, HC5.out⟩
end Go.Proofs.YtlmmgienbmghmaaDoor.Lex
