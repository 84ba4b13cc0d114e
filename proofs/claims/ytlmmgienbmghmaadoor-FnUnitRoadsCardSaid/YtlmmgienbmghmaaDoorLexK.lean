/- The lexer of unit files, by hand: lexNextSection, lexSectionName, a line passed over, between options. -/
import Derived.Test.YtlmmgienbmghmaaDoorLexJ
set_option linter.unusedVariables false
set_option linter.unusedSimpArgs false
namespace Go.Proofs.YtlmmgienbmghmaaDoor.Lex
open Go.RowKit Go.Proofs.YtlmmgienbmghmaaDoorW.PrintWords Go.Proofs.YtlmmgienbmghmaaDoorW.PrintLast Go.Proofs.YtlmmgienbmghmaaDoorW.PrintMore Go.Proofs.YtlmmgienbmghmaaDoor.GivU Go.Proofs.YtlmmgienbmghmaaDoor.J
theorem rb_lt (c : UInt8) (l : List UInt8) (b' : Bf) : ∀ (k : Nat) (b : Bf), rbN c l k b = some (b', false) → b.r < b'.r
  | 0, b, h => by cases h
  | k + 1, b, h => by
    rw [rbN] at h
    split at h
    · rename_i i hf
      obtain ⟨h1, -⟩ := Prod.mk.inj (Option.some.inj h)
      have := (findN_some c l _ _ _ hf).1
      rw [← h1]
      show b.r < i + 1
      omega
    · split at h
      · obtain ⟨-, h2⟩ := Prod.mk.inj (Option.some.inj h)
        cases h2
      · have := rb_lt c l b' k _ h
        rw [fill_r] at this
        have e : b.r ≤ (if 4096 ≤ b.w - b.r then b.w else b.r) := by split <;> omega
        exact Nat.lt_of_le_of_lt e this
theorem wrap_nat (m : Nat) (h : m ≤ 100000) : wrap64 (m : Int) = (m : Int) := by rw [← i64_w, IntKind.wrap_i64]; omega
/-- What stands ahead of a section's closing bracket. -/
def secName (l : List UInt8) (b b' : Bf) : ByteArray := ⟨(((l.drop b.r).take (b'.r - b.r)).take (b'.r - b.r - 1)).toArray⟩
/-- A sign that begins a comment. -/
def isCom (c : Nat) : Bool := c == 35 || c == 59
theorem com_f (c : Nat) : unit_isComment.f (c : Int) = some (isCom c) := by
  unfold unit_isComment.f isCom
  by_cases h1 : c = 35
  · subst h1; rfl
  · rw [if_neg (by omega)]
    have e1 : (c == 35) = false := beq_eq_false_iff_ne.2 h1
    rw [e1, Bool.false_or]
    by_cases h2 : c = 59
    · subst h2; rfl
    · rw [beq_eq_false_iff_ne.2 h2, beq_eq_false_iff_ne.2 (show (c : Int) ≠ 59 by omega)]
/-- A white sign. -/
def spR (c : Nat) : Bool := (unit_zzSpace.f (c : Int)).getD false
theorem sp_ite {p : Prop} [Decidable p] {a b : Option Bool} (h1 : ∃ r, a = some r) (h2 : ∃ r, b = some r) : ∃ r, (if p then a else b) = some r := by
  split
  · exact h1
  · exact h2
theorem sp_some (c : Int) : ∃ r, unit_zzSpace.f c = some r := by
  unfold unit_zzSpace.f
  repeat (first | exact ⟨_, rfl⟩ | refine sp_ite ⟨_, rfl⟩ ?_)
theorem sp_f (c : Nat) : unit_zzSpace.f (c : Int) = some (spR c) := by
  obtain ⟨r, hr⟩ := sp_some (c : Int)
  unfold spR
  rw [hr]
  rfl
/-- lexNextSection. -/
def secF (t : ByteArray) (b : Bf) : Bf × Step :=
  ((rr t b).1, match (rr t b).2 with
    | none => .stop
    | some c => if c = 91 then .name else if isCom c = true then .ign .sec else .sec)
/-- Between options. -/
def sooF (t : ByteArray) (b : Bf) (s : ByteArray) : Bf × Step :=
  match (rr t b).2 with
  | none => ((rr t b).1, .stop)
  | some c => if spR c = true then ((rr t b).1, .soo s) else if c = 91 then ((rr t b).1, .name) else if isCom c = true then ((rr t b).1, .ign (.soo s))
    else (⟨(rr t b).1.last, (rr t b).1.w, (rr t b).1.last, (rr t b).1.d⟩, .optn s)
theorem rr_last {t : ByteArray} {b : Bf} (ok : b.Ok t.size) (h4 : b.w ≤ 4096 + b.r) : (⟨(rr t b).1.last, (rr t b).1.w, (rr t b).1.last, (rr t b).1.d⟩ : Bf).Ok t.size ∧ (rr t b).1.w ≤ 4096 + (rr t b).1.last := by
  obtain ⟨h1, h2, h3⟩ := rrF_ok ok h4
  unfold rr
  split
  · exact ⟨⟨h1.rw, h1.wn, by have := h1.rw; have := h1.wn; show (rrF t b).r ≤ t.size; omega, fun e => by cases e⟩, h2⟩
  · exact ⟨⟨h1.rw, h1.wn, by have := h1.rw; have := h1.wn; show (rrF t b).r ≤ t.size; omega, h1.dn⟩, h2⟩
theorem secF_ok {t : ByteArray} {b : Bf} (ok : b.Ok t.size) (h4 : b.w ≤ 4096 + b.r) : (secF t b).1.Ok t.size ∧ (secF t b).1.w ≤ 4096 + (secF t b).1.r := rr_ok ok h4
theorem sooF_ok {t : ByteArray} {b : Bf} (s : ByteArray) (ok : b.Ok t.size) (h4 : b.w ≤ 4096 + b.r) : (sooF t b s).1.Ok t.size ∧ (sooF t b s).1.w ≤ 4096 + (sooF t b s).1.r := by
  have h1 := rr_ok ok h4
  have h2 := rr_last ok h4
  unfold sooF
  split
  · exact h1
  · split
    · exact h1
    · split
      · exact h1
      · split
        · exact h1
        · exact h2
set_option maxHeartbeats 8000000 in
set_option maxRecDepth 100000 in
theorem sec_is (w0 W : World) (p g : Nat) (t : ByteArray) (b : Bf) (dv : Value) (cels : List Cel) (h : LexAt w0 W p g t b dv .nilIface cels) (ht : t.size ≤ 100000) (hT : UTabs w0) :
    Calls Tryd.prog 42 #[.pointer (some ⟨p, 0, none⟩)] W fun e' W' => StepPost w0 p g t cels (secF t b).1 [] (some (secF t b).2) e' W' := by
  have HR := readRune_is w0 g t b W h.buf h.ok h.h4 ht hT.u8 h.base h.hg
  have hp : W.cell? (⟨p, 0, none⟩ : Addr) = some (.pointer (some ⟨g, 0, none⟩)) := h.lex.c0
  have hok := secF_ok h.ok h.h4
  suffices HQ : Calls Tryd.prog 42 #[.pointer (some ⟨p, 0, none⟩)] W fun e' W' => ∃ v, e' = .returned (.tuple #[v, .nilIface]) ∧ StepAt W' p (secF t b).2 v ∧ BufB W' g t (rr t b).1 ∧ Chg W W' (· = g) from
    HQ.mono fun e' W' ⟨v, he, hs, hb, hc⟩ => StepPost.go h hc hb hok.1 hok.2 ⟨v, he, hs⟩
  have hs : (secF t b).2 = match (rr t b).2 with
    | none => .stop
    | some c => if c = 91 then .name else if isCom c = true then .ign .sec else .sec := rfl
  clear h hok
  generalize (secF t b).2 = S at hs ⊢
  generalize (rr t b).1 = b' at HR ⊢
  go_enter Tryd.func42, Tryd.ntmps42
  go_wp2_with fail
  refine HR.mono ?_
  clear HR
  rintro e1 W1 ⟨hC, hB, h1⟩
  have HC := Lib.hid hC
  have HB := Lib.hid hB
  clear hC hB
  rcases h1 with ⟨hn, rfl⟩ | ⟨n, k, hn, rfl⟩
  · rw [hn] at hs
    have hs : S = .stop := hs
    subst hs
    clear hn hp
    unfold eofV
    go_wp2_with fail
    refine (zzEOF_eof W1).mono ?_
    rintro e3 W2 ⟨rfl, hb⟩
    have HB2 := Lib.hid (show BufB W2 g t _ from HB.out.chg (Chg.of_below hb (fun _ => False)) (fun h => h))
    have HC2 := Lib.hid (HC.out.trans (Chg.of_below hb _))
    clear HB HC hb
    go_wp2_with fail
    go_ret2
    exact ⟨_, rfl, rfl, HB2.out, HC2.out⟩
  · rw [hn] at hs
    have HS := Lib.hid hs
    clear hs hn
    have HP := Lib.hid hp
    clear hp
    by_cases c1 : n = 91
    · subst c1
      go_wp2_with fail
      go_ret2
      rw [HS.out]
      exact ⟨_, rfl, rfl, HB.out, HC.out⟩
    · have q1 : ((n : Int) == 91) = false := beq_eq_false_iff_ne.2 (by omega)
      obtain ⟨x, hx⟩ : ∃ x, isCom n = x := ⟨_, rfl⟩
      have HF := Lib.hid (show unit_isComment.f (n : Int) = some x by rw [com_f, hx])
      cases x with
      | true =>
        have HS2 := Lib.hid (show S = .ign .sec by rw [HS.out]; simp only []; rw [if_neg c1, if_pos hx])
        clear hx c1 HS
        go_wp2_with fail
        refine (unit_isComment.calls _ _ _ HF.out).mono ?_
        rintro e3 W2 ⟨rfl, nd, rfl⟩
        have HB2 := Lib.hid (show BufB (W1.drewN nd) g t _ from HB.out.drewN nd)
        have HC2 := Lib.hid (HC.out.trans (Chg.drewN W1 nd _))
        generalize W1.drewN nd = W2 at HB2 HC2 ⊢
        clear HB HC
        go_wp2_with fail
        refine (ignFunc_is p .sec _ _ _ W2 rfl).mono ?_
        rintro e4 W3 ⟨fn', f1', f2', rfl, hst, hb⟩
        have K0 := Lib.hid hst
        have HB3 := Lib.hid (show BufB W3 g t _ from HB2.out.chg (Chg.of_below hb (fun _ => False)) (fun h => h))
        have HC3 := Lib.hid (HC2.out.trans (Chg.of_below hb _))
        clear hst hb HB2 HC2
        go_wp2_with fail
        go_ret2
        rw [HS2.out]
        exact ⟨_, rfl, K0.out, HB3.out, HC3.out⟩
      | false =>
        have HS2 := Lib.hid (show S = .sec by rw [HS.out]; simp only []; rw [if_neg c1, if_neg (by rw [hx]; decide)])
        clear hx c1 HS
        go_wp2_with fail
        refine (unit_isComment.calls _ _ _ HF.out).mono ?_
        rintro e3 W2 ⟨rfl, nd, rfl⟩
        have HB2 := Lib.hid (show BufB (W1.drewN nd) g t _ from HB.out.drewN nd)
        have HC2 := Lib.hid (HC.out.trans (Chg.drewN W1 nd _))
        generalize W1.drewN nd = W2 at HB2 HC2 ⊢
        clear HB HC
        go_wp2_with fail
        go_ret2
        rw [HS2.out]
        exact ⟨_, rfl, rfl, HB2.out, HC2.out⟩
set_option maxHeartbeats 8000000 in
set_option maxRecDepth 100000 in
theorem name_is (w0 W : World) (p g : Nat) (t : ByteArray) (b b' : Bf) (e : Bool) (k : Nat) (dv : Value) (cels : List Cel) (h : LexAt w0 W p g t b dv .nilIface cels) (ht : t.size ≤ 100000) (hk : rbN 93 t.data.toList k b = some (b', e)) :
    Calls Tryd.prog 55 #[.pointer (some ⟨p, 0, none⟩)] W fun e' W' => StepPost w0 p g t cels b' [] (if e = true then none else some (.suf (secName t.data.toList b b'))) e' W' := by
  have HR := readBytes_is g t 93 b b' e k W h.buf h.ok h.h4 ht hk
  have H0 : W.cell? (⟨p, 0, none⟩ : Addr) = some (.pointer (some ⟨g, 0, none⟩)) := h.lex.c0
  have hlen : t.data.toList.length = t.size := (Lib.size_eq t).symm
  suffices HQ : Calls Tryd.prog 55 #[.pointer (some ⟨p, 0, none⟩)] W fun e' W' => BufB W' g t b' ∧ b'.Ok t.size ∧ b'.w ≤ 4096 + b'.r ∧ Chg W W' (· = g) ∧ ((e = true ∧ ∃ q, e' = .returned (.tuple #[.nilFunc, .iface 97 q])) ∨ (e = false ∧ ∃ v, e' = .returned (.tuple #[v, .nilIface]) ∧ StepAt W' p (.suf (secName t.data.toList b b')) v)) from
    HQ.mono fun e' W' ⟨hb, hok, h4, hc, hv⟩ => StepPost.go h hc hb hok h4 (by
      rcases hv with ⟨rfl, q, hq⟩ | ⟨rfl, v, hv⟩
      · exact ⟨_, q, hq⟩
      · exact ⟨v, hv⟩)
  cases e with
  | true =>
    clear h hk
    go_enter Tryd.func55, Tryd.ntmps55
    go_wp2_with fail
    refine HR.mono ?_
    clear HR H0
    rintro e1 W1 ⟨v, rfl, hI, hB, hO, h5, hC⟩
    have he : errOf true = eofV := rfl
    rw [he]
    have HB := Lib.hid hB
    have HC := Lib.hid hC
    have HO := Lib.hid hO
    have H5 := Lib.hid h5
    clear hB hC hO h5 he hI hlen
    unfold eofV
    go_wp2_with fail
    refine (errors_New_is _ W1).mono ?_
    rintro e3 W2 ⟨rfl, hb⟩
    have n1 := Lib.hid (show BufB _ g t b' from HB.out.chg (Chg.of_below hb (fun _ => False)) (fun h => h)); clear HB; have HB := n1; clear n1
    have n1 := Lib.hid (HC.out.trans (Chg.of_below hb _)); clear HC; have HC := n1; clear n1 hb
    go_wp2_with fail
    go_ret2
    exact ⟨HB.out, HO.out, H5.out, HC.out, .inl ⟨trivial, _, rfl⟩⟩
  | false =>
    have hlt := rb_lt 93 _ _ _ _ hk
    clear h hk
    go_enter Tryd.func55, Tryd.ntmps55
    go_wp2_with fail
    refine HR.mono ?_
    clear HR H0
    rintro e1 W1 ⟨v, rfl, ⟨A, cp, rfl, hcp, hI⟩, hB, hO, h5, hC⟩
    have he : errOf false = .nilIface := rfl
    rw [he]
    have hl : ((t.data.toList.drop b.r).take (b'.r - b.r)).length = b'.r - b.r := by
      have h1 := hO.rw
      have h2 := hO.wn
      rw [List.length_take, List.length_drop, hlen]; omega
    have hns : secName t.data.toList b b' = ⟨(((t.data.toList.drop b.r).take (b'.r - b.r)).take (b'.r - b.r - 1)).toArray⟩ := rfl
    have HNS := Lib.hid hns
    generalize (t.data.toList.drop b.r).take (b'.r - b.r) = line at hl hI hcp HNS ⊢
    obtain ⟨m, hm⟩ : ∃ m : Nat, b'.r - b.r = m + 1 := ⟨b'.r - b.r - 1, by omega⟩
    rw [hm] at hl HNS
    have hmt : m ≤ 100000 := by have h1 := hO.rw; have h2 := hO.wn; omega
    have hcp1 := Lib.hid hcp
    have hCm := C_take hI m (by omega)
    have hlm : (line.take m).length = m := by rw [List.length_take]; omega
    have hcv := fun W2 (hb : Below W1.heap.size W1 W2) => conv_is W2 A m cp (line.take m) hlm.symm (by rw [hlm, List.map_take]; exact Kd.C_below hCm hb)
    have HV := Lib.hid (hcv W1 (Below.refl _ _))
    rw [hl] at hcp ⊢
    have e5 : wrap64 (m : Int) = (m : Int) := wrap_nat m hmt
    have e6 : (m : Int).toNat = m := Int.toNat_natCast m
    have HB := Lib.hid hB
    have HC := Lib.hid hC
    have HO := Lib.hid hO
    have H5 := Lib.hid h5
    clear hB hC hO h5 he hns hI hlt hlen hCm hlm hcv hl hcp1 hmt
    have p1 : (0 : Int) ≤ (m : Int) := by omega
    have p2 : (m : Int) ≤ (cp : Int) := by omega
    have hcv := HV.out
    go_wp2_with fail
    refine (sufFunc_is p _ W1).mono ?_
    rintro e4 W3 ⟨fn', f1', f2', rfl, hst, hb⟩
    go_wp2_with fail
    go_ret2
    refine ⟨HB.out.chg (Chg.of_below hb (fun _ => False)) (fun h => h), HO.out, H5.out, HC.out.trans (Chg.of_below hb _), .inr ⟨trivial, _, rfl, ?_⟩⟩
    rw [HNS.out]
    exact hst
end Go.Proofs.YtlmmgienbmghmaaDoor.Lex
