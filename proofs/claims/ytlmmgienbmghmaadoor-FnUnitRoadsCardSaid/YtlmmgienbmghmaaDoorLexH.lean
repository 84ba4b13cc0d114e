import Derived.Test.YtlmmgienbmghmaaDoorLexR
import Derived.Test.YtlmmgienbmghmaaDoorGivU
/- The lexer of unit files, by hand: the bytes of a line, without its end. -/
set_option linter.unusedVariables false
set_option linter.unusedSimpArgs false
namespace Go.Proofs.YtlmmgienbmghmaaDoor.Lex
open Go.RowKit Go.Proofs.YtlmmgienbmghmaaDoorW.PrintWords Go.Proofs.YtlmmgienbmghmaaDoorW.PrintLast Go.Proofs.YtlmmgienbmghmaaDoorW.PrintMore Go.Proofs.YtlmmgienbmghmaaDoor.GivU
/-- A text without one byte at its end. -/
def trimB (c : UInt8) (l : List UInt8) : List UInt8 := if Lib.hasSuffix l [c] = true then l.take (l.length - 1) else l
theorem trimB_le (c : UInt8) (l : List UInt8) : (trimB c l).length ≤ l.length := by
  unfold trimB
  split
  · rw [List.length_take]; omega
  · exact Nat.le_refl _
theorem bytesOf_conv (l : List UInt8) : Lib.bytesOf (l.map fun b => (b.toNat : Int)) = l := by
  unfold Lib.bytesOf
  rw [List.map_map]
  refine (List.map_congr_left fun b _ => ?_).trans (List.map_id l)
  simp
theorem bytesIn_of {W : World} {A : Option Addr} {n : Nat} {xs : List Int} (h : (Kd.int .u8).C W A n xs) : Lib.BytesIn W A n xs := by
  rcases Nat.eq_zero_or_pos n with hn | hn
  · subst hn
    exact Lib.BytesIn.nil W A xs
  · obtain ⟨ad, hA, -⟩ := Kd.at_int h 0 (by omega) (by omega)
    subst hA
    refine Lib.BytesIn.of_cells fun i hi => ?_
    obtain ⟨ad', hA', hc⟩ := Kd.at_int h (i : Int) (by omega) (by omega)
    obtain rfl := Option.some.inj hA'
    exact hc
theorem C_take {W : World} {A : Option Addr} {n : Nat} {xs : List Int} (h : (Kd.int .u8).C W A n xs) (k : Nat) (hk : k ≤ n) : (Kd.int .u8).C W A k (xs.take k) := by
  obtain ⟨h1, h2, h3⟩ := h
  refine ⟨by rw [List.length_take]; omega, by omega, fun hp => ?_⟩
  obtain ⟨a, ha, hr⟩ := h3 (by omega)
  refine ⟨a, ha, fun j p hj => ?_⟩
  rw [List.getElem?_take] at hj
  split at hj
  · exact hr j p hj
  · cases hj
theorem trimSuffix_is (W : World) (v : Value) (l : List UInt8) (c : UInt8) (h : IsBytes W v l) (p2 : Option Addr) (d : Nat) (h2 : Lib.BytesIn W p2 1 [(c.toNat : Int)]) :
    Calls Tryd.prog 69 #[v, .slice p2 1 d] W fun e W' => ∃ v', e = .returned v' ∧ IsBytes W v' (trimB c l) ∧ W' = W := by
  obtain ⟨A, cp, rfl, hcp, hC⟩ := h
  have hm := Kd.C_max hC
  refine (lib_bytes_TrimSuffix_all A p2 l.length cp 1 d (l.map fun b => (b.toNat : Int)) [(c.toNat : Int)] W (by rw [List.length_map]) rfl hcp hm (bytesIn_of hC) h2).mono fun e W' ⟨he, hw⟩ => ⟨_, he, ?_, hw⟩
  have hb := bytesIn_of hC
  have ec : Lib.bytesOf [(c.toNat : Int)] = [c] := bytesOf_conv [c]
  by_cases hs : Lib.hasSuffix l [c] = true
  · have hlen := Lib.hasSuffix_le hs
    have hl1 : 1 ≤ l.length := hlen
    obtain ⟨b, o, rfl, -⟩ := hb.at (by omega)
    have ev : Lib.trimSuffixV (some ⟨b, o, none⟩) l.length cp (l.map fun b => (b.toNat : Int)) [(c.toNat : Int)] = .slice (some ⟨b, o, none⟩) (l.length - 1) cp := by
      unfold Lib.trimSuffixV
      show Lib.bytesTrimSuffix b o l.length cp _ _ = _
      unfold Lib.bytesTrimSuffix
      rw [bytesOf_conv, ec, if_pos hs]
      rfl
    rw [ev]
    have et : trimB c l = l.take (l.length - 1) := by unfold trimB; rw [if_pos hs]
    have el : (l.take (l.length - 1)).length = l.length - 1 := by rw [List.length_take]; omega
    rw [et]
    refine ⟨some ⟨b, o, none⟩, cp, by rw [el], by rw [el]; omega, ?_⟩
    rw [el, List.map_take]
    exact C_take hC _ (by omega)
  · have ev : Lib.trimSuffixV A l.length cp (l.map fun b => (b.toNat : Int)) [(c.toNat : Int)] = .slice A l.length cp := by
      cases A with
      | none => rfl
      | some a =>
        obtain ⟨b, o, sp⟩ := a
        cases sp with
        | none =>
          show Lib.bytesTrimSuffix b o l.length cp _ _ = _
          unfold Lib.bytesTrimSuffix
          rw [bytesOf_conv, ec, if_neg hs]
        | some q => rfl
    rw [ev]
    have et : trimB c l = l := by unfold trimB; rw [if_neg hs]
    rw [et]
    exact ⟨A, cp, rfl, hcp, hC⟩
end Go.Proofs.YtlmmgienbmghmaaDoor.Lex

/- The lexer of unit files, by hand: toEOL. -/
set_option linter.unusedVariables false
set_option linter.unusedSimpArgs false
namespace Go.Proofs.YtlmmgienbmghmaaDoor.Lex
open Go.RowKit Go.Proofs.YtlmmgienbmghmaaDoorW.PrintWords Go.Proofs.YtlmmgienbmghmaaDoorW.PrintLast Go.Proofs.YtlmmgienbmghmaaDoorW.PrintMore
theorem oneByte (W : World) (T : TypeId) (c : Int) : Lib.BytesIn (W.alloc (.cells #[.int .u8 c] T (0, 0))) (some ⟨W.heap.size, 0, none⟩) 1 [c] := by
  refine Lib.BytesIn.of_cells fun i hi => ?_
  obtain rfl : i = 0 := by omega
  rw [show (⟨W.heap.size, 0, none⟩ : Addr).add 0 = ⟨W.heap.size, 0, none⟩ from rfl, World.cell?_alloc_new]
  rfl
set_option maxHeartbeats 8000000 in
set_option maxRecDepth 100000 in
theorem toEOL_is (p g : Nat) (t : ByteArray) (b b' : Bf) (e : Bool) (k : Nat) (W : World) (hp : W.cell? ⟨p, 0, none⟩ = some (.pointer (some ⟨g, 0, none⟩))) (h : BufB W g t b) (ok : b.Ok t.size) (h4 : b.w ≤ 4096 + b.r) (ht : t.size ≤ 100000) (hk : rbN 10 t.data.toList k b = some (b', e)) :
    Calls Tryd.prog 68 #[.pointer (some ⟨p, 0, none⟩)] W fun e' W' => ∃ v, e' = .returned (.tuple #[v, .bool e, .nilIface]) ∧ IsBytes W' v (trimB 10 (trimB 13 ((t.data.toList.drop b.r).take (b'.r - b.r)))) ∧ BufB W' g t b' ∧ b'.Ok t.size ∧ b'.w ≤ 4096 + b'.r ∧ Chg W W' (· = g) := by
  have HR := readBytes_is g t 10 b b' e k W h ok h4 ht hk
  have H0 : W.cell? (⟨p, 0, none⟩ : Addr) = some (.pointer (some ⟨g, 0, none⟩)) := hp
  generalize (t.data.toList.drop b.r).take (b'.r - b.r) = line at HR ⊢
  clear h ok h4 hk hp
  cases e with
  | false =>
    go_enter Tryd.func68, Tryd.ntmps68
    go_wp2_with fail
    refine HR.mono ?_
    clear HR H0
    rintro e1 W1 ⟨v, rfl, hI, hB, hO, h5, hC⟩
    have he : errOf false = .nilIface := rfl
    rw [he]
    have HI := Lib.hid hI
    have HB := Lib.hid hB
    have HC := Lib.hid hC
    have HO := Lib.hid hO
    have H5 := Lib.hid h5
    clear hI hB hC hO h5 he
    go_wp2_with fail
    have HY := Lib.hid (oneByte W1 5 13)
    have hb := below_alloc (Below.refl W1.heap.size W1) (.cells #[.int .u8 13] 5 (0, 0))
    have n1 := Lib.hid (HI.out.below hb); clear HI; have HI := n1; clear n1
    have n1 := Lib.hid (show BufB _ g t b' from HB.out.chg (Chg.of_below hb (fun _ => False)) (fun h => h)); clear HB; have HB := n1; clear n1
    have n1 := Lib.hid (HC.out.trans (Chg.of_below hb _)); clear HC; have HC := n1; clear n1 hb
    generalize W1.alloc (.cells #[.int .u8 13] 5 (0, 0)) = W2 at HY HI HB HC ⊢
    refine (trimSuffix_is W2 _ _ 13 HI.out _ 1 HY.out).mono ?_
    clear HI HY
    rintro e2 Wx ⟨v2, rfl, hI, hw⟩
    obtain rfl := hw.symm
    have HI := Lib.hid hI
    clear hI
    go_wp2_with fail
    have HY := Lib.hid (oneByte W2 5 10)
    have hb := below_alloc (Below.refl W2.heap.size W2) (.cells #[.int .u8 10] 5 (0, 0))
    have n1 := Lib.hid (HI.out.below hb); clear HI; have HI := n1; clear n1
    have n1 := Lib.hid (show BufB _ g t b' from HB.out.chg (Chg.of_below hb (fun _ => False)) (fun h => h)); clear HB; have HB := n1; clear n1
    have n1 := Lib.hid (HC.out.trans (Chg.of_below hb _)); clear HC; have HC := n1; clear n1 hb
    generalize W2.alloc (.cells #[.int .u8 10] 5 (0, 0)) = W4 at HY HI HB HC ⊢
    refine (trimSuffix_is W4 _ _ 10 HI.out _ 1 HY.out).mono ?_
    clear HI HY
    rintro e2 Wx ⟨v3, rfl, hI, hw⟩
    obtain rfl := hw.symm
    have HI := Lib.hid hI
    clear hI
    go_wp2_with fail
    refine (zzEOF_nil W4).mono ?_
    rintro e3 W6 ⟨rfl, hb⟩
    have n1 := Lib.hid (HI.out.below hb); clear HI; have HI := n1; clear n1
    have n1 := Lib.hid (show BufB _ g t b' from HB.out.chg (Chg.of_below hb (fun _ => False)) (fun h => h)); clear HB; have HB := n1; clear n1
    have n1 := Lib.hid (HC.out.trans (Chg.of_below hb _)); clear HC; have HC := n1; clear n1 hb
    go_wp2_with fail
    go_ret3
    exact ⟨_, rfl, HI.out, HB.out, HO.out, H5.out, HC.out⟩
  | true =>
    go_enter Tryd.func68, Tryd.ntmps68
    go_wp2_with fail
    refine HR.mono ?_
    clear HR H0
    rintro e1 W1 ⟨v, rfl, hI, hB, hO, h5, hC⟩
    have he : errOf true = eofV := rfl
    rw [he]
    have HI := Lib.hid hI
    have HB := Lib.hid hB
    have HC := Lib.hid hC
    have HO := Lib.hid hO
    have H5 := Lib.hid h5
    clear hI hB hC hO h5 he
    unfold eofV
    go_wp2_with fail
    refine (zzEOF_eof W1).mono ?_
    rintro e3 W0 ⟨rfl, hb⟩
    have n1 := Lib.hid (HI.out.below hb); clear HI; have HI := n1; clear n1
    have n1 := Lib.hid (show BufB _ g t b' from HB.out.chg (Chg.of_below hb (fun _ => False)) (fun h => h)); clear HB; have HB := n1; clear n1
    have n1 := Lib.hid (HC.out.trans (Chg.of_below hb _)); clear HC; have HC := n1; clear n1 hb
    go_wp2_with fail
    have HY := Lib.hid (oneByte W0 5 13)
    have hb := below_alloc (Below.refl W0.heap.size W0) (.cells #[.int .u8 13] 5 (0, 0))
    have n1 := Lib.hid (HI.out.below hb); clear HI; have HI := n1; clear n1
    have n1 := Lib.hid (show BufB _ g t b' from HB.out.chg (Chg.of_below hb (fun _ => False)) (fun h => h)); clear HB; have HB := n1; clear n1
    have n1 := Lib.hid (HC.out.trans (Chg.of_below hb _)); clear HC; have HC := n1; clear n1 hb
    generalize W0.alloc (.cells #[.int .u8 13] 5 (0, 0)) = W2 at HY HI HB HC ⊢
    refine (trimSuffix_is W2 _ _ 13 HI.out _ 1 HY.out).mono ?_
    clear HI HY
    rintro e2 Wx ⟨v2, rfl, hI, hw⟩
    obtain rfl := hw.symm
    have HI := Lib.hid hI
    clear hI
    go_wp2_with fail
    have HY := Lib.hid (oneByte W2 5 10)
    have hb := below_alloc (Below.refl W2.heap.size W2) (.cells #[.int .u8 10] 5 (0, 0))
    have n1 := Lib.hid (HI.out.below hb); clear HI; have HI := n1; clear n1
    have n1 := Lib.hid (show BufB _ g t b' from HB.out.chg (Chg.of_below hb (fun _ => False)) (fun h => h)); clear HB; have HB := n1; clear n1
    have n1 := Lib.hid (HC.out.trans (Chg.of_below hb _)); clear HC; have HC := n1; clear n1 hb
    generalize W2.alloc (.cells #[.int .u8 10] 5 (0, 0)) = W4 at HY HI HB HC ⊢
    refine (trimSuffix_is W4 _ _ 10 HI.out _ 1 HY.out).mono ?_
    clear HI HY
    rintro e2 Wx ⟨v3, rfl, hI, hw⟩
    obtain rfl := hw.symm
    have HI := Lib.hid hI
    clear hI
    go_wp2_with fail
    refine (zzEOF_eof W4).mono ?_
    rintro e3 W6 ⟨rfl, hb⟩
    have n1 := Lib.hid (HI.out.below hb); clear HI; have HI := n1; clear n1
    have n1 := Lib.hid (show BufB _ g t b' from HB.out.chg (Chg.of_below hb (fun _ => False)) (fun h => h)); clear HB; have HB := n1; clear n1
    have n1 := Lib.hid (HC.out.trans (Chg.of_below hb _)); clear HC; have HC := n1; clear n1 hb
    go_wp2_with fail
    go_ret3
    exact ⟨_, rfl, HI.out, HB.out, HO.out, H5.out, HC.out⟩
end Go.Proofs.YtlmmgienbmghmaaDoor.Lex

/- The lexer of unit files, by hand: a line that is passed over. -/
set_option linter.unusedVariables false
set_option linter.unusedSimpArgs false
namespace Go.Proofs.YtlmmgienbmghmaaDoor.Lex
open Go.RowKit Go.Proofs.YtlmmgienbmghmaaDoorW.PrintWords Go.Proofs.YtlmmgienbmghmaaDoorW.PrintLast Go.Proofs.YtlmmgienbmghmaaDoorW.PrintMore Go.Proofs.YtlmmgienbmghmaaDoor.GivU
theorem Chg.cell {W W' : World} {S : Nat → Prop} (c : Chg W W' S) {a : Addr} {v : Value} (h : W.cell? a = some v) (hS : ¬ S a.block) : W'.cell? a = some v := by
  have := c.block _ (World.block_lt_of_cell? W a h) hS
  unfold World.cell? at *
  rw [this]
  exact h
/-- What toEOL hands back as the line. -/
def lineOf (l : List UInt8) (b b' : Bf) : List UInt8 := trimB 10 (trimB 13 ((l.drop b.r).take (b'.r - b.r)))
/-- The lines that are passed over: up to the first that goes on in no other (m: rounds of ReadBytes, n: lines). -/
def ignN (l : List UInt8) (m : Nat) : Nat → Bf → Option Bf
  | 0, _ => none
  | n + 1, b => match rbN 10 l m b with
    | none => none
    | some (b', _) => if Lib.hasSuffix (trimB 32 (lineOf l b b')) [92] = true then ignN l m n b' else some b'
theorem hasSuffix_is (W : World) (v : Value) (l : List UInt8) (c : UInt8) (h : IsBytes W v l) (p2 : Option Addr) (d : Nat) (h2 : Lib.BytesIn W p2 1 [(c.toNat : Int)]) :
    Calls Tryd.prog 70 #[v, .slice p2 1 d] W fun e W' => e = .returned (.bool (Lib.hasSuffix l [c])) ∧ W' = W := by
  obtain ⟨A, cp, rfl, hcp, hC⟩ := h
  have ec : Lib.bytesOf [(c.toNat : Int)] = [c] := bytesOf_conv [c]
  have := lib_bytes_HasSuffix_all A p2 l.length cp 1 d (l.map fun b => (b.toNat : Int)) [(c.toNat : Int)] W (by rw [List.length_map]) rfl hcp (Kd.C_max hC) (bytesIn_of hC) h2
  rw [bytesOf_conv, ec] at this
  exact this
theorem ign_step {l : List UInt8} {m n : Nat} {b b' : Bf} (h : ignN l m n b = some b') : ∃ n' b1 e, n = n' + 1 ∧ rbN 10 l m b = some (b1, e) ∧ (Lib.hasSuffix (trimB 32 (lineOf l b b1)) [92] = true ∧ ignN l m n' b1 = some b' ∨ Lib.hasSuffix (trimB 32 (lineOf l b b1)) [92] = false ∧ b1 = b') := by
  cases n with
  | zero => cases h
  | succ n =>
    rw [ignN] at h
    split at h
    · cases h
    · rename_i b1 e he
      refine ⟨n, b1, e, rfl, he, ?_⟩
      split at h
      · rename_i hs
        exact .inl ⟨hs, h⟩
      · rename_i hs
        exact .inr ⟨by simpa using hs, Option.some.inj h⟩
set_option maxHeartbeats 8000000 in
set_option maxRecDepth 100000 in
theorem ignore_is (q0 q1 p g : Nat) (t : ByteArray) (b b' : Bf) (m n : Nat) (fn : Fn) (f1 f2 : Array Value) (W : World)
    (h0 : W.cell? ⟨q0, 0, none⟩ = some (.pointer (some ⟨p, 0, none⟩))) (h1 : W.cell? ⟨q1, 0, none⟩ = some (.func fn f1 f2)) (hp : W.cell? ⟨p, 0, none⟩ = some (.pointer (some ⟨g, 0, none⟩))) (n0 : q0 ≠ g) (n1 : q1 ≠ g) (np : p ≠ g)
    (h : BufB W g t b) (ok : b.Ok t.size) (h4 : b.w ≤ 4096 + b.r) (ht : t.size ≤ 100000) (hk : ignN t.data.toList m n b = some b') :
    Calls Tryd.prog 67 #[.pointer (some ⟨q0, 0, none⟩), .pointer (some ⟨q1, 0, none⟩)] W fun e' W' => e' = .returned (.tuple #[.func fn f1 f2, .nilIface]) ∧ BufB W' g t b' ∧ b'.Ok t.size ∧ b'.w ≤ 4096 + b'.r ∧ Chg W W' (· = g) := by
  have HK := Lib.hid hk
  have OK := Lib.hid ok
  have H4 := Lib.hid h4
  have H := Lib.hid h
  have A0 := Lib.hid h0
  have A1 := Lib.hid h1
  have AP := Lib.hid hp
  have HC := Lib.hid (Chg.refl W (· = g))
  clear hk ok h4 h h0 h1 hp
  go_enter Tryd.func67, Tryd.ntmps67
  go_wp2
  go_loopg [4] n (fun kq v4 w' => ∃ b1 : Bf, Hid (ignN t.data.toList m kq b1 = some b') ∧ Hid (b1.Ok t.size ∧ b1.w ≤ 4096 + b1.r) ∧ Hid (BufB w' g t b1) ∧ Hid (Chg W w' (· = g)))
  case atStart => exact ⟨b, HK, Lib.hid ⟨OK.out, H4.out⟩, H, HC⟩
  case round =>
    obtain ⟨b1, hrb, hok, hbuf, hchg⟩ := hrel
    obtain ⟨k', b2, e, rfl, hrn, hcase⟩ := ign_step hrb.out
    have a0 : wr.cell? (⟨q0, 0, none⟩ : Addr) = some (.pointer (some ⟨p, 0, none⟩)) := hchg.out.cell A0.out n0
    have HT := toEOL_is p g t b1 b2 e m wr (hchg.out.cell AP.out np) hbuf.out hok.out.1 hok.out.2 ht hrn
    have HCASE := Lib.hid hcase
    clear hcase hrn hrb hbuf hok HK OK H4 H HC
    go_wp2_with fail
    refine HT.mono ?_
    clear HT a0
    rintro e1 W1 ⟨v, rfl, hI, hB, hO, h5, hC⟩
    have HI := Lib.hid hI
    have HB := Lib.hid hB
    have HC := Lib.hid (hchg.out.trans hC)
    have HO := Lib.hid hO
    have H5 := Lib.hid h5
    clear hI hB hC hO h5 hchg
    go_wp2_with fail
    have HY := Lib.hid (oneByte W1 5 32)
    have hb := below_alloc (Below.refl W1.heap.size W1) (.cells #[.int .u8 32] 5 (0, 0))
    have n1 := Lib.hid (HI.out.below hb); clear HI; have HI := n1; clear n1
    have n1 := Lib.hid (show BufB _ g t b2 from HB.out.chg (Chg.of_below hb (fun _ => False)) (fun h => h)); clear HB; have HB := n1; clear n1
    have n1 := Lib.hid (HC.out.trans (Chg.of_below hb _)); clear HC; have HC := n1; clear n1 hb
    generalize W1.alloc (.cells #[.int .u8 32] 5 (0, 0)) = W2 at HY HI HB HC ⊢
    refine (trimSuffix_is W2 _ _ 32 HI.out _ 1 HY.out).mono ?_
    clear HI HY
    rintro e2 Wx ⟨v2, rfl, hI, hw⟩
    obtain rfl := hw.symm
    have HI := Lib.hid hI
    clear hI
    go_wp2_with fail
    have HY := Lib.hid (oneByte W2 5 92)
    have hb := below_alloc (Below.refl W2.heap.size W2) (.cells #[.int .u8 92] 5 (0, 0))
    have n1 := Lib.hid (HI.out.below hb); clear HI; have HI := n1; clear n1
    have n1 := Lib.hid (show BufB _ g t b2 from HB.out.chg (Chg.of_below hb (fun _ => False)) (fun h => h)); clear HB; have HB := n1; clear n1
    have n1 := Lib.hid (HC.out.trans (Chg.of_below hb _)); clear HC; have HC := n1; clear n1 hb
    generalize W2.alloc (.cells #[.int .u8 92] 5 (0, 0)) = W4 at HY HI HB HC ⊢
    refine (hasSuffix_is W4 _ _ 92 HI.out _ 1 HY.out).mono ?_
    rintro e3 Wx ⟨rfl, hw⟩
    obtain rfl := hw.symm
    rcases HCASE.out with ⟨hs, hn⟩ | ⟨hs, rfl⟩
    · have HN := Lib.hid hn
      unfold lineOf at hs
      rw [hs]
      clear hs hn HCASE HI HY
      go_wp2_with fail
      go_roundg k'
      case measure => omega
      case rel => exact ⟨b2, HN, Lib.hid ⟨HO.out, H5.out⟩, HB, HC⟩
    · unfold lineOf at hs
      rw [hs]
      clear hs HCASE HI HY
      have a1 : W4.cell? (⟨q1, 0, none⟩ : Addr) = some (.func fn f1 f2) := HC.out.cell A1.out n1
      go_wp2_with fail
      go_ret2
      exact ⟨rfl, HB.out, HO.out, H5.out, HC.out⟩
end Go.Proofs.YtlmmgienbmghmaaDoor.Lex
