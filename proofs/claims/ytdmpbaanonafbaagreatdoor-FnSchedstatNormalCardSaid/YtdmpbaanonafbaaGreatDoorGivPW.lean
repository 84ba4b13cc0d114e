import Derived.Test.YtdmpbaanonafbaaGreatDoorProg
import Derived.WalkKit
import Derived.WalkSpells
import Derived.KernelRfl
import Derived.Lib.Strings
import Derived.Lib.Walk
import Derived.Lib.ConvBytes
import Derived.Lib.Hide
import Derived.Laws.Strings3
import Derived.Laws.Closers25
import Derived.Laws.Closers25b
import Derived.BigCall
import Derived.BigGuard
import Derived.Test.YtdmpbaanonafbaaGreatDoorWWords
import Derived.Test.YtdmpbaanonafbaaGreatDoorGivZ
/- internal/strconv's reader of numbers at base 16: what it answers where each sign is a hexadecimal digit and the number fits; by hand. -/
set_option linter.unusedVariables false
set_option linter.unusedSimpArgs false
namespace Go.Proofs.YtdmpbaanonafbaaGreatDoor.GivHex
open Go.RowKit Go.Proofs.YtdmpbaanonafbaaGreatDoorW.PrintWords

/-- A hexadecimal digit's value. -/
def dig (c : UInt8) : Option Nat := if 48 ≤ c.toNat ∧ c.toNat ≤ 57 then some (c.toNat - 48) else if 97 ≤ c.toNat ∧ c.toNat ≤ 102 then some (c.toNat - 87) else if 65 ≤ c.toNat ∧ c.toNat ≤ 70 then some (c.toNat - 55) else none
/-- A number's value, digit by digit; none: a sign that is no digit. -/
def hexv : Nat → List UInt8 → Option Nat
  | acc, [] => some acc
  | acc, c :: cs => (dig c).bind fun d => hexv (acc * 16 + d) cs
theorem hexv_le : ∀ (l : List UInt8) (acc v : Nat), hexv acc l = some v → acc ≤ v
  | [], acc, v, h => by simp [hexv] at h; omega
  | c :: cs, acc, v, h => by
    rw [hexv] at h
    cases hd : dig c with
    | none => rw [hd] at h; cases h
    | some d =>
      rw [hd, Option.bind_some] at h
      have := hexv_le cs _ v h
      omega

theorem lower_table : ∀ n : Fin 256, (97 ≤ n.val ∧ n.val ≤ 102 → bits .or .u8 (n.val : Int) 32 = (n.val : Int)) ∧ (65 ≤ n.val ∧ n.val ≤ 70 → bits .or .u8 (n.val : Int) 32 = (n.val : Int) + 32) := by decide +kernel
theorem lower_low (c : UInt8) (h : 97 ≤ c.toNat ∧ c.toNat ≤ 102) : bits .or .u8 (c.toNat : Int) 32 = (c.toNat : Int) := (lower_table ⟨c.toNat, c.toNat_lt⟩).1 h
theorem lower_up (c : UInt8) (h : 65 ≤ c.toNat ∧ c.toNat ≤ 70) : bits .or .u8 (c.toNat : Int) 32 = (c.toNat : Int) + 32 := (lower_table ⟨c.toNat, c.toNat_lt⟩).2 h
theorem lower_is (c l : Int) (h : bits .or .u8 c 32 = l) (w : World) :
    Calls Tryz.prog 170 #[.int .u8 c] w fun e w' => e = .returned (.int .u8 l) ∧ w = w' := by
  have H := Lib.hid h
  clear h
  go_enter Tryz.func170, Tryz.ntmps170
  go_wp2
  go_ret
  exact ⟨by first | rfl | (rw [H.out]; rfl), rfl⟩

set_option maxHeartbeats 32000000 in
set_option maxRecDepth 100000 in
theorem ParseUint_16_32 (t : ByteArray) (hne : t.size ≠ 0) (hmax : t.size ≤ 9223372036854775806) (v : Nat) (hv : hexv 0 t.data.toList = some v) (hvm : v ≤ 4294967295) (w : World) :
    Calls Tryz.prog 159 #[.string t, .int .i64 16, .int .i64 32] w fun e w' => e = .returned (.tuple #[.int .u64 v, .nilIface]) ∧ Lib.bytesWorld w 5 t = w' := by
  have hemp : t.toList.isEmpty = false := by
    rw [← decide_eq_emptyBytes]
    exact decide_eq_false (fun h => hne (by rw [h]; rfl))
  have hcv := Lib.run_convert_string_bytes (P := Tryz.prog) w 9 152 5 t (u := .string) Tryz.underlying9 Tryz.underlying152 Tryz.underlying5
  have hB : ∀ j, j < t.size → (Lib.bytesWorld w 5 t).cell? ⟨w.heap.size, j, none⟩ = some (.int .u8 (t.data.toList.getD j 0).toNat) := fun j hj => Lib.bytesWorld_cell w 5 t j hj
  obtain ⟨W1, hW1⟩ : ∃ W1, W1 = Lib.bytesWorld w 5 t := ⟨_, rfl⟩
  rw [← hW1] at hcv hB ⊢
  clear hW1
  obtain ⟨bs, hL⟩ : ∃ bs, bs = t.data.toList := ⟨_, rfl⟩
  have hLn : bs.length = t.size := by rw [hL, Lib.size_eq]
  rw [← hL] at hB hv
  clear hL
  have HV := Lib.hid hv
  clear hv
  go_enter Tryz.func159, Tryz.ntmps159
  go_wp2
  go_loop [12, 13, 101] (fun vu vn vi => ∃ (k acc : Nat) (a : Int), vu = .bool false ∧ vn = .int .u64 a ∧ vi = .int .i64 k ∧ k ≤ t.size ∧ Hid (a = (acc : Int) ∧ hexv acc (bs.drop k) = some v))
    (fun _ _ vi => t.size - (intOf vi).toNat)
  case atStart => exact ⟨0, 0, 0, rfl, rfl, rfl, by omega, rfl, HV.out⟩
  case round =>
    obtain ⟨k, acc, a, rfl, rfl, rfl, hk, hh⟩ := hrel
    obtain ⟨ha, hdec⟩ := hh.out
    clear hh
    have hacc := hexv_le _ _ _ hdec
    have a0 : 0 ≤ a := by omega
    have a1 : a ≤ 4294967295 := by omega
    by_cases hkn : k < t.size
    · have hc := hB k hkn
      have hdrop : bs.drop k = bs[k]'(by omega) :: bs.drop (k + 1) := List.drop_eq_getElem_cons (by omega)
      have hget : bs.getD k 0 = bs[k]'(by omega) := by simp [List.getD, List.getElem?_eq_getElem (show k < bs.length by omega)]
      rw [hdrop] at hdec
      rw [hget] at hc
      generalize bs[k]'(by omega) = c at hc hdec
      have hc256 : c.toNat < 256 := c.toNat_lt
      clear hB hdrop hget
      rw [hexv] at hdec
      by_cases hdig : 48 ≤ c.toNat ∧ c.toNat ≤ 57
      · have hd : dig c = some (c.toNat - 48) := by unfold dig; rw [if_pos hdig]
        rw [hd, Option.bind_some] at hdec
        have hle := hexv_le _ _ _ hdec
        obtain ⟨hd0, hd1⟩ := hdig
        have HN : Hid (a * 16 + ((c.toNat : Int) - 48) = ((acc * 16 + (c.toNat - 48) : Nat) : Int) ∧ hexv (acc * 16 + (c.toNat - 48)) (bs.drop (k + 1)) = some v) := Lib.hid ⟨by omega, hdec⟩
        have icut : a < 1152921504606846976 := by omega
        have iov : a * 16 + ((c.toNat : Int) - 48) ≤ 4294967295 := by omega
        clear hd hdec hle hacc ha
        go_wp2
        refine ⟨⟨k + 1, acc * 16 + (c.toNat - 48), a * 16 + ((c.toNat : Int) - 48), rfl, (by first | rfl | (congr 1; omega)), (by first | rfl | (congr 1; omega)), by omega, HN⟩, by simp [intOf]; omega⟩
      · obtain ⟨l, hl, h97, h102, hd⟩ : ∃ l : Nat, bits .or .u8 (c.toNat : Int) 32 = (l : Int) ∧ 97 ≤ l ∧ l ≤ 102 ∧ dig c = some (l - 87) := by
          by_cases h1 : 97 ≤ c.toNat ∧ c.toNat ≤ 102
          · exact ⟨c.toNat, lower_low c h1, h1.1, h1.2, by unfold dig; rw [if_neg hdig, if_pos h1]⟩
          · by_cases h2 : 65 ≤ c.toNat ∧ c.toNat ≤ 70
            · exact ⟨c.toNat + 32, by rw [lower_up c h2]; omega, by omega, by omega, by unfold dig; rw [if_neg hdig, if_neg h1, if_pos h2]; congr 1⟩
            · have : dig c = none := by unfold dig; rw [if_neg hdig, if_neg h1, if_neg h2]
              rw [this] at hdec
              cases hdec
        rw [hd, Option.bind_some] at hdec
        have hle := hexv_le _ _ _ hdec
        have HN : Hid (a * 16 + ((l : Int) - 97 + 10) = ((acc * 16 + (l - 87) : Nat) : Int) ∧ hexv (acc * 16 + (l - 87)) (bs.drop (k + 1)) = some v) := Lib.hid ⟨by omega, hdec⟩
        have HL := Lib.hid hl
        have hnd : ¬ ((c.toNat : Int) ≤ 57) := by
          intro h57
          have h48 : c.toNat < 48 := by omega
          have : dig c = none := by
            unfold dig
            rw [if_neg hdig, if_neg (by omega), if_neg (by omega)]
          rw [this] at hd
          cases hd
        have h95 : ¬ ((c.toNat : Int) = 95) := by
          intro h95
          have : dig c = none := by
            unfold dig
            rw [if_neg hdig, if_neg (by omega), if_neg (by omega)]
          rw [this] at hd
          cases hd
        have icut : a < 1152921504606846976 := by omega
        have iov : a * 16 + ((l : Int) - 97 + 10) ≤ 4294967295 := by omega
        clear hd hdec hle hacc ha hl hdig
        go_wp2_with (go_at_call 170; refine (lower_is _ _ HL.out _).mono ?_; rintro e w' ⟨rfl, rfl⟩)
        refine ⟨⟨k + 1, acc * 16 + (l - 87), a * 16 + ((l : Int) - 97 + 10), rfl, (by first | rfl | (congr 1; omega)), (by first | rfl | (congr 1; omega)), by omega, HN⟩, by simp [intOf]; omega⟩
    · have hkk : k = t.size := by omega
      subst hkk
      rw [List.drop_eq_nil_of_le (by omega)] at hdec
      simp only [hexv, Option.some.injEq] at hdec
      have he : a = (v : Int) := by omega
      have HE := Lib.hid he
      clear hacc a0 a1 hdec ha he
      go_wp2
      go_ret2
      exact ⟨by first | rfl | (rw [HE.out]; rfl), rfl⟩

set_option maxHeartbeats 32000000 in
set_option maxRecDepth 100000 in
theorem ParseUint_16_64 (t : ByteArray) (hne : t.size ≠ 0) (hmax : t.size ≤ 9223372036854775806) (v : Nat) (hv : hexv 0 t.data.toList = some v) (hvm : v ≤ 18446744073709551615) (w : World) :
    Calls Tryz.prog 159 #[.string t, .int .i64 16, .int .i64 64] w fun e w' => e = .returned (.tuple #[.int .u64 v, .nilIface]) ∧ Lib.bytesWorld w 5 t = w' := by
  have hemp : t.toList.isEmpty = false := by
    rw [← decide_eq_emptyBytes]
    exact decide_eq_false (fun h => hne (by rw [h]; rfl))
  have hcv := Lib.run_convert_string_bytes (P := Tryz.prog) w 9 152 5 t (u := .string) Tryz.underlying9 Tryz.underlying152 Tryz.underlying5
  have hB : ∀ j, j < t.size → (Lib.bytesWorld w 5 t).cell? ⟨w.heap.size, j, none⟩ = some (.int .u8 (t.data.toList.getD j 0).toNat) := fun j hj => Lib.bytesWorld_cell w 5 t j hj
  obtain ⟨W1, hW1⟩ : ∃ W1, W1 = Lib.bytesWorld w 5 t := ⟨_, rfl⟩
  rw [← hW1] at hcv hB ⊢
  clear hW1
  obtain ⟨bs, hL⟩ : ∃ bs, bs = t.data.toList := ⟨_, rfl⟩
  have hLn : bs.length = t.size := by rw [hL, Lib.size_eq]
  rw [← hL] at hB hv
  clear hL
  have HV := Lib.hid hv
  clear hv
  have hmv : IntKind.u64.wrap (IntKind.u64.wrap 18446744073709551616 - 1) = 18446744073709551615 := by
    rw [IntKind.wrap_u64, IntKind.wrap_u64]
    decide
  go_enter Tryz.func159, Tryz.ntmps159
  go_wp2
  go_loop [12, 13, 101] (fun vu vn vi => ∃ (k acc : Nat) (a : Int), vu = .bool false ∧ vn = .int .u64 a ∧ vi = .int .i64 k ∧ k ≤ t.size ∧ Hid (a = (acc : Int) ∧ hexv acc (bs.drop k) = some v))
    (fun _ _ vi => t.size - (intOf vi).toNat)
  case atStart => exact ⟨0, 0, 0, rfl, rfl, rfl, by omega, rfl, HV.out⟩
  case round =>
    obtain ⟨k, acc, a, rfl, rfl, rfl, hk, hh⟩ := hrel
    obtain ⟨ha, hdec⟩ := hh.out
    clear hh
    have hacc := hexv_le _ _ _ hdec
    have a0 : 0 ≤ a := by omega
    have a1 : a ≤ 18446744073709551615 := by omega
    by_cases hkn : k < t.size
    · have hc := hB k hkn
      have hdrop : bs.drop k = bs[k]'(by omega) :: bs.drop (k + 1) := List.drop_eq_getElem_cons (by omega)
      have hget : bs.getD k 0 = bs[k]'(by omega) := by simp [List.getD, List.getElem?_eq_getElem (show k < bs.length by omega)]
      rw [hdrop] at hdec
      rw [hget] at hc
      generalize bs[k]'(by omega) = c at hc hdec
      have hc256 : c.toNat < 256 := c.toNat_lt
      clear hB hdrop hget
      rw [hexv] at hdec
      by_cases hdig : 48 ≤ c.toNat ∧ c.toNat ≤ 57
      · have hd : dig c = some (c.toNat - 48) := by unfold dig; rw [if_pos hdig]
        rw [hd, Option.bind_some] at hdec
        have hle := hexv_le _ _ _ hdec
        obtain ⟨hd0, hd1⟩ := hdig
        have HN : Hid (a * 16 + ((c.toNat : Int) - 48) = ((acc * 16 + (c.toNat - 48) : Nat) : Int) ∧ hexv (acc * 16 + (c.toNat - 48)) (bs.drop (k + 1)) = some v) := Lib.hid ⟨by omega, hdec⟩
        have icut : a < 1152921504606846976 := by omega
        have iov : a * 16 + ((c.toNat : Int) - 48) ≤ 18446744073709551615 := by omega
        clear hd hdec hle hacc ha
        go_wp2
        refine ⟨⟨k + 1, acc * 16 + (c.toNat - 48), a * 16 + ((c.toNat : Int) - 48), rfl, (by first | rfl | (congr 1; omega)), (by first | rfl | (congr 1; omega)), by omega, HN⟩, by simp [intOf]; omega⟩
      · obtain ⟨l, hl, h97, h102, hd⟩ : ∃ l : Nat, bits .or .u8 (c.toNat : Int) 32 = (l : Int) ∧ 97 ≤ l ∧ l ≤ 102 ∧ dig c = some (l - 87) := by
          by_cases h1 : 97 ≤ c.toNat ∧ c.toNat ≤ 102
          · exact ⟨c.toNat, lower_low c h1, h1.1, h1.2, by unfold dig; rw [if_neg hdig, if_pos h1]⟩
          · by_cases h2 : 65 ≤ c.toNat ∧ c.toNat ≤ 70
            · exact ⟨c.toNat + 32, by rw [lower_up c h2]; omega, by omega, by omega, by unfold dig; rw [if_neg hdig, if_neg h1, if_pos h2]; congr 1⟩
            · have : dig c = none := by unfold dig; rw [if_neg hdig, if_neg h1, if_neg h2]
              rw [this] at hdec
              cases hdec
        rw [hd, Option.bind_some] at hdec
        have hle := hexv_le _ _ _ hdec
        have HN : Hid (a * 16 + ((l : Int) - 97 + 10) = ((acc * 16 + (l - 87) : Nat) : Int) ∧ hexv (acc * 16 + (l - 87)) (bs.drop (k + 1)) = some v) := Lib.hid ⟨by omega, hdec⟩
        have HL := Lib.hid hl
        have hnd : ¬ ((c.toNat : Int) ≤ 57) := by
          intro h57
          have h48 : c.toNat < 48 := by omega
          have : dig c = none := by
            unfold dig
            rw [if_neg hdig, if_neg (by omega), if_neg (by omega)]
          rw [this] at hd
          cases hd
        have h95 : ¬ ((c.toNat : Int) = 95) := by
          intro h95
          have : dig c = none := by
            unfold dig
            rw [if_neg hdig, if_neg (by omega), if_neg (by omega)]
          rw [this] at hd
          cases hd
        have icut : a < 1152921504606846976 := by omega
        have iov : a * 16 + ((l : Int) - 97 + 10) ≤ 18446744073709551615 := by omega
        clear hd hdec hle hacc ha hl hdig
        go_wp2_with (go_at_call 170; refine (lower_is _ _ HL.out _).mono ?_; rintro e w' ⟨rfl, rfl⟩)
        refine ⟨⟨k + 1, acc * 16 + (l - 87), a * 16 + ((l : Int) - 97 + 10), rfl, (by first | rfl | (congr 1; omega)), (by first | rfl | (congr 1; omega)), by omega, HN⟩, by simp [intOf]; omega⟩
    · have hkk : k = t.size := by omega
      subst hkk
      rw [List.drop_eq_nil_of_le (by omega)] at hdec
      simp only [hexv, Option.some.injEq] at hdec
      have he : a = (v : Int) := by omega
      have HE := Lib.hid he
      clear hacc a0 a1 hdec ha he
      go_wp2
      go_ret2
      exact ⟨by first | rfl | (rw [HE.out]; rfl), rfl⟩

end Go.Proofs.YtdmpbaanonafbaaGreatDoor.GivHex

/- strconv.ParseUint at base 16 and at base 10, 32 or 64 bits, in the print's form: what it answers of a good number; none elsewhere (nothing is claimed there). -/
set_option linter.unusedVariables false
set_option linter.unusedSimpArgs false
namespace Go.Proofs.YtdmpbaanonafbaaGreatDoor.GivPW
open Go.RowKit Go.Proofs.YtdmpbaanonafbaaGreatDoorW.PrintWords Go.Proofs.YtdmpbaanonafbaaGreatDoor.GivDec Go.Proofs.YtdmpbaanonafbaaGreatDoor.GivHex Go.Proofs.YtdmpbaanonafbaaGreatDoor.GivZ

set_option maxHeartbeats 32000000 in
set_option maxRecDepth 100000 in
theorem ParseUint_10_32 (t : ByteArray) (hne : t.size ≠ 0) (hmax : t.size ≤ 9223372036854775806) (v : Nat) (hv : decv 0 t.data.toList = some v) (hvm : v ≤ 4294967295) (w : World) :
    Calls Tryz.prog 159 #[.string t, .int .i64 10, .int .i64 32] w fun e w' => e = .returned (.tuple #[.int .u64 v, .nilIface]) ∧ Lib.bytesWorld w 5 t = w' := by
  have hemp : t.toList.isEmpty = false := by
    rw [← decide_eq_emptyBytes]
    exact decide_eq_false (fun h => hne (by rw [h]; rfl))
  have hcv := Lib.run_convert_string_bytes (P := Tryz.prog) w 9 152 5 t (u := .string) Tryz.underlying9 Tryz.underlying152 Tryz.underlying5
  have hB : ∀ j, j < t.size → (Lib.bytesWorld w 5 t).cell? ⟨w.heap.size, j, none⟩ = some (.int .u8 (t.data.toList.getD j 0).toNat) := fun j hj => Lib.bytesWorld_cell w 5 t j hj
  obtain ⟨W1, hW1⟩ : ∃ W1, W1 = Lib.bytesWorld w 5 t := ⟨_, rfl⟩
  rw [← hW1] at hcv hB ⊢
  clear hW1
  obtain ⟨bs, hL⟩ : ∃ bs, bs = t.data.toList := ⟨_, rfl⟩
  have hLn : bs.length = t.size := by rw [hL, Lib.size_eq]
  rw [← hL] at hB hv
  clear hL
  have HV := Lib.hid hv
  clear hv
  go_enter Tryz.func159, Tryz.ntmps159
  go_wp2
  go_loop [12, 13, 101] (fun vu vn vi => ∃ (k acc : Nat) (a : Int), vu = .bool false ∧ vn = .int .u64 a ∧ vi = .int .i64 k ∧ k ≤ t.size ∧ Hid (a = (acc : Int) ∧ decv acc (bs.drop k) = some v))
    (fun _ _ vi => t.size - (intOf vi).toNat)
  case atStart => exact ⟨0, 0, 0, rfl, rfl, rfl, by omega, rfl, HV.out⟩
  case round =>
    obtain ⟨k, acc, a, rfl, rfl, rfl, hk, hh⟩ := hrel
    obtain ⟨ha, hdec⟩ := hh.out
    clear hh
    have hacc := decv_le _ _ _ hdec
    have a0 : 0 ≤ a := by omega
    have a1 : a ≤ 4294967295 := by omega
    by_cases hkn : k < t.size
    · have hc := hB k hkn
      have hdrop : bs.drop k = bs[k]'(by omega) :: bs.drop (k + 1) := List.drop_eq_getElem_cons (by omega)
      have hget : bs.getD k 0 = bs[k]'(by omega) := by simp [List.getD, List.getElem?_eq_getElem (show k < bs.length by omega)]
      rw [hdrop] at hdec
      rw [hget] at hc
      generalize bs[k]'(by omega) = c at hc hdec
      have hc256 : c.toNat < 256 := c.toNat_lt
      clear hB hdrop hget
      rw [decv] at hdec
      by_cases hdig : 48 ≤ c.toNat ∧ c.toNat ≤ 57
      · rw [if_pos hdig] at hdec
        have hle := decv_le _ _ _ hdec
        obtain ⟨hd0, hd1⟩ := hdig
        have HN : Hid (a * 10 + ((c.toNat : Int) - 48) = ((acc * 10 + (c.toNat - 48) : Nat) : Int) ∧ decv (acc * 10 + (c.toNat - 48)) (bs.drop (k + 1)) = some v) := Lib.hid ⟨by omega, hdec⟩
        have icut : a < 1844674407370955162 := by omega
        have iov : a * 10 + ((c.toNat : Int) - 48) ≤ 4294967295 := by omega
        clear hdec hle hacc ha
        go_wp2
        refine ⟨⟨k + 1, acc * 10 + (c.toNat - 48), a * 10 + ((c.toNat : Int) - 48), rfl, (by first | rfl | (congr 1; omega)), (by first | rfl | (congr 1; omega)), by omega, HN⟩, by simp [intOf]; omega⟩
      · rw [if_neg hdig] at hdec; cases hdec
    · have hkk : k = t.size := by omega
      subst hkk
      rw [List.drop_eq_nil_of_le (by omega)] at hdec
      simp only [decv, Option.some.injEq] at hdec
      have he : a = (v : Int) := by omega
      have HE := Lib.hid he
      clear hacc a0 a1 hdec ha he
      go_wp2
      go_ret2
      exact ⟨by first | rfl | (rw [HE.out]; rfl), rfl⟩

set_option maxRecDepth 100000 in
theorem outer (t : ByteArray) (a1 a2 : Int) (v : Nat) (h : ∀ w, Calls Tryz.prog 159 #[.string t, .int .i64 a1, .int .i64 a2] w fun e w' => e = .returned (.tuple #[.int .u64 v, .nilIface]) ∧ Lib.bytesWorld w 5 t = w') (w : World) :
    Calls Tryz.prog 137 #[.string t, .int .i64 a1, .int .i64 a2] w fun e w' => e = .returned (.tuple #[.int .u64 v, .nilIface]) ∧ Below w.heap.size w w' := by
  have H := Lib.hid h
  clear h
  go_enter Tryz.func137, Tryz.ntmps137
  go_wp2_with (go_at_call 159; refine (H.out _).mono ?_; rintro e w' ⟨rfl, rfl⟩)
  go_ret2
  exact ⟨rfl, bytesWorld_below _ _ _⟩
def lim (v : Nat) (m : Nat) : Option (Int × Option Int) := if v ≤ m then some ((v : Int), none) else none
theorem lim_some {v m : Nat} {r1 : Int} {r2 : Option Int} (h : lim v m = some (r1, r2)) : v ≤ m ∧ r1 = v ∧ r2 = none := by
  unfold lim at h
  by_cases c : v ≤ m
  · rw [if_pos c] at h
    obtain ⟨rfl, rfl⟩ := Prod.mk.inj (Option.some.inj h)
    exact ⟨c, rfl, rfl⟩
  · rw [if_neg c] at h; cases h
/-- What strconv.ParseUint answers of a number. -/
def strconv_ParseU.f (a0 : ByteArray) (a1 a2 : Int) : Option (Int × Option Int) :=
  if 0 < a0.size ∧ a0.size ≤ 9223372036854775806 then
    (if a1 = 16 then (hexv 0 a0.data.toList).bind fun v => (if a2 = 32 then lim v 4294967295 else if a2 = 64 then lim v 18446744073709551615 else none)
    else if a1 = 10 then (decv 0 a0.data.toList).bind fun v => (if a2 = 32 then lim v 4294967295 else if a2 = 64 then lim v 18446744073709551615 else none) else none) else none
theorem strconv_ParseU.calls (a0 : ByteArray) (a1 a2 : Int) (r1 : Int) (r2 : Option Int) (w : World) (h : strconv_ParseU.f a0 a1 a2 = some (r1, r2)) :
    Calls Tryz.prog 137 #[.string a0, .int .i64 a1, .int .i64 a2] w fun e w' => e = .returned (.tuple #[.int .u64 r1, errW r2]) ∧ Below w.heap.size w w' := by
  unfold strconv_ParseU.f at h
  by_cases c : 0 < a0.size ∧ a0.size ≤ 9223372036854775806
  · rw [if_pos c] at h
    by_cases c16 : a1 = 16
    · rw [if_pos c16] at h
      subst c16
      obtain ⟨v, hv, h⟩ := Option.bind_eq_some_iff.1 h
      by_cases c32 : a2 = 32
      · rw [if_pos c32] at h
        obtain ⟨hl, rfl, rfl⟩ := lim_some h
        subst c32
        exact outer a0 16 32 v (fun w => ParseUint_16_32 a0 (by omega) c.2 v hv hl w) w
      · rw [if_neg c32] at h
        by_cases c64 : a2 = 64
        · rw [if_pos c64] at h
          obtain ⟨hl, rfl, rfl⟩ := lim_some h
          subst c64
          exact outer a0 16 64 v (fun w => ParseUint_16_64 a0 (by omega) c.2 v hv hl w) w
        · rw [if_neg c64] at h; cases h
    · rw [if_neg c16] at h
      by_cases c10 : a1 = 10
      · rw [if_pos c10] at h
        subst c10
        obtain ⟨v, hv, h⟩ := Option.bind_eq_some_iff.1 h
        by_cases c32 : a2 = 32
        · rw [if_pos c32] at h
          obtain ⟨hl, rfl, rfl⟩ := lim_some h
          subst c32
          exact outer a0 10 32 v (fun w => ParseUint_10_32 a0 (by omega) c.2 v hv hl w) w
        · rw [if_neg c32] at h
          by_cases c64 : a2 = 64
          · rw [if_pos c64] at h
            obtain ⟨hl, rfl, rfl⟩ := lim_some h
            subst c64
            exact outer a0 10 64 v (fun w => ParseUint_10_64 a0 (by omega) c.2 v hv hl w) w
          · rw [if_neg c64] at h; cases h
      · rw [if_neg c10] at h; cases h
  · rw [if_neg c] at h; cases h
end Go.Proofs.YtdmpbaanonafbaaGreatDoor.GivPW
