/- internal/strconv's and strconv's ParseUint at base 10, 64 bits: what they answer where each sign is a decimal digit and the number fits; none elsewhere (nothing is claimed there). -/
import Derived.Test.YtdmpbaanonafbaaGreatDoorProg
import Derived.WalkKit
import Derived.WalkSpells
import Derived.KernelRfl
import Derived.Lib.Strings
import Derived.Lib.Walk
import Derived.Lib.ConvBytes
import Derived.Lib.Hide
import Derived.Laws.Strings3
import Derived.Laws.Closers25
import Derived.Laws.Closers25b
import Derived.BigCall
import Derived.BigGuard
import Derived.Test.YtdmpbaanonafbaaGreatDoorWWords
set_option linter.unusedVariables false
set_option linter.unusedSimpArgs false
namespace Go.Proofs.YtdmpbaanonafbaaGreatDoor.GivDec
open Go.RowKit Go.Proofs.YtdmpbaanonafbaaGreatDoorW.PrintWords

/-- A number's value, digit by digit; none: a sign that is no digit. -/
def decv : Nat → List UInt8 → Option Nat
  | acc, [] => some acc
  | acc, c :: cs => if 48 ≤ c.toNat ∧ c.toNat ≤ 57 then decv (acc * 10 + (c.toNat - 48)) cs else none
theorem decv_le : ∀ (l : List UInt8) (acc v : Nat), decv acc l = some v → acc ≤ v
  | [], acc, v, h => by simp [decv] at h; omega
  | c :: cs, acc, v, h => by
    rw [decv] at h
    by_cases hd : 48 ≤ c.toNat ∧ c.toNat ≤ 57
    · rw [if_pos hd] at h
      have := decv_le cs _ v h
      omega
    · rw [if_neg hd] at h; cases h

set_option maxHeartbeats 32000000 in
set_option maxRecDepth 100000 in
theorem ParseUint_10_64 (t : ByteArray) (hne : t.size ≠ 0) (hmax : t.size ≤ 9223372036854775806) (v : Nat) (hv : decv 0 t.data.toList = some v) (hvm : v ≤ 18446744073709551615) (w : World) :
    Calls Tryz.prog 159 #[.string t, .int .i64 10, .int .i64 64] w fun e w' => e = .returned (.tuple #[.int .u64 v, .nilIface]) ∧ Lib.bytesWorld w 5 t = w' := by
  have hemp : t.toList.isEmpty = false := by
    rw [← decide_eq_emptyBytes]
    exact decide_eq_false (fun h => hne (by rw [h]; rfl))
  have hcv := Lib.run_convert_string_bytes (P := Tryz.prog) w 9 152 5 t (u := .string) Tryz.underlying9 Tryz.underlying152 Tryz.underlying5
  have hB : ∀ j, j < t.size → (Lib.bytesWorld w 5 t).cell? ⟨w.heap.size, j, none⟩ = some (.int .u8 (t.data.toList.getD j 0).toNat) := fun j hj => Lib.bytesWorld_cell w 5 t j hj
  obtain ⟨W1, hW1⟩ : ∃ W1, W1 = Lib.bytesWorld w 5 t := ⟨_, rfl⟩
  rw [← hW1] at hcv hB ⊢
  clear hW1
  obtain ⟨bs, hL⟩ : ∃ bs, bs = t.data.toList := ⟨_, rfl⟩
  have hLn : bs.length = t.size := by rw [hL, Lib.size_eq]
  rw [← hL] at hB hv
  clear hL
  have HV := Lib.hid hv
  clear hv
  have hmv : IntKind.u64.wrap (IntKind.u64.wrap 18446744073709551616 - 1) = 18446744073709551615 := by
    rw [IntKind.wrap_u64, IntKind.wrap_u64]
    decide
  go_enter Tryz.func159, Tryz.ntmps159
  go_wp2
  go_loop [12, 13, 101] (fun vu vn vi => ∃ (k acc : Nat) (a : Int), vu = .bool false ∧ vn = .int .u64 a ∧ vi = .int .i64 k ∧ k ≤ t.size ∧ Hid (a = (acc : Int) ∧ decv acc (bs.drop k) = some v))
    (fun _ _ vi => t.size - (intOf vi).toNat)
  case atStart => exact ⟨0, 0, 0, rfl, rfl, rfl, by omega, rfl, HV.out⟩
  case round =>
    obtain ⟨k, acc, a, rfl, rfl, rfl, hk, hh⟩ := hrel
    obtain ⟨ha, hdec⟩ := hh.out
    clear hh
    have hacc := decv_le _ _ _ hdec
    have a0 : 0 ≤ a := by omega
    have a1 : a ≤ 18446744073709551615 := by omega
    by_cases hkn : k < t.size
    · have hc := hB k hkn
      have hdrop : bs.drop k = bs[k]'(by omega) :: bs.drop (k + 1) := List.drop_eq_getElem_cons (by omega)
      have hget : bs.getD k 0 = bs[k]'(by omega) := by simp [List.getD, List.getElem?_eq_getElem (show k < bs.length by omega)]
      rw [hdrop] at hdec
      rw [hget] at hc
      generalize bs[k]'(by omega) = c at hc hdec
      have hc256 : c.toNat < 256 := c.toNat_lt
      clear hB hdrop hget
      rw [decv] at hdec
      by_cases hdig : 48 ≤ c.toNat ∧ c.toNat ≤ 57
      · rw [if_pos hdig] at hdec
        have hle := decv_le _ _ _ hdec
        obtain ⟨hd0, hd1⟩ := hdig
        have HN : Hid (a * 10 + ((c.toNat : Int) - 48) = ((acc * 10 + (c.toNat - 48) : Nat) : Int) ∧ decv (acc * 10 + (c.toNat - 48)) (bs.drop (k + 1)) = some v) := Lib.hid ⟨by omega, hdec⟩
        have icut : a < 1844674407370955162 := by omega
        have iov : a * 10 + ((c.toNat : Int) - 48) ≤ 18446744073709551615 := by omega
        clear hdec hle hacc ha
        go_wp2
        refine ⟨⟨k + 1, acc * 10 + (c.toNat - 48), a * 10 + ((c.toNat : Int) - 48), rfl, (by first | rfl | (congr 1; omega)), (by first | rfl | (congr 1; omega)), by omega, HN⟩, by simp [intOf]; omega⟩
      · rw [if_neg hdig] at hdec; cases hdec
    · have hkk : k = t.size := by omega
      subst hkk
      rw [List.drop_eq_nil_of_le (by omega)] at hdec
      simp only [decv, Option.some.injEq] at hdec
      have he : a = (v : Int) := by omega
      have HE := Lib.hid he
      clear hacc a0 a1 hdec ha he
      go_wp2
      go_ret2
      exact ⟨by first | rfl | (rw [HE.out]; rfl), rfl⟩

end Go.Proofs.YtdmpbaanonafbaaGreatDoor.GivDec
