/- strconv.Atoi on texts of digits, fewer than 19. -/
import Derived.Test.YtdmpbaanonafbaaGreatDoorGivDec
import Derived.Test.YtdmpbaanonafbaaGreatDoorGivZ
import Derived.Lib.Hide
namespace Go.Proofs.YtdmpbaanonafbaaGreatDoor.AtoiOf
open Go.RowKit Go.Proofs.YtdmpbaanonafbaaGreatDoorW.PrintWords Go.Proofs.YtdmpbaanonafbaaGreatDoor.GivDec Go.Proofs.YtdmpbaanonafbaaGreatDoor.GivZ
set_option linter.unusedVariables false
set_option linter.unusedSimpArgs false
theorem decv_head (c : UInt8) (cs : List UInt8) (acc v : Nat) (h : decv acc (c :: cs) = some v) : 48 ≤ c.toNat ∧ c.toNat ≤ 57 := by
  rw [decv] at h
  by_cases hd : 48 ≤ c.toNat ∧ c.toNat ≤ 57
  · exact hd
  · rw [if_neg hd] at h; cases h
theorem drop_get (t : ByteArray) (k : Nat) (h : k < t.size) : t.data.toList.drop k = (t[k]'h) :: t.data.toList.drop (k + 1) :=
  List.drop_eq_getElem_cons (by rw [← Lib.size_eq]; exact h)
set_option maxHeartbeats 32000000 in
set_option maxRecDepth 100000 in
theorem iAtoi (t : ByteArray) (hne : 0 < t.size) (hlt : t.size < 19) (v : Nat) (hv : decv 0 t.data.toList = some v) (w : World) :
    Calls Tryz.prog 186 #[.string t] w fun e w' => e = .returned (.tuple #[.int .i64 v, .nilIface]) ∧ Lib.bytesWorld w 5 t = w' := by
  have hh0 : 48 ≤ (t[0]'hne).toNat ∧ (t[0]'hne).toNat ≤ 57 := by
    have hd0 := drop_get t 0 hne
    rw [List.drop_zero] at hd0
    rw [hd0] at hv
    exact decv_head _ _ _ _ hv
  have n43 : (((t[0]'hne).toNat : Int) == 43) = false := by simp; omega
  have n45 : (((t[0]'hne).toNat : Int) == 45) = false := by simp; omega
  have hs1 : (0 : Int) < t.size := by omega
  have hs2 : (t.size : Int) < 19 := by omega
  have hcv := Lib.run_convert_string_bytes (P := Tryz.prog) w 9 152 5 t (u := .string) Tryz.underlying9 Tryz.underlying152 Tryz.underlying5
  have hB : ∀ j, j < t.size → (Lib.bytesWorld w 5 t).cell? ⟨w.heap.size, j, none⟩ = some (.int .u8 (t.data.toList.getD j 0).toNat) := fun j hj => Lib.bytesWorld_cell w 5 t j hj
  obtain ⟨W1, hW1⟩ : ∃ W1, W1 = Lib.bytesWorld w 5 t := ⟨_, rfl⟩
  rw [← hW1] at hcv hB ⊢
  clear hW1 hh0
  obtain ⟨bs, hL⟩ : ∃ bs, bs = t.data.toList := ⟨_, rfl⟩
  have hLn : bs.length = t.size := by rw [hL, Lib.size_eq]
  rw [← hL] at hB hv
  clear hL
  have HV := Lib.hid hv
  clear hv
  go_enter Tryz.func186, Tryz.ntmps186
  go_wp2
  go_loop [6, 49] (fun vn vi => ∃ (k acc : Nat) (a : Int), vn = .int .i64 a ∧ vi = .int .i64 k ∧ k ≤ t.size ∧ Hid (a = (acc : Int) ∧ decv acc (bs.drop k) = some v ∧ acc < 10 ^ k))
    (fun _ vi => t.size - (intOf vi).toNat)
  case atStart => exact ⟨0, 0, 0, rfl, rfl, by omega, rfl, HV.out, by simp⟩
  case round =>
    obtain ⟨k, acc, a, rfl, rfl, hk, hh⟩ := hrel
    obtain ⟨ha, hdec, hacc⟩ := hh.out
    clear hh
    by_cases hkn : k < t.size
    · have hp : (10 : Nat) ^ k ≤ 10 ^ 17 := Nat.pow_le_pow_right (by decide) (by omega)
      have hp17 : (10 : Nat) ^ 17 = 100000000000000000 := by decide
      have hp2 : (10 : Nat) ^ (k + 1) = 10 ^ k * 10 := Nat.pow_succ 10 k
      have hc := hB k hkn
      have hdrop : bs.drop k = bs[k]'(by omega) :: bs.drop (k + 1) := List.drop_eq_getElem_cons (by omega)
      have hget : bs.getD k 0 = bs[k]'(by omega) := by simp [List.getD, List.getElem?_eq_getElem (show k < bs.length by omega)]
      rw [hdrop] at hdec
      rw [hget] at hc
      generalize bs[k]'(by omega) = c at hc hdec
      have hc256 : c.toNat < 256 := c.toNat_lt
      clear hB hdrop hget
      rw [decv] at hdec
      by_cases hdig : 48 ≤ c.toNat ∧ c.toNat ≤ 57
      · rw [if_pos hdig] at hdec
        obtain ⟨hd0, hd1⟩ := hdig
        have HN : Hid (a * 10 + ((c.toNat : Int) - 48) = ((acc * 10 + (c.toNat - 48) : Nat) : Int) ∧ decv (acc * 10 + (c.toNat - 48)) (bs.drop (k + 1)) = some v ∧ acc * 10 + (c.toNat - 48) < 10 ^ (k + 1)) := Lib.hid ⟨by omega, hdec, by omega⟩
        have a0 : 0 ≤ a := by omega
        have iov : a * 10 + ((c.toNat : Int) - 48) ≤ 1000000000000000000 := by omega
        have imu : a ≤ 100000000000000000 := by omega
        clear hdec ha hacc hp hp17 hp2
        go_wp2
        refine ⟨⟨k + 1, acc * 10 + (c.toNat - 48), a * 10 + ((c.toNat : Int) - 48), (by first | rfl | (congr 1; omega)), (by first | rfl | (congr 1; omega)), by omega, HN⟩, by simp [intOf]; omega⟩
      · rw [if_neg hdig] at hdec; cases hdec
    · have hkk : k = t.size := by omega
      subst hkk
      rw [List.drop_eq_nil_of_le (by omega)] at hdec
      simp only [decv, Option.some.injEq] at hdec
      have he : a = (v : Int) := by omega
      have HE := Lib.hid he
      clear hdec ha he hacc
      go_wp2
      go_ret2
      exact ⟨by first | rfl | (rw [HE.out]; rfl), rfl⟩
set_option maxRecDepth 100000 in
theorem sAtoi (t : ByteArray) (hne : 0 < t.size) (hlt : t.size < 19) (v : Nat) (hv : decv 0 t.data.toList = some v) (w : World) :
    Calls Tryz.prog 179 #[.string t] w fun e w' => e = .returned (.tuple #[.int .i64 v, .nilIface]) ∧ Below w.heap.size w w' := by
  have HC := Lib.hid (iAtoi t hne hlt v hv w)
  clear hv
  go_enter Tryz.func179, Tryz.ntmps179
  go_wp2_with (go_at_call 186; refine HC.out.mono ?_; rintro e w' ⟨rfl, rfl⟩)
  go_ret2
  exact ⟨rfl, bytesWorld_below _ _ _⟩
end Go.Proofs.YtdmpbaanonafbaaGreatDoor.AtoiOf
