/- spec.upper by hand, in the print's form: a number in hexadecimal digits, large letters. -/
import Derived.Test.YtdmpbaanonafbaaGreatDoorR1
import Derived.Test.YtdmpbaanonafbaaGreatDoorPlain
import Derived.Test.YtdmpbaanonafbaaGreatDoorPlz
import Derived.Test.YtdmpbaanonafbaaGreatDoorGivZ
import Derived.Deep.LoopGhost
import Derived.Tactics
import Derived.Tactics2
import Derived.Lib.Hide
namespace Go.Proofs.YtdmpbaanonafbaaGreatDoor.Upper
open Go.RowKit Go.Proofs.YtdmpbaanonafbaaGreatDoorW.PrintWords Go.Proofs.YtdmpbaanonafbaaGreatDoorW.PrintLast Go.Proofs.YtdmpbaanonafbaaGreatDoor.GivZ Go.Proofs.YtdmpbaanonafbaaGreatDoorW.PrintMore Go.Proofs.YtdmpbaanonafbaaGreatDoorPt Go.Proofs.YtdmpbaanonafbaaGreatDoor.R
set_option linter.unusedVariables false
set_option linter.unusedSimpArgs false
def upc (c : UInt8) : UInt8 := if 97 ≤ c.toNat then c - 32 else c
def upB (s : ByteArray) : ByteArray := toB (s.data.toList.map upc)
theorem upB_data (s : ByteArray) : (upB s).data.toList = s.data.toList.map upc := toB_data _
theorem upB_size (s : ByteArray) : (upB s).size = s.size := by rw [← len_data, upB_data, List.length_map, len_data]
/-- What spec.upper answers. -/
def spec_upper.f (k : Nat) (a0 a1 : Int) : Option ByteArray := (spec_Padded.f k a0 16 a1).bind fun s => if s.size ≤ 1000000 then some (upB s) else none
theorem spec_upper.mono : ∀ a0 a1 k, LeO (spec_upper.f k a0 a1) (spec_upper.f (k + 1) a0 a1) := by
  intro a0 a1 k r h
  unfold spec_upper.f at h ⊢
  obtain ⟨s, hs, h⟩ := Option.bind_eq_some_iff.1 h
  rw [spec_Padded.mono a0 16 a1 k s hs, Option.bind_some]
  exact h
theorem bw_frozen (w : World) (e : TypeId) (s : ByteArray) (j : Nat) (hj : j < s.size) : (Lib.bytesWorld w e s).frozen? ⟨w.heap.size, j, none⟩ = false := by
  have hs : s.size ≤ (Lib.bytesCells w e s).size := by
    unfold Lib.bytesCells
    rw [Array.size_append, Array.size_map]
    have : s.data.size = s.size := rfl
    omega
  unfold World.frozen?
  rw [Lib.bytesWorld_at_new]
  simp
  omega
/-- A block's bytes, of which the first i are turned. -/
def At (s : ByteArray) (g i : Nat) (w : World) : Prop := ∀ j, j < s.size → w.cell? ⟨g, j, none⟩ = some (.int .u8 ((if j < i then upc (s.data.toList.getD j 0) else s.data.toList.getD j 0).toNat : Int)) ∧ w.frozen? ⟨g, j, none⟩ = false
theorem At.C {s : ByteArray} {g : Nat} {w : World} (h : At s g s.size w) (hs : s.size ≤ 1000000) : Kd.C (Kd.int .u8) w (some ⟨g, 0, none⟩) s.size (bytesOf (upB s)) := by
  have hl : (bytesOf (upB s)).length = s.size := by rw [bytesOf_length, upB_size]
  refine ⟨hl, by omega, fun _ => ⟨_, rfl, fun j p hp => ⟨[.int .u8 p], rfl, rfl, fun i u hu => ?_⟩⟩⟩
  have hj : j < (bytesOf (upB s)).length := (List.getElem?_eq_some_iff.1 hp).1
  rw [hl] at hj
  cases i with
  | succ i => simp at hu
  | zero =>
    obtain rfl : Value.int .u8 p = u := by simpa using hu
    rw [add_plain]
    have e1 : (Kd.int .u8).sz = 1 := rfl
    rw [e1, Nat.mul_one, Nat.add_zero]
    (try rw [Nat.zero_add])
    rw [(h j hj).1, if_pos hj]
    have h2 := (List.getElem?_eq_some_iff.1 hp).2
    have hj2 : j < s.data.toList.length := by rw [len_data]; exact hj
    have : p = ((upc (s.data.toList[j]'hj2)).toNat : Int) := by rw [← h2]; simp [bytesOf, upB, toB]
    rw [this]
    simp [List.getD_eq_getElem?_getD, List.getElem?_eq_getElem hj2]
set_option maxHeartbeats 8000000 in
set_option maxRecDepth 100000 in
theorem spec_upper.calls (k : Nat) (a0 a1 : Int) (r : ByteArray) (w : World) (h : spec_upper.f k a0 a1 = some r) :
    Calls Tryz.prog 99 #[.int .u64 a0, .int .i64 a1] w fun e w' => e = .returned (.string r) ∧ Below w.heap.size w w' := by
  unfold spec_upper.f at h
  obtain ⟨s, hp, h⟩ := Option.bind_eq_some_iff.1 h
  by_cases c : s.size ≤ 1000000
  case neg => rw [if_neg c] at h; cases h
  rw [if_pos c] at h
  obtain rfl := Option.some.inj h
  have HP := Aside0.mk hp
  clear hp h
  have HB := Aside0.mk (Below.refl w.heap.size w)
  go_enter Tryz.func99, Tryz.ntmps99
  go_wp2_with fail
  refine (spec_Padded.calls k a0 16 a1 s _ HP.out).mono ?_
  rintro e w2 ⟨rfl, hb⟩
  have hcv := Lib.run_convert_string_bytes (P := Tryz.prog) w2 9 152 5 s (u := .string) Tryz.underlying9 Tryz.underlying152 Tryz.underlying5
  have HA := Aside0.mk (show At s w2.heap.size 0 (Lib.bytesWorld w2 5 s) from fun j hj => ⟨by rw [Lib.bytesWorld_cell w2 5 s j hj, if_neg (Nat.not_lt_zero _)], bw_frozen w2 _ s j hj⟩)
  have HG := Aside0.mk (show w.heap.size ≤ w2.heap.size from below_size (below_step HB.out hb))
  have n0 := Aside0.mk (below_step (below_step HB.out hb) (bytesWorld_below w2 5 s)); clear HB; have HB := n0; clear n0 hb
  generalize Lib.bytesWorld w2 5 s = W1 at hcv HA HB
  generalize grownCap w2 s.size 0 5 = cp at hcv
  go_wp2_with fail
  generalize w2.heap.size = g at HA HG ⊢
  clear hcv
  go_loopg [13] (s.size + 1) (fun kq v13 w' => ∃ (i : Nat), v13 = .int .i64 (i : Int) ∧ Aside0 (i ≤ s.size) ∧ Aside0 (s.size + 1 - i ≤ kq) ∧ Aside0 (At s g i w') ∧ Aside0 (Below w.heap.size w w'))
  case atStart => exact ⟨0, rfl, ⟨Nat.zero_le _⟩, ⟨by omega⟩, HA, HB⟩
  case round =>
    obtain ⟨i, rfl, hi0, hk, hat, hbw⟩ := hrel
    clear HA HB
    have hi := hi0.out
    by_cases hlt : i < s.size
    · have hx := hat.out i hlt
      rw [if_neg (Nat.lt_irrefl _)] at hx
      obtain ⟨hc, hf⟩ := hx
      obtain ⟨ch, hch⟩ : ∃ ch, ch = s.data.toList.getD i 0 := ⟨_, rfl⟩
      rw [← hch] at hc
      have HCH := Lib.hid hch
      have hch256 := ch.toNat_lt
      clear hch
      have LT := Aside0.mk hlt
      have p1 : (i : Int) < (s.size : Int) := by omega
      by_cases h97 : 97 ≤ ch.toNat
      · have hw : IntKind.u8.wrap ((ch.toNat : Int) - 32) = (ch.toNat : Int) - 32 := by rw [IntKind.wrap_u8]; omega
        have hge : (97 : Int) ≤ (ch.toNat : Int) := by omega
        have hu : ((upc ch).toNat : Int) = (ch.toNat : Int) - 32 := by
          unfold upc
          rw [if_pos h97, UInt8.toNat_sub_of_le _ _ (by rw [UInt8.le_iff_toNat_le]; show 32 ≤ _; omega)]
          show ((ch.toNat - 32 : Nat) : Int) = _
          omega
        go_wp2_with fail
        have hlk := hk.out
        have hlt := LT.out
        go_roundg (s.size - i)
        case measure => omega
        case rel =>
          refine ⟨i + 1, by first | rfl | (congr 1; omega), ⟨by omega⟩, ⟨by omega⟩, ⟨fun j hj => ?_⟩, ⟨below_set hbw.out HG.out⟩⟩
          have h2 := hat.out j hj
          by_cases e : j = i
          · subst e
            rw [if_pos (Nat.lt_succ_self _), ← HCH.out, hu]
            exact ⟨World.cell?_setCell_same _ _ _ hc, by rw [World.frozen?_setCell]; exact h2.2⟩
          · rw [World.cell?_setCell_other _ _ _ _ (show (⟨g, i, none⟩ : Addr) ≠ ⟨g, j, none⟩ from fun h => e (congrArg Addr.off h).symm), World.frozen?_setCell]
            have e2 : (j < i + 1) = (j < i) := by rw [eq_iff_iff]; omega
            simp only [e2]
            exact h2
      · have hge : ¬ (97 : Int) ≤ (ch.toNat : Int) := by omega
        have hu : upc ch = ch := by unfold upc; rw [if_neg h97]
        go_wp2_with fail
        have hlk := hk.out
        have hlt := LT.out
        go_roundg (s.size - i)
        case measure => omega
        case rel =>
          refine ⟨i + 1, by first | rfl | (congr 1; omega), ⟨by omega⟩, ⟨by omega⟩, ⟨fun j hj => ?_⟩, hbw⟩
          have h2 := hat.out j hj
          by_cases e : j = i
          · subst e
            rw [if_pos (Nat.lt_succ_self _), ← HCH.out, hu]
            exact ⟨hc, h2.2⟩
          · have e2 : (j < i + 1) = (j < i) := by rw [eq_iff_iff]; omega
            simp only [e2]
            exact h2
    · have hh : i = s.size := by omega
      subst hh
      have hcv2 := Kd.C_string (P := Tryz.prog) (A := some ⟨g, 0, none⟩) (c := cp) Tryz.underlying152 Tryz.underlying5 Tryz.underlying9 (At.C hat.out c)
      rw [Plz.ofNums_bytes] at hcv2
      go_wp2_with fail
      go_ret
      exact ⟨rfl, by first | exact hbw.out | exact below_drew1 hbw.out | exact pw_below_drewN hbw.out _⟩
end Go.Proofs.YtdmpbaanonafbaaGreatDoor.Upper
