-- written by a program of this session (wip/tools/pp.py)
import Derived.Test.YtdmpbaanonafbaaGreatDoorI1
namespace Go.Proofs.YtdmpbaanonafbaaGreatDoor.I
open Go.RowKit Go.Proofs.YtdmpbaanonafbaaGreatDoorW.PrintWords Go.Proofs.YtdmpbaanonafbaaGreatDoorW.PrintLast Go.Proofs.YtdmpbaanonafbaaGreatDoor.Flt Go.Proofs.YtdmpbaanonafbaaGreatDoor.GivZ Go.Proofs.YtdmpbaanonafbaaGreatDoor.E Go.Proofs.YtdmpbaanonafbaaGreatDoor.L Go.Proofs.YtdmpbaanonafbaaGreatDoor.V Go.Proofs.YtdmpbaanonafbaaGreatDoor.DoorBd Go.Proofs.YtdmpbaanonafbaaGreatDoor.Lives Go.Proofs.YtdmpbaanonafbaaGreatDoor.R Go.Proofs.YtdmpbaanonafbaaGreatDoorW.PrintMore
attribute [local go_sem] max2_int min2_int max_two min_two max_three min_three max_four min_four   -- for this text's walks alone
set_option linter.unusedVariables false
set_option linter.unusedSimpArgs false
theorem sz1i2_ (c : UInt8) : (⟨#[c]⟩ : ByteArray).size = 1 := rfl
theorem sz3i2_ (a b c : UInt8) : (⟨#[a, b, c]⟩ : ByteArray).size = 3 := rfl
theorem sz5i2_ (a b c d e : UInt8) : (⟨#[a, b, c, d, e]⟩ : ByteArray).size = 5 := rfl
theorem sz7i2_ (a b c d e f g : UInt8) : (⟨#[a, b, c, d, e, f, g]⟩ : ByteArray).size = 7 := rfl

/-! ### spec_BuddyinfoPrint: function 16 -/
mutual
def spec_BuddyinfoPrint.l0 : Nat → List (S48) → ByteArray → List (S48) → Int → Int → Option (ByteArray × Int)
 | 0, _, _, _, _, _ => none
 | k + 1, x0, x4, x9, x10, x11 => if x11 < x10 then (if 0 ≤ x11 then (if x11 < (x9.length : Int) then (if (((rd_T48 x9 x11).f2).length : Int) = 2 then ((spec_words.f k ((rd_T48 x9 x11).f2)).bind fun t105 => (if t105 = true then (if 0 < (((rd_T48 x9 x11).f2).length : Int) then ((spec_Where.f k (rdOf ByteArray.empty ((rd_T48 x9 x11).f2) 0) 44).bind fun t107 => (if t107 ≥ 0 then (spec_BuddyinfoPrint.j1 k x0 x4 x9 x10 x11 true ((rd_T48 x9 x11).f0) ((rd_T48 x9 x11).f1) ((rd_T48 x9 x11).f2)) else (if 1 < (((rd_T48 x9 x11).f2).length : Int) then ((spec_Where.f k (rdOf ByteArray.empty ((rd_T48 x9 x11).f2) 1) 44).bind fun t109 => (if t109 ≥ 0 then (spec_BuddyinfoPrint.j1 k x0 x4 x9 x10 x11 true ((rd_T48 x9 x11).f0) ((rd_T48 x9 x11).f1) ((rd_T48 x9 x11).f2)) else (if (((rd_T48 x9 x11).f1).length : Int) < 1 then (none) else (if 0 < (x0.length : Int) then (if (((rd_T48 x9 x11).f1).length : Int) = (((rd_T48 x0 0).f1).length : Int) then ((spec_small.f k 1099511627776 ((rd_T48 x9 x11).f1)).bind fun t111 => (spec_BuddyinfoPrint.j1 k x0 x4 x9 x10 x11 (!t111) ((rd_T48 x9 x11).f0) ((rd_T48 x9 x11).f1) ((rd_T48 x9 x11).f2))) else (spec_BuddyinfoPrint.j1 k x0 x4 x9 x10 x11 true ((rd_T48 x9 x11).f0) ((rd_T48 x9 x11).f1) ((rd_T48 x9 x11).f2))) else (none))))) else (none)))) else (none)) else (spec_BuddyinfoPrint.j1 k x0 x4 x9 x10 x11 true ((rd_T48 x9 x11).f0) ((rd_T48 x9 x11).f1) ((rd_T48 x9 x11).f2)))) else (none)) else (none)) else (none)) else (some (x4, 1))
def spec_BuddyinfoPrint.j1 : Nat → List (S48) → ByteArray → List (S48) → Int → Int → Bool → ByteArray → List Int → List ByteArray → Option (ByteArray × Int)
 | 0, _, _, _, _, _, _, _, _, _ => none
 | k + 1, x0, x4, x9, x10, x11, x63, x105000, x105001, x105002 => if x63 = true then (some ((⟨#[]⟩ : ByteArray), 2)) else (if 0 < (x105002.length : Int) then (if 5 + (rdOf ByteArray.empty x105002 0).size ≤ 9223372036854775807 then (if ((⟨#[78, 111, 100, 101, 32]⟩ : ByteArray) ++ (rdOf ByteArray.empty x105002 0)).size + 7 ≤ 9223372036854775807 then (if 1 < (x105002.length : Int) then ((spec_Right.f k (rdOf ByteArray.empty x105002 1) 8).bind fun t114 => (if (((⟨#[78, 111, 100, 101, 32]⟩ : ByteArray) ++ (rdOf ByteArray.empty x105002 0)) ++ (⟨#[44, 32, 122, 111, 110, 101, 32]⟩ : ByteArray)).size + t114.size ≤ 9223372036854775807 then (if ((((⟨#[78, 111, 100, 101, 32]⟩ : ByteArray) ++ (rdOf ByteArray.empty x105002 0)) ++ (⟨#[44, 32, 122, 111, 110, 101, 32]⟩ : ByteArray)) ++ t114).size + 1 ≤ 9223372036854775807 then (if x4.size + (((((⟨#[78, 111, 100, 101, 32]⟩ : ByteArray) ++ (rdOf ByteArray.empty x105002 0)) ++ (⟨#[44, 32, 122, 111, 110, 101, 32]⟩ : ByteArray)) ++ t114) ++ (⟨#[32]⟩ : ByteArray)).size ≤ 9223372036854775807 then (spec_BuddyinfoPrint.l1 k x0 (x4 ++ (((((⟨#[78, 111, 100, 101, 32]⟩ : ByteArray) ++ (rdOf ByteArray.empty x105002 0)) ++ (⟨#[44, 32, 122, 111, 110, 101, 32]⟩ : ByteArray)) ++ t114) ++ (⟨#[32]⟩ : ByteArray))) x9 x10 x11 x105001 (x105001.length : Int) 0) else (none)) else (none)) else (none))) else (none)) else (none)) else (none)) else (none))
def spec_BuddyinfoPrint.l1 : Nat → List (S48) → ByteArray → List (S48) → Int → Int → List Int → Int → Int → Option (ByteArray × Int)
 | 0, _, _, _, _, _, _, _, _ => none
 | k + 1, x0, x4, x9, x10, x11, x80, x81, x82 => if x82 < x81 then (if 0 ≤ x82 then (if x82 < (x80.length : Int) then ((spec_Text.f k (rd x80 x82)).bind fun t116 => ((spec_Right.f k t116 6).bind fun t117 => (if t117.size + 1 ≤ 9223372036854775807 then (if x4.size + (t117 ++ (⟨#[32]⟩ : ByteArray)).size ≤ 9223372036854775807 then (spec_BuddyinfoPrint.l1 k x0 (x4 ++ (t117 ++ (⟨#[32]⟩ : ByteArray))) x9 x10 x11 x80 x81 (wrap64 (x82 + 1))) else (none)) else (none)))) else (none)) else (none)) else (if x4.size + 1 ≤ 9223372036854775807 then (spec_BuddyinfoPrint.l0 k x0 (x4 ++ (⟨#[10]⟩ : ByteArray)) x9 x10 (wrap64 (x11 + 1))) else (none))
end
def spec_BuddyinfoPrint.f (k : Nat) (l0 : List (S48)) : Option (ByteArray × Int) := spec_BuddyinfoPrint.l0 k l0 (⟨#[]⟩ : ByteArray) l0 (l0.length : Int) 0
theorem spec_BuddyinfoPrint.mono_l : ∀ k, (∀ y0 y1 y2 y3 y4, LeO (spec_BuddyinfoPrint.l0 k y0 y1 y2 y3 y4) (spec_BuddyinfoPrint.l0 (k + 1) y0 y1 y2 y3 y4)) ∧ (∀ y0 y1 y2 y3 y4 y5 y6 y7 y8, LeO (spec_BuddyinfoPrint.j1 k y0 y1 y2 y3 y4 y5 y6 y7 y8) (spec_BuddyinfoPrint.j1 (k + 1) y0 y1 y2 y3 y4 y5 y6 y7 y8)) ∧ (∀ y0 y1 y2 y3 y4 y5 y6 y7, LeO (spec_BuddyinfoPrint.l1 k y0 y1 y2 y3 y4 y5 y6 y7) (spec_BuddyinfoPrint.l1 (k + 1) y0 y1 y2 y3 y4 y5 y6 y7))
 | 0 => ⟨fun _ _ _ _ _ r h => by simp [spec_BuddyinfoPrint.l0] at h, fun _ _ _ _ _ _ _ _ _ r h => by simp [spec_BuddyinfoPrint.j1] at h, fun _ _ _ _ _ _ _ _ r h => by simp [spec_BuddyinfoPrint.l1] at h⟩
 | k + 1 => by
  obtain ⟨ih0, ih1, ih2⟩ := spec_BuddyinfoPrint.mono_l k
  refine ⟨?_, ?_, ?_⟩
  ·intro y0 y1 y2 y3 y4
   unfold spec_BuddyinfoPrint.l0
   repeat' first
   | (with_reducible exact ih0 _ _ _ _ _)
   | (with_reducible exact ih1 _ _ _ _ _ _ _ _ _)
   | (with_reducible exact ih2 _ _ _ _ _ _ _ _)
   | (with_reducible exact spec_Right.mono _ _ _)
   | (with_reducible exact spec_Text.mono _ _)
   | (with_reducible exact spec_Where.mono _ _ _)
   | (with_reducible exact spec_small.mono _ _ _)
   | (with_reducible exact spec_words.mono _ _)
   | (with_reducible exact LeO.refl _)
   | (with_reducible exact LeO.none _)
   | (with_reducible refine LeO.ite ?_ ?_)
   | (with_reducible refine LeO.bind ?_ (fun _ => ?_))
   | exact ih0 _ _ _ _ _
   | exact ih1 _ _ _ _ _ _ _ _ _
   | exact ih2 _ _ _ _ _ _ _ _
   | exact spec_Right.mono _ _ _
   | exact spec_Text.mono _ _
   | exact spec_Where.mono _ _ _
   | exact spec_small.mono _ _ _
   | exact spec_words.mono _ _
   | exact LeO.none _
   | refine LeO.ite ?_ ?_
   | refine LeO.bind ?_ (fun _ => ?_)
  ·intro y0 y1 y2 y3 y4 y5 y6 y7 y8
   unfold spec_BuddyinfoPrint.j1
   repeat' first
   | (with_reducible exact ih0 _ _ _ _ _)
   | (with_reducible exact ih1 _ _ _ _ _ _ _ _ _)
   | (with_reducible exact ih2 _ _ _ _ _ _ _ _)
   | (with_reducible exact spec_Right.mono _ _ _)
   | (with_reducible exact spec_Text.mono _ _)
   | (with_reducible exact spec_Where.mono _ _ _)
   | (with_reducible exact spec_small.mono _ _ _)
   | (with_reducible exact spec_words.mono _ _)
   | (with_reducible exact LeO.refl _)
   | (with_reducible exact LeO.none _)
   | (with_reducible refine LeO.ite ?_ ?_)
   | (with_reducible refine LeO.bind ?_ (fun _ => ?_))
   | exact ih0 _ _ _ _ _
   | exact ih1 _ _ _ _ _ _ _ _ _
   | exact ih2 _ _ _ _ _ _ _ _
   | exact spec_Right.mono _ _ _
   | exact spec_Text.mono _ _
   | exact spec_Where.mono _ _ _
   | exact spec_small.mono _ _ _
   | exact spec_words.mono _ _
   | exact LeO.none _
   | refine LeO.ite ?_ ?_
   | refine LeO.bind ?_ (fun _ => ?_)
  ·intro y0 y1 y2 y3 y4 y5 y6 y7
   unfold spec_BuddyinfoPrint.l1
   repeat' first
   | (with_reducible exact ih0 _ _ _ _ _)
   | (with_reducible exact ih1 _ _ _ _ _ _ _ _ _)
   | (with_reducible exact ih2 _ _ _ _ _ _ _ _)
   | (with_reducible exact spec_Right.mono _ _ _)
   | (with_reducible exact spec_Text.mono _ _)
   | (with_reducible exact spec_Where.mono _ _ _)
   | (with_reducible exact spec_small.mono _ _ _)
   | (with_reducible exact spec_words.mono _ _)
   | (with_reducible exact LeO.refl _)
   | (with_reducible exact LeO.none _)
   | (with_reducible refine LeO.ite ?_ ?_)
   | (with_reducible refine LeO.bind ?_ (fun _ => ?_))
   | exact ih0 _ _ _ _ _
   | exact ih1 _ _ _ _ _ _ _ _ _
   | exact ih2 _ _ _ _ _ _ _ _
   | exact spec_Right.mono _ _ _
   | exact spec_Text.mono _ _
   | exact spec_Where.mono _ _ _
   | exact spec_small.mono _ _ _
   | exact spec_words.mono _ _
   | exact LeO.none _
   | refine LeO.ite ?_ ?_
   | refine LeO.bind ?_ (fun _ => ?_)
theorem spec_BuddyinfoPrint.mono : ∀ a0 k, LeO (spec_BuddyinfoPrint.f k a0) (spec_BuddyinfoPrint.f (k + 1) a0) := by
 intro a0 k
 obtain ⟨ih0, ih1, ih2⟩ := spec_BuddyinfoPrint.mono_l k
 unfold spec_BuddyinfoPrint.f
 repeat' first
   | (with_reducible exact ih0 _ _ _ _ _)
   | (with_reducible exact ih1 _ _ _ _ _ _ _ _ _)
   | (with_reducible exact ih2 _ _ _ _ _ _ _ _)
   | (with_reducible exact spec_Right.mono _ _ _)
   | (with_reducible exact spec_Text.mono _ _)
   | (with_reducible exact spec_Where.mono _ _ _)
   | (with_reducible exact spec_small.mono _ _ _)
   | (with_reducible exact spec_words.mono _ _)
   | (with_reducible exact LeO.refl _)
   | (with_reducible exact LeO.none _)
   | (with_reducible refine LeO.ite ?_ ?_)
   | (with_reducible refine LeO.bind ?_ (fun _ => ?_))
   | exact ih0 _ _ _ _ _
   | exact ih1 _ _ _ _ _ _ _ _ _
   | exact ih2 _ _ _ _ _ _ _ _
   | exact spec_Right.mono _ _ _
   | exact spec_Text.mono _ _
   | exact spec_Where.mono _ _ _
   | exact spec_small.mono _ _ _
   | exact spec_words.mono _ _
   | exact LeO.none _
   | refine LeO.ite ?_ ?_
   | refine LeO.bind ?_ (fun _ => ?_)
def spec_BuddyinfoPrint.T5 : Bool × List (List Nat × List Nat) := (true, [([], []), ([0], [0]), ([1], [1]), ([2], [2]), ([3], [3]), ([4], [4]), ([5, 4], [4, 5]), ([6, 4, 4], [4, 6]), ([7, 4], [4, 7]), ([4, 8], [4, 8]), ([9, 7], [9]), ([10], [10]), ([11, 10], [10, 11]), ([12, 10], [10, 12]), ([13, 10], [10, 13]), ([14, 10, 10], [10, 14]), ([15, 10], [10, 15]), ([10, 16], [10, 16]), ([17, 15], [17]), ([18], [18]), ([19, 18], [18, 19]), ([20, 18], [18, 20]), ([21, 18], [18, 21]), ([22, 18, 18], [18, 22]), ([23, 18], [18, 23]), ([18, 24], [18, 24]), ([25, 23], [25]), ([26], [26]), ([27, 26], [26, 27]), ([28, 26], [26, 28]), ([29, 26], [26, 29]), ([26, 30], [26, 30]), ([31, 26], [31]), ([32], [32]), ([33, 32], [32, 33]), ([34, 32], [32, 34]), ([32], [32]), ([36, 32], [32, 36]), ([37, 32], [32, 37]), ([38, 32], [32, 38]), ([39, 32], [32, 39]), ([35, 40, 32], [32, 35, 40]), ([32, 41], [32, 41]), ([42, 32], [42]), ([43], [43]), ([44, 43], [43, 44]), ([45, 43, 43], [43, 45]), ([46, 43], [43, 46]), ([43, 47], [43, 47])])
def spec_BuddyinfoPrint.B5 : List Nat := [0, 1, 3, 7, 15, 31, 63, 127, 255, 511, 1023, 2047, 4095, 8191, 16383, 32767, 65535, 131071, 262143, 524287, 1048575, 2097151, 4194303, 8388607, 16777215, 33554431, 67108863, 134217727, 268435455, 536870911, 1073741823, 2147483647, 4294967295, 8589934591, 17179869183, 34359738367, 8589934591, 77309411327, 214748364799, 489626271743, 1039382085631, 2199023255551, 4398046511103, 8796093022207, 17592186044415, 35184372088831, 70368744177663, 140737488355327, 281474976710655]
theorem spec_BuddyinfoPrint.tab5 : rtab .any (opsOf Tryz.f16 5) = spec_BuddyinfoPrint.T5 := by kernel_rfl
theorem spec_BuddyinfoPrint.bits5 : waitsOk spec_BuddyinfoPrint.T5.2 spec_BuddyinfoPrint.B5 = true := by kernel_rfl
def spec_BuddyinfoPrint.T7 : Bool × List (List Nat × List Nat) := (true, [([], []), ([], []), ([1], [1]), ([2], [2]), ([3], [3]), ([4], [4]), ([5], [5]), ([], []), ([7], [7]), ([8], [8]), ([9], [9]), ([10], [10]), ([6, 11], [6, 11]), ([12], [12]), ([0, 13], [0, 13]), ([14, 11, 0, 1, 2, 3, 4, 5, 6, 7, 8, 9, 10, 11, 12, 13, 14], [0, 14])])
def spec_BuddyinfoPrint.B7 : List Nat := [0, 0, 2, 6, 14, 30, 62, 0, 128, 384, 896, 1920, 4094, 8190, 16383, 32767]
theorem spec_BuddyinfoPrint.tab7 : rtab .any (opsOf Tryz.f16 7) = spec_BuddyinfoPrint.T7 := by kernel_rfl
theorem spec_BuddyinfoPrint.bits7 : waitsOk spec_BuddyinfoPrint.T7.2 spec_BuddyinfoPrint.B7 = true := by kernel_rfl
set_option maxHeartbeats 8000000 in
set_option maxRecDepth 100000 in
theorem spec_BuddyinfoPrint.calls (k : Nat) (A0 : Option Addr) (c0 : Nat) (l0 : List (S48)) (r1 : ByteArray) (r2 : Int) (w : World) (hr0 : Kd.C k48 w A0 l0.length l0) (hc0 : l0.length ≤ c0) (h : spec_BuddyinfoPrint.f k l0 = some (r1, r2)) :
  Calls Tryz.prog 16 #[.slice A0 l0.length c0] w fun e w' => e = .returned (.tuple #[.string r1, .int .i64 r2]) ∧ Below w.heap.size w w' := by
 have hu48 := Tryz.underlying48
 have HR0 := Aside0.mk hr0
 have HC0 := Aside0.mk hc0
 clear hr0 hc0
 have HB := Aside0.mk (Below.refl w.heap.size w)
 have H : (spec_BuddyinfoPrint.l0 k l0 (⟨#[]⟩ : ByteArray) l0 (l0.length : Int) 0) = some (r1, r2) := h
 clear h
 have H' := Aside0.mk H
 clear H
 go_enter Tryz.func16, Tryz.ntmps16
 go_wp2
 go_loopg [4, 11] k (fun kq v4 v11 w' => ∃ (x4_1 : ByteArray) (x11_1 : Int), v4 = .string x4_1 ∧ v11 = .int .i64 x11_1 ∧ Aside0 (spec_BuddyinfoPrint.l0 kq l0 x4_1 l0 (l0.length : Int) x11_1 = some (r1, r2)) ∧ Aside0 (kq ≤ k) ∧ Aside0 (Below w.heap.size w w'))
 case atStart => exact ⟨((⟨#[]⟩ : ByteArray)), (0), (by first | rfl | (simp; done) | (simp [*]; done) | (simp [bne_nil]; done) | (simp [bne_nil, *]; done)), (by first | rfl | (simp; done) | (simp [*]; done) | (simp [bne_nil]; done) | (simp [bne_nil, *]; done)), H', ⟨Nat.le_refl _⟩, ⟨by repeat (first | (with_reducible first | exact HB.out | apply below_alloc | apply pw_below_drewN | apply below_drew1) | exact HB.out)⟩⟩
 case round =>
  clear H'
  try clear c1
  obtain ⟨x4_1, x11_1, rfl, rfl, HA, HK1, HB⟩ := hrel
  cases gk with
  | zero => exact absurd HA.out (by simp [spec_BuddyinfoPrint.l0])
  | succ k1 =>
   have H := HA.out
   clear HA
   simp only [spec_BuddyinfoPrint.l0] at H
   by_cases c2 : x11_1 < (l0.length : Int)
   ·rw [if_pos c2] at H
    have c2b0 : decide (x11_1 < (l0.length : Int)) = true := decide_eq_true c2
    clear c2
    by_cases c3 : 0 ≤ x11_1
    ·rw [if_pos c3] at H
     have c3b0 : decide (0 ≤ x11_1) = true := decide_eq_true c3
     clear c3
     by_cases c4 : x11_1 < (l0.length : Int)
     ·rw [if_pos c4] at H
      have c4b0 : decide (x11_1 < (l0.length : Int)) = true := decide_eq_true c4
      clear c4
      have HC5 := Aside0.mk H
      clear H
      have p103 : 0 ≤ (x11_1 : Int) := of_decide_eq_true (by first | (with_reducible assumption) | assumption)
      have q103 : x11_1 < (l0.length : Int) := of_decide_eq_true (by first | (with_reducible assumption) | assumption)
      obtain ⟨ad103, A103_1, c103_1, A103_2, c103_2, e103, hx103_0, hx103_1, hx103_2, hl103_1, hi103_1, hl103_2, hi103_2⟩ := at_T48 HR0.out x11_1 p103 q103
      cases e103
      replace hx103_0 := (HB.out.cell (World.block_lt_of_cell? w _ hx103_0)).trans hx103_0
      replace hx103_1 := (HB.out.cell (World.block_lt_of_cell? w _ hx103_1)).trans hx103_1
      replace hx103_2 := (HB.out.cell (World.block_lt_of_cell? w _ hx103_2)).trans hx103_2
      have HR103_1 := Aside0.mk hi103_1
      have HC103_1 := Aside0.mk hl103_1
      clear hi103_1 hl103_1
      have HR103_2 := Aside0.mk hi103_2
      have HC103_2 := Aside0.mk hl103_2
      clear hi103_2 hl103_2
      replace p103 := eq_true p103
      replace q103 := eq_true q103
      go_upto_region 5 with (first | ((with_reducible refine gate_dst (N := 6) rfl ?_); (try (refine gate_guard (by rfl) ?_; dsimp only)); refine box_event ?hg (N := 6) ?hd (cs := #[.string (⟨#[]⟩ : ByteArray), .slice none 0 0, .slice none 0 0]) (t := 48) ?hr ?_; (case hd => rfl); (case hg => rfl); (case hr => first | (go_simp; done) | (go_simp; rfl)); intro gb104 hg w6 hbox hb; have n0_ := Aside0.mk (below_step belH hb); have n1_ := Aside0.mk (hbox); have n2_ := Aside0.mk ((by rw [hg]; exact (below_size belH) : w.heap.size ≤ gb104)); have n3_ := Aside0.mk ((by rw [hg]; exact (below_size belH) : w.heap.size ≤ gb104)); clear HB; have HB := n0_; have BK104 := n1_; have GW104 := n2_; have GE104 := n3_; clear n0_ n1_ n2_ n3_; clear hb hbox hg; obtain ⟨hcz7_0, hcz7_1, hcz7_2, hfz7_0, hfz7_1, hfz7_2⟩ := rows3 (w := w6) BK104))
      (try simp only [Act.put, List.setIfInBounds_toArray, List.set_cons_zero, List.set_cons_succ])
      go_cut [63] (fun v63 wc => ∃ (kq : Nat) (x63_4 : Bool), v63 = .bool x63_4 ∧ Aside0 (spec_BuddyinfoPrint.j1 kq l0 x4_1 l0 (l0.length : Int) x11_1 x63_4 ((rd_T48 l0 x11_1).f0) ((rd_T48 l0 x11_1).f1) ((rd_T48 l0 x11_1).f2) = some (r1, r2)) ∧ Aside0 (kq ≤ k1) ∧ Aside0 (wc.heap[gb104]? = some (.cells #[.string ((rd_T48 l0 x11_1).f0), (.slice A103_1 ((rd_T48 l0 x11_1).f1).length c103_1), (.slice A103_2 ((rd_T48 l0 x11_1).f2).length c103_2)] 48 (0, 0))) ∧ Aside0 (Below w.heap.size w wc))
      case first =>
       have H := HC5.out
       clear HC5
       by_cases c8 : (((rd_T48 l0 x11_1).f2).length : Int) = 2
       ·rw [if_pos c8] at H
        have c8b0 : ((((rd_T48 l0 x11_1).f2).length : Int) == 2) = true := beq_iff_eq.mpr c8
        have c8b1 : ((((rd_T48 l0 x11_1).f2).length : Int) != 2) = false := bne_eq_false_iff_eq.mpr c8
        clear c8
        (first | rw [c8b0] | (simp only [i64_w, i32_w]; rw [c8b0]) | skip)
        replace H := Option.bind_eq_some_iff.mp H
        obtain ⟨t105, A90, H⟩ := H
        have A9 := Aside0.mk A90
        clear A90
        by_cases c10 : t105 = true
        ·subst c10
         have H1 : (if 0 < (((rd_T48 l0 x11_1).f2).length : Int) then ((spec_Where.f k1 (rdOf ByteArray.empty ((rd_T48 l0 x11_1).f2) 0) 44).bind fun t107 => (if t107 ≥ 0 then (spec_BuddyinfoPrint.j1 k1 l0 x4_1 l0 (l0.length : Int) x11_1 true ((rd_T48 l0 x11_1).f0) ((rd_T48 l0 x11_1).f1) ((rd_T48 l0 x11_1).f2)) else (if 1 < (((rd_T48 l0 x11_1).f2).length : Int) then ((spec_Where.f k1 (rdOf ByteArray.empty ((rd_T48 l0 x11_1).f2) 1) 44).bind fun t109 => (if t109 ≥ 0 then (spec_BuddyinfoPrint.j1 k1 l0 x4_1 l0 (l0.length : Int) x11_1 true ((rd_T48 l0 x11_1).f0) ((rd_T48 l0 x11_1).f1) ((rd_T48 l0 x11_1).f2)) else (if (((rd_T48 l0 x11_1).f1).length : Int) < 1 then (none) else (if 0 < (l0.length : Int) then (if (((rd_T48 l0 x11_1).f1).length : Int) = (((rd_T48 l0 0).f1).length : Int) then ((spec_small.f k1 1099511627776 ((rd_T48 l0 x11_1).f1)).bind fun t111 => (spec_BuddyinfoPrint.j1 k1 l0 x4_1 l0 (l0.length : Int) x11_1 (!t111) ((rd_T48 l0 x11_1).f0) ((rd_T48 l0 x11_1).f1) ((rd_T48 l0 x11_1).f2))) else (spec_BuddyinfoPrint.j1 k1 l0 x4_1 l0 (l0.length : Int) x11_1 true ((rd_T48 l0 x11_1).f0) ((rd_T48 l0 x11_1).f1) ((rd_T48 l0 x11_1).f2))) else (none))))) else (none)))) else (none)) = some (r1, r2) := by rw [if_pos rfl] at H; exact H
         clear H
         have H := H1
         clear H1
         by_cases c11 : 0 < (((rd_T48 l0 x11_1).f2).length : Int)
         ·rw [if_pos c11] at H
          have c11b0 : decide (0 < (((rd_T48 l0 x11_1).f2).length : Int)) = true := decide_eq_true c11
          have c11b1 : decide (0 < ((rd_T48 l0 x11_1).f2).length) = true := decide_eq_true (by omega)
          clear c11
          replace H := Option.bind_eq_some_iff.mp H
          obtain ⟨t107, A120, H⟩ := H
          have A12 := Aside0.mk A120
          clear A120
          by_cases c13 : t107 ≥ 0
          ·rw [if_pos c13] at H
           have c13b0 : decide (0 ≤ t107) = true := decide_eq_true c13
           clear c13
           have H' := Aside0.mk H
           clear H
           try go_wp2
           have n0_ : Aside0 ((((w6.setCell ⟨gb104, 0, none⟩ (.string ((rd_T48 l0 x11_1).f0))).setCell ⟨gb104, 1, none⟩ (.slice A103_1 ((rd_T48 l0 x11_1).f1).length c103_1)).setCell ⟨gb104, 2, none⟩ (.slice A103_2 ((rd_T48 l0 x11_1).f2).length c103_2)).heap[gb104]? = some (.cells #[.string ((rd_T48 l0 x11_1).f0), .slice A103_1 ((rd_T48 l0 x11_1).f1).length c103_1, .slice A103_2 ((rd_T48 l0 x11_1).f2).length c103_2] 48 (0, 0))) := ⟨by refine bY ?_; refine blk_put (cs := #[.string ((rd_T48 l0 x11_1).f0), .slice A103_1 ((rd_T48 l0 x11_1).f1).length c103_1, .slice none 0 0]) ?_ 2 _ rfl; refine bY ?_; refine blk_put (cs := #[.string ((rd_T48 l0 x11_1).f0), .slice none 0 0, .slice none 0 0]) ?_ 1 _ rfl; refine bY ?_; refine blk_put (cs := #[.string (⟨#[]⟩ : ByteArray), .slice none 0 0, .slice none 0 0]) ?_ 0 _ rfl; refine bY ?_; exact BK104.out⟩
           have n1_ : Aside0 (Below w.heap.size w (((w6.setCell ⟨gb104, 0, none⟩ (.string ((rd_T48 l0 x11_1).f0))).setCell ⟨gb104, 1, none⟩ (.slice A103_1 ((rd_T48 l0 x11_1).f1).length c103_1)).setCell ⟨gb104, 2, none⟩ (.slice A103_2 ((rd_T48 l0 x11_1).f2).length c103_2))) := ⟨by repeat (first | (with_reducible first | exact HB.out | apply below_alloc | apply pw_below_drewN | apply below_drew1 | refine below_set ?_ GE104.out) | exact HB.out)⟩
           (try clear BK104)
           (try clear HB)
           generalize (((w6.setCell ⟨gb104, 0, none⟩ (.string ((rd_T48 l0 x11_1).f0))).setCell ⟨gb104, 1, none⟩ (.slice A103_1 ((rd_T48 l0 x11_1).f1).length c103_1)).setCell ⟨gb104, 2, none⟩ (.slice A103_2 ((rd_T48 l0 x11_1).f2).length c103_2)) = w14 at n0_ n1_ ⊢
           have BK104 := n0_
           have HB := n1_
           clear n0_ n1_
           have n0_ := Aside0.mk (blk_drew BK104.out)
           have n1_ := Aside0.mk (below_drew1 HB.out)
           clear BK104
           clear HB
           have BK104 := n0_
           have HB := n1_
           clear n0_ n1_
           have p106 : 0 ≤ (0 : Int) := (by omega)
           have q106 : 0 < (((rd_T48 l0 x11_1).f2).length : Int) := of_decide_eq_true (by first | (with_reducible assumption) | assumption)
           obtain ⟨ad106, e106, hx106_0⟩ := Kd.at_string HR103_2.out 0 p106 q106
           have hw106_0 := hx106_0
           (try rw [show ((0 : Int)).toNat = 0 from rfl] at hw106_0)
           (try rw [show 0 * 1 = 0 from rfl] at hw106_0)
           (try rw [Addr.add_zero'] at hw106_0)
           cases e106
           have qi106 : (0 < ((rd_T48 l0 x11_1).f2).length) = True := eq_true (by omega)
           (try rw [show ((0 : Int)).toNat = 0 from rfl] at hx106_0)
           (try rw [Addr.add_zero'] at hx106_0)
           replace hx106_0 := (HB.out.cell (World.block_lt_of_cell? w _ hx106_0)).trans hx106_0
           replace p106 := eq_true p106
           replace q106 := eq_true q106
           refine start_ (n := 49) (S := fun w' => w'.cell? ⟨gb104, 0, none⟩ = some (.string ((rd_T48 l0 x11_1).f0)) ∧ w'.cell? ⟨gb104, 1, none⟩ = some (.slice A103_1 ((rd_T48 l0 x11_1).f1).length c103_1) ∧ w'.cell? ⟨gb104, 2, none⟩ = some (.slice (some ad106) ((rd_T48 l0 x11_1).f2).length c103_2) ∧ w'.cell? ad106 = some (.string (rdOf ByteArray.empty ((rd_T48 l0 x11_1).f2) 0))) (ds := []) (tfA 0 49) (by kernel_rfl) rfl rfl ⟨(blk_cell BK104.out 0).trans rfl, (blk_cell BK104.out 1).trans rfl, (blk_cell BK104.out 2).trans rfl, ((HB.out.cell (World.block_lt_of_cell? w _ hw106_0)).trans hw106_0)⟩ (fun hHeld => ?_); refine with_tabW spec_BuddyinfoPrint.tab5 spec_BuddyinfoPrint.bits5 (fun HT_ HW_ => ?_)
           generalize w14.drew = w15 at BK104 HB hx106_0 hHeld ⊢
           refine pure_ (i := 0) (N := some 15) (v := ?_) (a' := ?_) (tfA 1 48) rfl rfl (any_of HT_.out (by kernel_rfl)) (fun _ _ _ h => h) (Or.inl ⟨by rfl, ?_⟩) ?_ ?_
           rotate_left
           ·intro w'
            go_simp
            first | with_reducible rfl | (rw [if_neg (by omega)])
           rotate_left
           ·simp only [Act.put, sA, s0, s1, i64_w, i32_w]
            rfl
           refine take_ (i := 1) (N := some 16) (v := ?_) (a' := ?_) (tfA 2 47) rfl rfl (take_ofW HT_.out HW_.out (by kernel_rfl)) (fun _ _ _ h => h) (Or.inl ⟨by rfl, ?_⟩) hHeld ?_ ?_
           rotate_left
           ·rintro w' ⟨s0, s1, s2, s3⟩
            go_simp
            first | with_reducible rfl | (rw [if_neg (by omega)])
           rotate_left
           ·simp only [Act.put, sA, s0, s1, i64_w, i32_w]
            rfl
           refine pure_ (i := 2) (N := some 17) (v := ?_) (a' := ?_) (tfA 3 46) rfl rfl (any_of HT_.out (by kernel_rfl)) (fun _ _ _ h => h) (Or.inl ⟨by rfl, ?_⟩) ?_ ?_
           rotate_left
           ·intro w'
            go_simp
            first | with_reducible rfl | (rw [if_neg (by omega)])
           rotate_left
           ·simp only [Act.put, sA, s0, s1, i64_w, i32_w]
            rfl
           refine pure_ (i := 3) (N := some 18) (v := ?_) (a' := ?_) (tfA 4 45) rfl rfl (any_of HT_.out (by kernel_rfl)) (fun _ _ _ h => h) (Or.inl ⟨by rfl, ?_⟩) ?_ ?_
           rotate_left
           ·intro w'
            go_simp
            first | with_reducible rfl | (rw [if_neg (by omega)])
           rotate_left
           ·simp only [Act.put, sA, s0, s1, i64_w, i32_w]
            rfl
           refine pure_ (i := 4) (N := some 19) (v := ?_) (a' := ?_) (tfA 5 44) rfl rfl (any_of HT_.out (by kernel_rfl)) (fun _ _ _ h => h) (Or.inl ⟨by rfl, ?_⟩) ?_ ?_
           rotate_left
           ·intro w'
            go_simp
            first | with_reducible rfl | (rw [if_neg (by omega)])
           rotate_left
           ·simp only [Act.put, sA, s0, s1, i64_w, i32_w]
            rfl
           refine pure_ (i := 5) (N := some 20) (v := ?_) (a' := ?_) (tfA 6 43) rfl rfl (any_of HT_.out (by kernel_rfl)) (fun _ _ _ h => h) (Or.inl ⟨by rfl, ?_⟩) ?_ ?_
           rotate_left
           ·intro w'
            go_simp
            first | with_reducible rfl | (rw [if_neg (by omega)])
           rotate_left
           ·simp only [Act.put, sA, s0, s1, i64_w, i32_w]
            rfl
           refine take_ (i := 6) (N := some 21) (v := ?_) (a' := ?_) (tfA 7 42) rfl rfl (take_ofW HT_.out HW_.out (by kernel_rfl)) (fun _ _ _ h => h) (Or.inl ⟨by rfl, ?_⟩) hHeld ?_ ?_
           rotate_left
           ·rintro w' ⟨s0, s1, s2, s3⟩
            go_simp
            first | with_reducible rfl | (rw [if_neg (by omega)])
           rotate_left
           ·simp only [Act.put, sA, s0, s1, i64_w, i32_w]
            rfl
           refine one_ (i := 7) (N := some 22) (tfA 8 41) rfl rfl (one_of HT_.out (by kernel_rfl)) (by decide) (fun K hK => ?_)
           refine goes_ Tryz.func57 (by kernel_rfl) rfl #[.slice (some ad106) ((rd_T48 l0 x11_1).f2).length c103_2] (by rfl) rfl rfl (by (try simp only [List.map_toArray, List.map_cons, List.map_nil]); first | done | rfl | (simp only [List.length_drop, List.length_take]; rfl)) ?_
           with_reducible refine (spec_words.calls k1 _ _ ((rd_T48 l0 x11_1).f2) true _ ?side1 ?side2 A9.out).mono ?_
           (case side1 => repeat (first | exact (Kd.C_below HR103_2.out HB.out) | (with_reducible refine Kd.C_alloc ?_ _) | (with_reducible refine Kd.C_drewN ?_ _) | (with_reducible refine Kd.C_drew ?_)))
           (case side2 => exact HC103_2.out)
           rintro e w' ⟨rfl, ⟨nd, rfl⟩⟩
           refine ⟨_, rfl, ?_⟩
           refine hK.out _ _ ⟨(blk_cell BK104.out 0).trans rfl, (blk_cell BK104.out 1).trans rfl, (blk_cell BK104.out 2).trans rfl, ((HB.out.cell (World.block_lt_of_cell? w _ hw106_0)).trans hw106_0)⟩ (fun hHeld => ?_)
           clear hK K
           refine norm_ (a' := ?_) ?_ ?_
           rotate_left
           ·show Act.put _ (some 22) _ = _
            simp only [Act.put, sA, s0, s1, i64_w, i32_w]
            rfl
           refine pure_ (i := 8) (N := some 23) (v := ?_) (a' := ?_) (tfA 9 40) rfl rfl (any_of HT_.out (by kernel_rfl)) (fun _ _ _ h => h) (Or.inl ⟨by rfl, ?_⟩) ?_ ?_
           rotate_left
           ·intro w'
            go_simp
            first | with_reducible rfl | (rw [if_neg (by omega)])
           rotate_left
           ·simp only [Act.put, sA, s0, s1, i64_w, i32_w]
            rfl
           refine pure_ (i := 9) (N := some 24) (v := ?_) (a' := ?_) (tfA 10 39) rfl rfl (any_of HT_.out (by kernel_rfl)) (fun _ _ _ h => h) (Or.inl ⟨by rfl, ?_⟩) ?_ ?_
           rotate_left
           ·intro w'
            go_simp
            first | with_reducible rfl | (rw [if_neg (by omega)])
           rotate_left
           ·simp only [Act.put, sA, s0, s1, i64_w, i32_w]
            rfl
           refine pure_ (i := 10) (N := some 25) (v := ?_) (a' := ?_) (tfA 11 38) rfl rfl (any_of HT_.out (by kernel_rfl)) (fun _ _ _ h => h) (Or.inl ⟨by rfl, ?_⟩) ?_ ?_
           rotate_left
           ·intro w'
            go_simp
            first | with_reducible rfl | (rw [if_neg (by omega)])
           rotate_left
           ·simp only [Act.put, sA, s0, s1, i64_w, i32_w]
            rfl
           refine pure_ (i := 11) (N := some 26) (v := ?_) (a' := ?_) (tfA 12 37) rfl rfl (any_of HT_.out (by kernel_rfl)) (fun _ _ _ h => h) (Or.inl ⟨by rfl, ?_⟩) ?_ ?_
           rotate_left
           ·intro w'
            go_simp
            first | with_reducible rfl | (rw [if_neg (by omega)])
           rotate_left
           ·simp only [Act.put, sA, s0, s1, i64_w, i32_w]
            rfl
           refine take_ (i := 12) (N := some 27) (v := ?_) (a' := ?_) (tfA 13 36) rfl rfl (take_ofW HT_.out HW_.out (by kernel_rfl)) (fun _ _ _ h => h) (Or.inl ⟨by rfl, ?_⟩) hHeld ?_ ?_
           rotate_left
           ·rintro w' ⟨s0, s1, s2, s3⟩
            go_simp
            first | with_reducible rfl | (rw [if_neg (by omega)])
           rotate_left
           ·simp only [Act.put, sA, s0, s1, i64_w, i32_w]
            rfl
           refine pure_ (i := 13) (N := some 28) (v := ?_) (a' := ?_) (tfA 14 35) rfl rfl (any_of HT_.out (by kernel_rfl)) (fun _ _ _ h => h) (Or.inl ⟨by rfl, ?_⟩) ?_ ?_
           rotate_left
           ·intro w'
            go_simp
            first | with_reducible rfl | (rw [if_neg (by omega)])
           rotate_left
           ·simp only [Act.put, sA, s0, s1, i64_w, i32_w]
            rfl
           refine take_ (i := 14) (N := some 29) (v := ?_) (a' := ?_) (tfA 15 34) rfl rfl (take_ofW HT_.out HW_.out (by kernel_rfl)) (fun _ _ _ h => h) (Or.inl ⟨by rfl, ?_⟩) hHeld ?_ ?_
           rotate_left
           ·rintro w' ⟨s0, s1, s2, s3⟩
            go_simp
            first | with_reducible rfl | (rw [if_neg (by omega)])
           rotate_left
           ·simp only [Act.put, sA, s0, s1, i64_w, i32_w]
            rfl
           refine one_ (i := 15) (N := some 30) (tfA 16 33) rfl rfl (one_of HT_.out (by kernel_rfl)) (by decide) (fun K hK => ?_)
           refine goes_ Tryz.func58 (by kernel_rfl) rfl #[.string (rdOf ByteArray.empty ((rd_T48 l0 x11_1).f2) 0), .int .u8 44] (by rfl) rfl rfl (by (try simp only [List.map_toArray, List.map_cons, List.map_nil]); first | done | rfl | (simp only [List.length_drop, List.length_take]; rfl)) ?_
           with_reducible refine (spec_Where.calls k1 (rdOf ByteArray.empty ((rd_T48 l0 x11_1).f2) 0) 44 t107 _ A12.out).mono ?_
           rintro e w' ⟨rfl, ⟨nd, rfl⟩⟩
           refine ⟨_, rfl, ?_⟩
           refine hK.out _ _ ⟨(blk_cell BK104.out 0).trans rfl, (blk_cell BK104.out 1).trans rfl, (blk_cell BK104.out 2).trans rfl, ((HB.out.cell (World.block_lt_of_cell? w _ hw106_0)).trans hw106_0)⟩ (fun hHeld => ?_)
           clear hK K
           refine norm_ (a' := ?_) ?_ ?_
           rotate_left
           ·show Act.put _ (some 30) _ = _
            simp only [Act.put, sA, s0, s1, i64_w, i32_w]
            rfl
           refine pure_ (i := 16) (N := some 31) (v := ?_) (a' := ?_) (tfA 17 32) rfl rfl (any_of HT_.out (by kernel_rfl)) (fun _ _ _ h => h) (Or.inl ⟨by rfl, ?_⟩) ?_ ?_
           rotate_left
           ·intro w'
            go_simp
            first | with_reducible rfl | (rw [if_neg (by omega)])
           rotate_left
           ·simp only [Act.put, sA, s0, s1, i64_w, i32_w]
            rfl
           refine pure_ (i := 17) (N := some 32) (v := ?_) (a' := ?_) (tfA 18 31) rfl rfl (any_of HT_.out (by kernel_rfl)) (fun _ _ _ h => h) (Or.inl ⟨by rfl, ?_⟩) ?_ ?_
           rotate_left
           ·intro w'
            go_simp
            first | with_reducible rfl | (rw [if_neg (by omega)])
           rotate_left
           ·simp only [Act.put, sA, s0, s1, i64_w, i32_w]
            rfl
           refine pure_ (i := 18) (N := some 33) (v := ?_) (a' := ?_) (tfA 19 30) rfl rfl (any_of HT_.out (by kernel_rfl)) (fun _ _ _ h => h) (Or.inl ⟨by rfl, ?_⟩) ?_ ?_
           rotate_left
           ·intro w'
            go_simp
            first | with_reducible rfl | (rw [if_neg (by omega)])
           rotate_left
           ·simp only [Act.put, sA, s0, s1, i64_w, i32_w]
            rfl
           refine pure_ (i := 19) (N := some 34) (v := undef) (a' := ?_) (tfA 20 29) rfl rfl (any_of HT_.out (by kernel_rfl)) (fun _ _ _ h => h) (Or.inr ⟨by rfl, rfl⟩) ?_ ?_
           rotate_left
           ·simp only [Act.put, sA, s0, s1, i64_w, i32_w]
            rfl
           refine pure_ (i := 20) (N := some 35) (v := undef) (a' := ?_) (tfA 21 28) rfl rfl (any_of HT_.out (by kernel_rfl)) (fun _ _ _ h => h) (Or.inr ⟨by rfl, rfl⟩) ?_ ?_
           rotate_left
           ·simp only [Act.put, sA, s0, s1, i64_w, i32_w]
            rfl
           refine pure_ (i := 21) (N := some 36) (v := undef) (a' := ?_) (tfA 22 27) rfl rfl (any_of HT_.out (by kernel_rfl)) (fun _ _ _ h => h) (Or.inr ⟨by rfl, rfl⟩) ?_ ?_
           rotate_left
           ·simp only [Act.put, sA, s0, s1, i64_w, i32_w]
            rfl
           refine pure_ (i := 22) (N := some 37) (v := undef) (a' := ?_) (tfA 23 26) rfl rfl (any_of HT_.out (by kernel_rfl)) (fun _ _ _ h => h) (Or.inr ⟨by rfl, rfl⟩) ?_ ?_
           rotate_left
           ·simp only [Act.put, sA, s0, s1, i64_w, i32_w]
            rfl
           refine pure_ (i := 23) (N := some 38) (v := undef) (a' := ?_) (tfA 24 25) rfl rfl (any_of HT_.out (by kernel_rfl)) (fun _ _ _ h => h) (Or.inr ⟨by rfl, rfl⟩) ?_ ?_
           rotate_left
           ·simp only [Act.put, sA, s0, s1, i64_w, i32_w]
            rfl
           refine pure_ (i := 24) (N := some 39) (v := undef) (a' := ?_) (tfA 25 24) rfl rfl (any_of HT_.out (by kernel_rfl)) (fun _ _ _ h => h) (Or.inr ⟨by rfl, rfl⟩) ?_ ?_
           rotate_left
           ·simp only [Act.put, sA, s0, s1, i64_w, i32_w]
            rfl
           refine pure_ (i := 25) (N := some 40) (v := ?_) (a' := ?_) (tfA 26 23) rfl rfl (any_of HT_.out (by kernel_rfl)) (fun _ _ _ h => h) (Or.inl ⟨by rfl, ?_⟩) ?_ ?_
           rotate_left
           ·intro w'
            go_simp
            first | with_reducible rfl | (rw [if_neg (by omega)])
           rotate_left
           ·simp only [Act.put, sA, s0, s1, i64_w, i32_w]
            rfl
           refine pure_ (i := 26) (N := some 41) (v := ?_) (a' := ?_) (tfA 27 22) rfl rfl (any_of HT_.out (by kernel_rfl)) (fun _ _ _ h => h) (Or.inl ⟨by rfl, ?_⟩) ?_ ?_
           rotate_left
           ·intro w'
            go_simp
            first | with_reducible rfl | (rw [if_neg (by omega)])
           rotate_left
           ·simp only [Act.put, sA, s0, s1, i64_w, i32_w]
            rfl
           refine pure_ (i := 27) (N := some 42) (v := undef) (a' := ?_) (tfA 28 21) rfl rfl (any_of HT_.out (by kernel_rfl)) (fun _ _ _ h => h) (Or.inr ⟨by rfl, rfl⟩) ?_ ?_
           rotate_left
           ·simp only [Act.put, sA, s0, s1, i64_w, i32_w]
            rfl
           refine pure_ (i := 28) (N := some 43) (v := undef) (a' := ?_) (tfA 29 20) rfl rfl (any_of HT_.out (by kernel_rfl)) (fun _ _ _ h => h) (Or.inr ⟨by rfl, rfl⟩) ?_ ?_
           rotate_left
           ·simp only [Act.put, sA, s0, s1, i64_w, i32_w]
            rfl
           refine pure_ (i := 29) (N := some 44) (v := undef) (a' := ?_) (tfA 30 19) rfl rfl (any_of HT_.out (by kernel_rfl)) (fun _ _ _ h => h) (Or.inr ⟨by rfl, rfl⟩) ?_ ?_
           rotate_left
           ·simp only [Act.put, sA, s0, s1, i64_w, i32_w]
            rfl
           refine pure_ (i := 30) (N := some 45) (v := undef) (a' := ?_) (tfA 31 18) rfl rfl (any_of HT_.out (by kernel_rfl)) (fun _ _ _ h => h) (Or.inr ⟨by rfl, rfl⟩) ?_ ?_
           rotate_left
           ·simp only [Act.put, sA, s0, s1, i64_w, i32_w]
            rfl
           refine pure_ (i := 31) (N := some 46) (v := ?_) (a' := ?_) (tfA 32 17) rfl rfl (any_of HT_.out (by kernel_rfl)) (fun _ _ _ h => h) (Or.inl ⟨by rfl, ?_⟩) ?_ ?_
           rotate_left
           ·intro w'
            go_simp
            first | with_reducible rfl | (rw [if_neg (by omega)])
           rotate_left
           ·simp only [Act.put, sA, s0, s1, i64_w, i32_w]
            rfl
           refine pure_ (i := 32) (N := some 47) (v := ?_) (a' := ?_) (tfA 33 16) rfl rfl (any_of HT_.out (by kernel_rfl)) (fun _ _ _ h => h) (Or.inl ⟨by rfl, ?_⟩) ?_ ?_
           rotate_left
           ·intro w'
            go_simp
            first | with_reducible rfl | (rw [if_neg (by omega)])
           rotate_left
           ·simp only [Act.put, sA, s0, s1, i64_w, i32_w]
            rfl
           refine pure_ (i := 33) (N := some 48) (v := undef) (a' := ?_) (tfA 34 15) rfl rfl (any_of HT_.out (by kernel_rfl)) (fun _ _ _ h => h) (Or.inr ⟨by rfl, rfl⟩) ?_ ?_
           rotate_left
           ·simp only [Act.put, sA, s0, s1, i64_w, i32_w]
            rfl
           refine pure_ (i := 34) (N := some 49) (v := undef) (a' := ?_) (tfA 35 14) rfl rfl (any_of HT_.out (by kernel_rfl)) (fun _ _ _ h => h) (Or.inr ⟨by rfl, rfl⟩) ?_ ?_
           rotate_left
           ·simp only [Act.put, sA, s0, s1, i64_w, i32_w]
            rfl
           refine pure_ (i := 35) (N := some 50) (v := undef) (a' := ?_) (tfA 36 13) rfl rfl (any_of HT_.out (by kernel_rfl)) (fun _ _ _ h => h) (Or.inr ⟨by rfl, rfl⟩) ?_ ?_
           rotate_left
           ·simp only [Act.put, sA, s0, s1, i64_w, i32_w]
            rfl
           refine pure_ (i := 36) (N := some 51) (v := undef) (a' := ?_) (tfA 37 12) rfl rfl (any_of HT_.out (by kernel_rfl)) (fun _ _ _ h => h) (Or.inr ⟨by rfl, rfl⟩) ?_ ?_
           rotate_left
           ·simp only [Act.put, sA, s0, s1, i64_w, i32_w]
            rfl
           refine pure_ (i := 37) (N := some 52) (v := undef) (a' := ?_) (tfA 38 11) rfl rfl (any_of HT_.out (by kernel_rfl)) (fun _ _ _ h => h) (Or.inr ⟨by rfl, rfl⟩) ?_ ?_
           rotate_left
           ·simp only [Act.put, sA, s0, s1, i64_w, i32_w]
            rfl
           refine pure_ (i := 38) (N := some 53) (v := undef) (a' := ?_) (tfA 39 10) rfl rfl (any_of HT_.out (by kernel_rfl)) (fun _ _ _ h => h) (Or.inr ⟨by rfl, rfl⟩) ?_ ?_
           rotate_left
           ·simp only [Act.put, sA, s0, s1, i64_w, i32_w]
            rfl
           refine pure_ (i := 39) (N := some 54) (v := undef) (a' := ?_) (tfA 40 9) rfl rfl (any_of HT_.out (by kernel_rfl)) (fun _ _ _ h => h) (Or.inr ⟨by rfl, rfl⟩) ?_ ?_
           rotate_left
           ·simp only [Act.put, sA, s0, s1, i64_w, i32_w]
            rfl
           refine pure_ (i := 40) (N := some 55) (v := undef) (a' := ?_) (tfA 41 8) rfl rfl (any_of HT_.out (by kernel_rfl)) (fun _ _ _ h => h) (Or.inr ⟨by rfl, rfl⟩) ?_ ?_
           rotate_left
           ·simp only [Act.put, sA, s0, s1, i64_w, i32_w]
            rfl
           refine pure_ (i := 41) (N := some 56) (v := undef) (a' := ?_) (tfA 42 7) rfl rfl (any_of HT_.out (by kernel_rfl)) (fun _ _ _ h => h) (Or.inr ⟨by rfl, rfl⟩) ?_ ?_
           rotate_left
           ·simp only [Act.put, sA, s0, s1, i64_w, i32_w]
            rfl
           refine pure_ (i := 42) (N := some 57) (v := ?_) (a' := ?_) (tfA 43 6) rfl rfl (any_of HT_.out (by kernel_rfl)) (fun _ _ _ h => h) (Or.inl ⟨by rfl, ?_⟩) ?_ ?_
           rotate_left
           ·intro w'
            go_simp
            first | with_reducible rfl | (rw [if_neg (by omega)])
           rotate_left
           ·simp only [Act.put, sA, s0, s1, i64_w, i32_w]
            rfl
           refine pure_ (i := 43) (N := some 58) (v := ?_) (a' := ?_) (tfA 44 5) rfl rfl (any_of HT_.out (by kernel_rfl)) (fun _ _ _ h => h) (Or.inl ⟨by rfl, ?_⟩) ?_ ?_
           rotate_left
           ·intro w'
            go_simp
            first | with_reducible rfl | (rw [if_neg (by omega)])
           rotate_left
           ·simp only [Act.put, sA, s0, s1, i64_w, i32_w]
            rfl
           refine pure_ (i := 44) (N := some 59) (v := undef) (a' := ?_) (tfA 45 4) rfl rfl (any_of HT_.out (by kernel_rfl)) (fun _ _ _ h => h) (Or.inr ⟨by rfl, rfl⟩) ?_ ?_
           rotate_left
           ·simp only [Act.put, sA, s0, s1, i64_w, i32_w]
            rfl
           refine pure_ (i := 45) (N := some 60) (v := undef) (a' := ?_) (tfA 46 3) rfl rfl (any_of HT_.out (by kernel_rfl)) (fun _ _ _ h => h) (Or.inr ⟨by rfl, rfl⟩) ?_ ?_
           rotate_left
           ·simp only [Act.put, sA, s0, s1, i64_w, i32_w]
            rfl
           refine pure_ (i := 46) (N := some 61) (v := undef) (a' := ?_) (tfA 47 2) rfl rfl (any_of HT_.out (by kernel_rfl)) (fun _ _ _ h => h) (Or.inr ⟨by rfl, rfl⟩) ?_ ?_
           rotate_left
           ·simp only [Act.put, sA, s0, s1, i64_w, i32_w]
            rfl
           refine pure_ (i := 47) (N := some 62) (v := undef) (a' := ?_) (tfA 48 1) rfl rfl (any_of HT_.out (by kernel_rfl)) (fun _ _ _ h => h) (Or.inr ⟨by rfl, rfl⟩) ?_ ?_
           rotate_left
           ·simp only [Act.put, sA, s0, s1, i64_w, i32_w]
            rfl
           refine pure_ (i := 48) (N := some 63) (v := ?_) (a' := ?_) (tfA 49 0) rfl rfl (any_of HT_.out (by kernel_rfl)) (fun _ _ _ h => h) (Or.inl ⟨by rfl, ?_⟩) ?_ ?_
           rotate_left
           ·intro w'
            go_simp
            first | with_reducible rfl | (rw [if_neg (by omega)])
           rotate_left
           ·simp only [Act.put, sA, s0, s1, i64_w, i32_w]
            rfl
           refine done_ (done_of HT_.out (by kernel_rfl)) ?_
           try go_wp2
           go_meet
           case rel => exact ⟨_, (true), (by first | rfl | (simp; done) | (simp [*]; done) | (simp [bne_nil]; done) | (simp [bne_nil, *]; done)), H', ⟨by have := HK1.out; first | omega | exact Nat.le_refl _⟩, ⟨by refine bY ?_; exact BK104.out⟩, ⟨by repeat (first | (with_reducible first | exact HB.out | apply below_alloc | apply pw_below_drewN | apply below_drew1 | refine below_set ?_ GE104.out) | exact HB.out)⟩⟩
          ·rw [if_neg c13] at H
           have c13b0 : decide (0 ≤ t107) = false := decide_eq_false c13
           clear c13
           by_cases c16 : 1 < (((rd_T48 l0 x11_1).f2).length : Int)
           ·rw [if_pos c16] at H
            have c16b0 : decide (1 < (((rd_T48 l0 x11_1).f2).length : Int)) = true := decide_eq_true c16
            have c16b1 : decide (1 < ((rd_T48 l0 x11_1).f2).length) = true := decide_eq_true (by omega)
            clear c16
            replace H := Option.bind_eq_some_iff.mp H
            obtain ⟨t109, A170, H⟩ := H
            have A17 := Aside0.mk A170
            clear A170
            by_cases c18 : t109 ≥ 0
            ·rw [if_pos c18] at H
             have c18b0 : decide (0 ≤ t109) = true := decide_eq_true c18
             clear c18
             have H' := Aside0.mk H
             clear H
             try go_wp2
             have n0_ : Aside0 ((((w6.setCell ⟨gb104, 0, none⟩ (.string ((rd_T48 l0 x11_1).f0))).setCell ⟨gb104, 1, none⟩ (.slice A103_1 ((rd_T48 l0 x11_1).f1).length c103_1)).setCell ⟨gb104, 2, none⟩ (.slice A103_2 ((rd_T48 l0 x11_1).f2).length c103_2)).heap[gb104]? = some (.cells #[.string ((rd_T48 l0 x11_1).f0), .slice A103_1 ((rd_T48 l0 x11_1).f1).length c103_1, .slice A103_2 ((rd_T48 l0 x11_1).f2).length c103_2] 48 (0, 0))) := ⟨by refine bY ?_; refine blk_put (cs := #[.string ((rd_T48 l0 x11_1).f0), .slice A103_1 ((rd_T48 l0 x11_1).f1).length c103_1, .slice none 0 0]) ?_ 2 _ rfl; refine bY ?_; refine blk_put (cs := #[.string ((rd_T48 l0 x11_1).f0), .slice none 0 0, .slice none 0 0]) ?_ 1 _ rfl; refine bY ?_; refine blk_put (cs := #[.string (⟨#[]⟩ : ByteArray), .slice none 0 0, .slice none 0 0]) ?_ 0 _ rfl; refine bY ?_; exact BK104.out⟩
             have n1_ : Aside0 (Below w.heap.size w (((w6.setCell ⟨gb104, 0, none⟩ (.string ((rd_T48 l0 x11_1).f0))).setCell ⟨gb104, 1, none⟩ (.slice A103_1 ((rd_T48 l0 x11_1).f1).length c103_1)).setCell ⟨gb104, 2, none⟩ (.slice A103_2 ((rd_T48 l0 x11_1).f2).length c103_2))) := ⟨by repeat (first | (with_reducible first | exact HB.out | apply below_alloc | apply pw_below_drewN | apply below_drew1 | refine below_set ?_ GE104.out) | exact HB.out)⟩
             (try clear BK104)
             (try clear HB)
             generalize (((w6.setCell ⟨gb104, 0, none⟩ (.string ((rd_T48 l0 x11_1).f0))).setCell ⟨gb104, 1, none⟩ (.slice A103_1 ((rd_T48 l0 x11_1).f1).length c103_1)).setCell ⟨gb104, 2, none⟩ (.slice A103_2 ((rd_T48 l0 x11_1).f2).length c103_2)) = w19 at n0_ n1_ ⊢
             have BK104 := n0_
             have HB := n1_
             clear n0_ n1_
             have n0_ := Aside0.mk (blk_drew BK104.out)
             have n1_ := Aside0.mk (below_drew1 HB.out)
             clear BK104
             clear HB
             have BK104 := n0_
             have HB := n1_
             clear n0_ n1_
             have p106 : 0 ≤ (0 : Int) := (by omega)
             have q106 : 0 < (((rd_T48 l0 x11_1).f2).length : Int) := of_decide_eq_true (by first | (with_reducible assumption) | assumption)
             obtain ⟨ad106, e106, hx106_0⟩ := Kd.at_string HR103_2.out 0 p106 q106
             have hw106_0 := hx106_0
             (try rw [show ((0 : Int)).toNat = 0 from rfl] at hw106_0)
             (try rw [show 0 * 1 = 0 from rfl] at hw106_0)
             (try rw [Addr.add_zero'] at hw106_0)
             cases e106
             have qi106 : (0 < ((rd_T48 l0 x11_1).f2).length) = True := eq_true (by omega)
             (try rw [show ((0 : Int)).toNat = 0 from rfl] at hx106_0)
             (try rw [Addr.add_zero'] at hx106_0)
             replace hx106_0 := (HB.out.cell (World.block_lt_of_cell? w _ hx106_0)).trans hx106_0
             replace p106 := eq_true p106
             replace q106 := eq_true q106
             have p108 : 0 ≤ (1 : Int) := (by omega)
             have q108 : 1 < (((rd_T48 l0 x11_1).f2).length : Int) := of_decide_eq_true (by first | (with_reducible assumption) | assumption)
             obtain ⟨ad108, e108, hx108_0⟩ := Kd.at_string HR103_2.out 1 p108 q108
             have hw108_0 := hx108_0
             (try rw [show ((1 : Int)).toNat = 1 from rfl] at hw108_0)
             (try rw [show 1 * 1 = 1 from rfl] at hw108_0)
             (try simp only [Nat.reduceMul, Nat.reduceEqDiff, Go.Addr.add, ↓reduceIte] at hw108_0)
             obtain rfl : ad106 = ad108 := (by injection e108)
             (try simp only [show (1 : Int).toNat = 1 from rfl, Nat.reduceMul, Nat.reduceEqDiff, Go.Addr.add, ↓reduceIte] at hx108_0)
             have qi108 : (1 < ((rd_T48 l0 x11_1).f2).length) = True := eq_true (by omega)
             (try rw [show ((1 : Int)).toNat = 1 from rfl] at hx108_0)
             replace hx108_0 := (HB.out.cell (World.block_lt_of_cell? w _ hx108_0)).trans hx108_0
             replace p108 := eq_true p108
             replace q108 := eq_true q108
             refine start_ (n := 49) (S := fun w' => w'.cell? ⟨gb104, 0, none⟩ = some (.string ((rd_T48 l0 x11_1).f0)) ∧ w'.cell? ⟨gb104, 1, none⟩ = some (.slice A103_1 ((rd_T48 l0 x11_1).f1).length c103_1) ∧ w'.cell? ⟨gb104, 2, none⟩ = some (.slice (some ad106) ((rd_T48 l0 x11_1).f2).length c103_2) ∧ w'.cell? ad106 = some (.string (rdOf ByteArray.empty ((rd_T48 l0 x11_1).f2) 0)) ∧ w'.cell? ⟨ad106.block, ad106.off + 1, none⟩ = some (.string (rdOf ByteArray.empty ((rd_T48 l0 x11_1).f2) 1))) (ds := []) (tfA 0 49) (by kernel_rfl) rfl rfl ⟨(blk_cell BK104.out 0).trans rfl, (blk_cell BK104.out 1).trans rfl, (blk_cell BK104.out 2).trans rfl, ((HB.out.cell (World.block_lt_of_cell? w _ hw106_0)).trans hw106_0), ((HB.out.cell (World.block_lt_of_cell? w _ hw108_0)).trans hw108_0)⟩ (fun hHeld => ?_); refine with_tabW spec_BuddyinfoPrint.tab5 spec_BuddyinfoPrint.bits5 (fun HT_ HW_ => ?_)
             generalize w19.drew = w20 at BK104 HB hx106_0 hx108_0 hHeld ⊢
             refine pure_ (i := 0) (N := some 15) (v := ?_) (a' := ?_) (tfA 1 48) rfl rfl (any_of HT_.out (by kernel_rfl)) (fun _ _ _ h => h) (Or.inl ⟨by rfl, ?_⟩) ?_ ?_
             rotate_left
             ·intro w'
              go_simp
              first | with_reducible rfl | (rw [if_neg (by omega)])
             rotate_left
             ·simp only [Act.put, sA, s0, s1, i64_w, i32_w]
              rfl
             refine take_ (i := 1) (N := some 16) (v := ?_) (a' := ?_) (tfA 2 47) rfl rfl (take_ofW HT_.out HW_.out (by kernel_rfl)) (fun _ _ _ h => h) (Or.inl ⟨by rfl, ?_⟩) hHeld ?_ ?_
             rotate_left
             ·rintro w' ⟨s0, s1, s2, s3, s4⟩
              go_simp
              first | with_reducible rfl | (rw [if_neg (by omega)])
             rotate_left
             ·simp only [Act.put, sA, s0, s1, i64_w, i32_w]
              rfl
             refine pure_ (i := 2) (N := some 17) (v := ?_) (a' := ?_) (tfA 3 46) rfl rfl (any_of HT_.out (by kernel_rfl)) (fun _ _ _ h => h) (Or.inl ⟨by rfl, ?_⟩) ?_ ?_
             rotate_left
             ·intro w'
              go_simp
              first | with_reducible rfl | (rw [if_neg (by omega)])
             rotate_left
             ·simp only [Act.put, sA, s0, s1, i64_w, i32_w]
              rfl
             refine pure_ (i := 3) (N := some 18) (v := ?_) (a' := ?_) (tfA 4 45) rfl rfl (any_of HT_.out (by kernel_rfl)) (fun _ _ _ h => h) (Or.inl ⟨by rfl, ?_⟩) ?_ ?_
             rotate_left
             ·intro w'
              go_simp
              first | with_reducible rfl | (rw [if_neg (by omega)])
             rotate_left
             ·simp only [Act.put, sA, s0, s1, i64_w, i32_w]
              rfl
             refine pure_ (i := 4) (N := some 19) (v := ?_) (a' := ?_) (tfA 5 44) rfl rfl (any_of HT_.out (by kernel_rfl)) (fun _ _ _ h => h) (Or.inl ⟨by rfl, ?_⟩) ?_ ?_
             rotate_left
             ·intro w'
              go_simp
              first | with_reducible rfl | (rw [if_neg (by omega)])
             rotate_left
             ·simp only [Act.put, sA, s0, s1, i64_w, i32_w]
              rfl
             refine pure_ (i := 5) (N := some 20) (v := ?_) (a' := ?_) (tfA 6 43) rfl rfl (any_of HT_.out (by kernel_rfl)) (fun _ _ _ h => h) (Or.inl ⟨by rfl, ?_⟩) ?_ ?_
             rotate_left
             ·intro w'
              go_simp
              first | with_reducible rfl | (rw [if_neg (by omega)])
             rotate_left
             ·simp only [Act.put, sA, s0, s1, i64_w, i32_w]
              rfl
             refine take_ (i := 6) (N := some 21) (v := ?_) (a' := ?_) (tfA 7 42) rfl rfl (take_ofW HT_.out HW_.out (by kernel_rfl)) (fun _ _ _ h => h) (Or.inl ⟨by rfl, ?_⟩) hHeld ?_ ?_
             rotate_left
             ·rintro w' ⟨s0, s1, s2, s3, s4⟩
              go_simp
              first | with_reducible rfl | (rw [if_neg (by omega)])
             rotate_left
             ·simp only [Act.put, sA, s0, s1, i64_w, i32_w]
              rfl
             refine one_ (i := 7) (N := some 22) (tfA 8 41) rfl rfl (one_of HT_.out (by kernel_rfl)) (by decide) (fun K hK => ?_)
             refine goes_ Tryz.func57 (by kernel_rfl) rfl #[.slice (some ad106) ((rd_T48 l0 x11_1).f2).length c103_2] (by rfl) rfl rfl (by (try simp only [List.map_toArray, List.map_cons, List.map_nil]); first | done | rfl | (simp only [List.length_drop, List.length_take]; rfl)) ?_
             with_reducible refine (spec_words.calls k1 _ _ ((rd_T48 l0 x11_1).f2) true _ ?side1 ?side2 A9.out).mono ?_
             (case side1 => repeat (first | exact (Kd.C_below HR103_2.out HB.out) | (with_reducible refine Kd.C_alloc ?_ _) | (with_reducible refine Kd.C_drewN ?_ _) | (with_reducible refine Kd.C_drew ?_)))
             (case side2 => exact HC103_2.out)
             rintro e w' ⟨rfl, ⟨nd, rfl⟩⟩
             refine ⟨_, rfl, ?_⟩
             refine hK.out _ _ ⟨(blk_cell BK104.out 0).trans rfl, (blk_cell BK104.out 1).trans rfl, (blk_cell BK104.out 2).trans rfl, ((HB.out.cell (World.block_lt_of_cell? w _ hw106_0)).trans hw106_0), ((HB.out.cell (World.block_lt_of_cell? w _ hw108_0)).trans hw108_0)⟩ (fun hHeld => ?_)
             clear hK K
             refine norm_ (a' := ?_) ?_ ?_
             rotate_left
             ·show Act.put _ (some 22) _ = _
              simp only [Act.put, sA, s0, s1, i64_w, i32_w]
              rfl
             refine pure_ (i := 8) (N := some 23) (v := ?_) (a' := ?_) (tfA 9 40) rfl rfl (any_of HT_.out (by kernel_rfl)) (fun _ _ _ h => h) (Or.inl ⟨by rfl, ?_⟩) ?_ ?_
             rotate_left
             ·intro w'
              go_simp
              first | with_reducible rfl | (rw [if_neg (by omega)])
             rotate_left
             ·simp only [Act.put, sA, s0, s1, i64_w, i32_w]
              rfl
             refine pure_ (i := 9) (N := some 24) (v := ?_) (a' := ?_) (tfA 10 39) rfl rfl (any_of HT_.out (by kernel_rfl)) (fun _ _ _ h => h) (Or.inl ⟨by rfl, ?_⟩) ?_ ?_
             rotate_left
             ·intro w'
              go_simp
              first | with_reducible rfl | (rw [if_neg (by omega)])
             rotate_left
             ·simp only [Act.put, sA, s0, s1, i64_w, i32_w]
              rfl
             refine pure_ (i := 10) (N := some 25) (v := ?_) (a' := ?_) (tfA 11 38) rfl rfl (any_of HT_.out (by kernel_rfl)) (fun _ _ _ h => h) (Or.inl ⟨by rfl, ?_⟩) ?_ ?_
             rotate_left
             ·intro w'
              go_simp
              first | with_reducible rfl | (rw [if_neg (by omega)])
             rotate_left
             ·simp only [Act.put, sA, s0, s1, i64_w, i32_w]
              rfl
             refine pure_ (i := 11) (N := some 26) (v := ?_) (a' := ?_) (tfA 12 37) rfl rfl (any_of HT_.out (by kernel_rfl)) (fun _ _ _ h => h) (Or.inl ⟨by rfl, ?_⟩) ?_ ?_
             rotate_left
             ·intro w'
              go_simp
              first | with_reducible rfl | (rw [if_neg (by omega)])
             rotate_left
             ·simp only [Act.put, sA, s0, s1, i64_w, i32_w]
              rfl
             refine take_ (i := 12) (N := some 27) (v := ?_) (a' := ?_) (tfA 13 36) rfl rfl (take_ofW HT_.out HW_.out (by kernel_rfl)) (fun _ _ _ h => h) (Or.inl ⟨by rfl, ?_⟩) hHeld ?_ ?_
             rotate_left
             ·rintro w' ⟨s0, s1, s2, s3, s4⟩
              go_simp
              first | with_reducible rfl | (rw [if_neg (by omega)])
             rotate_left
             ·simp only [Act.put, sA, s0, s1, i64_w, i32_w]
              rfl
             refine pure_ (i := 13) (N := some 28) (v := ?_) (a' := ?_) (tfA 14 35) rfl rfl (any_of HT_.out (by kernel_rfl)) (fun _ _ _ h => h) (Or.inl ⟨by rfl, ?_⟩) ?_ ?_
             rotate_left
             ·intro w'
              go_simp
              first | with_reducible rfl | (rw [if_neg (by omega)])
             rotate_left
             ·simp only [Act.put, sA, s0, s1, i64_w, i32_w]
              rfl
             refine take_ (i := 14) (N := some 29) (v := ?_) (a' := ?_) (tfA 15 34) rfl rfl (take_ofW HT_.out HW_.out (by kernel_rfl)) (fun _ _ _ h => h) (Or.inl ⟨by rfl, ?_⟩) hHeld ?_ ?_
             rotate_left
             ·rintro w' ⟨s0, s1, s2, s3, s4⟩
              go_simp
              first | with_reducible rfl | (rw [if_neg (by omega)])
             rotate_left
             ·simp only [Act.put, sA, s0, s1, i64_w, i32_w]
              rfl
             refine one_ (i := 15) (N := some 30) (tfA 16 33) rfl rfl (one_of HT_.out (by kernel_rfl)) (by decide) (fun K hK => ?_)
             refine goes_ Tryz.func58 (by kernel_rfl) rfl #[.string (rdOf ByteArray.empty ((rd_T48 l0 x11_1).f2) 0), .int .u8 44] (by rfl) rfl rfl (by (try simp only [List.map_toArray, List.map_cons, List.map_nil]); first | done | rfl | (simp only [List.length_drop, List.length_take]; rfl)) ?_
             with_reducible refine (spec_Where.calls k1 (rdOf ByteArray.empty ((rd_T48 l0 x11_1).f2) 0) 44 t107 _ A12.out).mono ?_
             rintro e w' ⟨rfl, ⟨nd, rfl⟩⟩
             refine ⟨_, rfl, ?_⟩
             refine hK.out _ _ ⟨(blk_cell BK104.out 0).trans rfl, (blk_cell BK104.out 1).trans rfl, (blk_cell BK104.out 2).trans rfl, ((HB.out.cell (World.block_lt_of_cell? w _ hw106_0)).trans hw106_0), ((HB.out.cell (World.block_lt_of_cell? w _ hw108_0)).trans hw108_0)⟩ (fun hHeld => ?_)
             clear hK K
             refine norm_ (a' := ?_) ?_ ?_
             rotate_left
             ·show Act.put _ (some 30) _ = _
              simp only [Act.put, sA, s0, s1, i64_w, i32_w]
              rfl
             refine pure_ (i := 16) (N := some 31) (v := ?_) (a' := ?_) (tfA 17 32) rfl rfl (any_of HT_.out (by kernel_rfl)) (fun _ _ _ h => h) (Or.inl ⟨by rfl, ?_⟩) ?_ ?_
             rotate_left
             ·intro w'
              go_simp
              first | with_reducible rfl | (rw [if_neg (by omega)])
             rotate_left
             ·simp only [Act.put, sA, s0, s1, i64_w, i32_w]
              rfl
             refine pure_ (i := 17) (N := some 32) (v := ?_) (a' := ?_) (tfA 18 31) rfl rfl (any_of HT_.out (by kernel_rfl)) (fun _ _ _ h => h) (Or.inl ⟨by rfl, ?_⟩) ?_ ?_
             rotate_left
             ·intro w'
              go_simp
              first | with_reducible rfl | (rw [if_neg (by omega)])
             rotate_left
             ·simp only [Act.put, sA, s0, s1, i64_w, i32_w]
              rfl
             refine pure_ (i := 18) (N := some 33) (v := ?_) (a' := ?_) (tfA 19 30) rfl rfl (any_of HT_.out (by kernel_rfl)) (fun _ _ _ h => h) (Or.inl ⟨by rfl, ?_⟩) ?_ ?_
             rotate_left
             ·intro w'
              go_simp
              first | with_reducible rfl | (rw [if_neg (by omega)])
             rotate_left
             ·simp only [Act.put, sA, s0, s1, i64_w, i32_w]
              rfl
             refine pure_ (i := 19) (N := some 34) (v := ?_) (a' := ?_) (tfA 20 29) rfl rfl (any_of HT_.out (by kernel_rfl)) (fun _ _ _ h => h) (Or.inl ⟨by rfl, ?_⟩) ?_ ?_
             rotate_left
             ·intro w'
              go_simp
              first | with_reducible rfl | (rw [if_neg (by omega)])
             rotate_left
             ·simp only [Act.put, sA, s0, s1, i64_w, i32_w]
              rfl
             refine take_ (i := 20) (N := some 35) (v := ?_) (a' := ?_) (tfA 21 28) rfl rfl (take_ofW HT_.out HW_.out (by kernel_rfl)) (fun _ _ _ h => h) (Or.inl ⟨by rfl, ?_⟩) hHeld ?_ ?_
             rotate_left
             ·rintro w' ⟨s0, s1, s2, s3, s4⟩
              go_simp
              first | with_reducible rfl | (rw [if_neg (by omega)])
             rotate_left
             ·simp only [Act.put, sA, s0, s1, i64_w, i32_w]
              rfl
             refine pure_ (i := 21) (N := some 36) (v := ?_) (a' := ?_) (tfA 22 27) rfl rfl (any_of HT_.out (by kernel_rfl)) (fun _ _ _ h => h) (Or.inl ⟨by rfl, ?_⟩) ?_ ?_
             rotate_left
             ·intro w'
              go_simp
              first | with_reducible rfl | (rw [if_neg (by omega)])
             rotate_left
             ·simp only [Act.put, sA, s0, s1, i64_w, i32_w]
              rfl
             refine take_ (i := 22) (N := some 37) (v := ?_) (a' := ?_) (tfA 23 26) rfl rfl (take_ofW HT_.out HW_.out (by kernel_rfl)) (fun _ _ _ h => h) (Or.inl ⟨by rfl, ?_⟩) hHeld ?_ ?_
             rotate_left
             ·rintro w' ⟨s0, s1, s2, s3, s4⟩
              go_simp
              first | with_reducible rfl | (rw [if_neg (by omega)])
             rotate_left
             ·simp only [Act.put, sA, s0, s1, i64_w, i32_w]
              rfl
             refine one_ (i := 23) (N := some 38) (tfA 24 25) rfl rfl (one_of HT_.out (by kernel_rfl)) (by decide) (fun K hK => ?_)
             refine goes_ Tryz.func58 (by kernel_rfl) rfl #[.string (rdOf ByteArray.empty ((rd_T48 l0 x11_1).f2) 1), .int .u8 44] (by rfl) rfl rfl (by (try simp only [List.map_toArray, List.map_cons, List.map_nil]); first | done | rfl | (simp only [List.length_drop, List.length_take]; rfl)) ?_
             with_reducible refine (spec_Where.calls k1 (rdOf ByteArray.empty ((rd_T48 l0 x11_1).f2) 1) 44 t109 _ A17.out).mono ?_
             rintro e w' ⟨rfl, ⟨nd, rfl⟩⟩
             refine ⟨_, rfl, ?_⟩
             refine hK.out _ _ ⟨(blk_cell BK104.out 0).trans rfl, (blk_cell BK104.out 1).trans rfl, (blk_cell BK104.out 2).trans rfl, ((HB.out.cell (World.block_lt_of_cell? w _ hw106_0)).trans hw106_0), ((HB.out.cell (World.block_lt_of_cell? w _ hw108_0)).trans hw108_0)⟩ (fun hHeld => ?_)
             clear hK K
             refine norm_ (a' := ?_) ?_ ?_
             rotate_left
             ·show Act.put _ (some 38) _ = _
              simp only [Act.put, sA, s0, s1, i64_w, i32_w]
              rfl
             refine pure_ (i := 24) (N := some 39) (v := ?_) (a' := ?_) (tfA 25 24) rfl rfl (any_of HT_.out (by kernel_rfl)) (fun _ _ _ h => h) (Or.inl ⟨by rfl, ?_⟩) ?_ ?_
             rotate_left
             ·intro w'
              go_simp
              first | with_reducible rfl | (rw [if_neg (by omega)])
             rotate_left
             ·simp only [Act.put, sA, s0, s1, i64_w, i32_w]
              rfl
             refine pure_ (i := 25) (N := some 40) (v := ?_) (a' := ?_) (tfA 26 23) rfl rfl (any_of HT_.out (by kernel_rfl)) (fun _ _ _ h => h) (Or.inl ⟨by rfl, ?_⟩) ?_ ?_
             rotate_left
             ·intro w'
              go_simp
              first | with_reducible rfl | (rw [if_neg (by omega)])
             rotate_left
             ·simp only [Act.put, sA, s0, s1, i64_w, i32_w]
              rfl
             refine pure_ (i := 26) (N := some 41) (v := ?_) (a' := ?_) (tfA 27 22) rfl rfl (any_of HT_.out (by kernel_rfl)) (fun _ _ _ h => h) (Or.inl ⟨by rfl, ?_⟩) ?_ ?_
             rotate_left
             ·intro w'
              go_simp
              first | with_reducible rfl | (rw [if_neg (by omega)])
             rotate_left
             ·simp only [Act.put, sA, s0, s1, i64_w, i32_w]
              rfl
             refine pure_ (i := 27) (N := some 42) (v := undef) (a' := ?_) (tfA 28 21) rfl rfl (any_of HT_.out (by kernel_rfl)) (fun _ _ _ h => h) (Or.inr ⟨by rfl, rfl⟩) ?_ ?_
             rotate_left
             ·simp only [Act.put, sA, s0, s1, i64_w, i32_w]
              rfl
             refine pure_ (i := 28) (N := some 43) (v := undef) (a' := ?_) (tfA 29 20) rfl rfl (any_of HT_.out (by kernel_rfl)) (fun _ _ _ h => h) (Or.inr ⟨by rfl, rfl⟩) ?_ ?_
             rotate_left
             ·simp only [Act.put, sA, s0, s1, i64_w, i32_w]
              rfl
             refine pure_ (i := 29) (N := some 44) (v := undef) (a' := ?_) (tfA 30 19) rfl rfl (any_of HT_.out (by kernel_rfl)) (fun _ _ _ h => h) (Or.inr ⟨by rfl, rfl⟩) ?_ ?_
             rotate_left
             ·simp only [Act.put, sA, s0, s1, i64_w, i32_w]
              rfl
             refine pure_ (i := 30) (N := some 45) (v := undef) (a' := ?_) (tfA 31 18) rfl rfl (any_of HT_.out (by kernel_rfl)) (fun _ _ _ h => h) (Or.inr ⟨by rfl, rfl⟩) ?_ ?_
             rotate_left
             ·simp only [Act.put, sA, s0, s1, i64_w, i32_w]
              rfl
             refine pure_ (i := 31) (N := some 46) (v := ?_) (a' := ?_) (tfA 32 17) rfl rfl (any_of HT_.out (by kernel_rfl)) (fun _ _ _ h => h) (Or.inl ⟨by rfl, ?_⟩) ?_ ?_
             rotate_left
             ·intro w'
              go_simp
              first | with_reducible rfl | (rw [if_neg (by omega)])
             rotate_left
             ·simp only [Act.put, sA, s0, s1, i64_w, i32_w]
              rfl
             refine pure_ (i := 32) (N := some 47) (v := ?_) (a' := ?_) (tfA 33 16) rfl rfl (any_of HT_.out (by kernel_rfl)) (fun _ _ _ h => h) (Or.inl ⟨by rfl, ?_⟩) ?_ ?_
             rotate_left
             ·intro w'
              go_simp
              first | with_reducible rfl | (rw [if_neg (by omega)])
             rotate_left
             ·simp only [Act.put, sA, s0, s1, i64_w, i32_w]
              rfl
             refine pure_ (i := 33) (N := some 48) (v := undef) (a' := ?_) (tfA 34 15) rfl rfl (any_of HT_.out (by kernel_rfl)) (fun _ _ _ h => h) (Or.inr ⟨by rfl, rfl⟩) ?_ ?_
             rotate_left
             ·simp only [Act.put, sA, s0, s1, i64_w, i32_w]
              rfl
             refine pure_ (i := 34) (N := some 49) (v := undef) (a' := ?_) (tfA 35 14) rfl rfl (any_of HT_.out (by kernel_rfl)) (fun _ _ _ h => h) (Or.inr ⟨by rfl, rfl⟩) ?_ ?_
             rotate_left
             ·simp only [Act.put, sA, s0, s1, i64_w, i32_w]
              rfl
             refine pure_ (i := 35) (N := some 50) (v := undef) (a' := ?_) (tfA 36 13) rfl rfl (any_of HT_.out (by kernel_rfl)) (fun _ _ _ h => h) (Or.inr ⟨by rfl, rfl⟩) ?_ ?_
             rotate_left
             ·simp only [Act.put, sA, s0, s1, i64_w, i32_w]
              rfl
             refine pure_ (i := 36) (N := some 51) (v := undef) (a' := ?_) (tfA 37 12) rfl rfl (any_of HT_.out (by kernel_rfl)) (fun _ _ _ h => h) (Or.inr ⟨by rfl, rfl⟩) ?_ ?_
             rotate_left
             ·simp only [Act.put, sA, s0, s1, i64_w, i32_w]
              rfl
             refine pure_ (i := 37) (N := some 52) (v := undef) (a' := ?_) (tfA 38 11) rfl rfl (any_of HT_.out (by kernel_rfl)) (fun _ _ _ h => h) (Or.inr ⟨by rfl, rfl⟩) ?_ ?_
             rotate_left
             ·simp only [Act.put, sA, s0, s1, i64_w, i32_w]
              rfl
             refine pure_ (i := 38) (N := some 53) (v := undef) (a' := ?_) (tfA 39 10) rfl rfl (any_of HT_.out (by kernel_rfl)) (fun _ _ _ h => h) (Or.inr ⟨by rfl, rfl⟩) ?_ ?_
             rotate_left
             ·simp only [Act.put, sA, s0, s1, i64_w, i32_w]
              rfl
             refine pure_ (i := 39) (N := some 54) (v := undef) (a' := ?_) (tfA 40 9) rfl rfl (any_of HT_.out (by kernel_rfl)) (fun _ _ _ h => h) (Or.inr ⟨by rfl, rfl⟩) ?_ ?_
             rotate_left
             ·simp only [Act.put, sA, s0, s1, i64_w, i32_w]
              rfl
             refine pure_ (i := 40) (N := some 55) (v := undef) (a' := ?_) (tfA 41 8) rfl rfl (any_of HT_.out (by kernel_rfl)) (fun _ _ _ h => h) (Or.inr ⟨by rfl, rfl⟩) ?_ ?_
             rotate_left
             ·simp only [Act.put, sA, s0, s1, i64_w, i32_w]
              rfl
             refine pure_ (i := 41) (N := some 56) (v := undef) (a' := ?_) (tfA 42 7) rfl rfl (any_of HT_.out (by kernel_rfl)) (fun _ _ _ h => h) (Or.inr ⟨by rfl, rfl⟩) ?_ ?_
             rotate_left
             ·simp only [Act.put, sA, s0, s1, i64_w, i32_w]
              rfl
             refine pure_ (i := 42) (N := some 57) (v := ?_) (a' := ?_) (tfA 43 6) rfl rfl (any_of HT_.out (by kernel_rfl)) (fun _ _ _ h => h) (Or.inl ⟨by rfl, ?_⟩) ?_ ?_
             rotate_left
             ·intro w'
              go_simp
              first | with_reducible rfl | (rw [if_neg (by omega)])
             rotate_left
             ·simp only [Act.put, sA, s0, s1, i64_w, i32_w]
              rfl
             refine pure_ (i := 43) (N := some 58) (v := ?_) (a' := ?_) (tfA 44 5) rfl rfl (any_of HT_.out (by kernel_rfl)) (fun _ _ _ h => h) (Or.inl ⟨by rfl, ?_⟩) ?_ ?_
             rotate_left
             ·intro w'
              go_simp
              first | with_reducible rfl | (rw [if_neg (by omega)])
             rotate_left
             ·simp only [Act.put, sA, s0, s1, i64_w, i32_w]
              rfl
             refine pure_ (i := 44) (N := some 59) (v := undef) (a' := ?_) (tfA 45 4) rfl rfl (any_of HT_.out (by kernel_rfl)) (fun _ _ _ h => h) (Or.inr ⟨by rfl, rfl⟩) ?_ ?_
             rotate_left
             ·simp only [Act.put, sA, s0, s1, i64_w, i32_w]
              rfl
             refine pure_ (i := 45) (N := some 60) (v := undef) (a' := ?_) (tfA 46 3) rfl rfl (any_of HT_.out (by kernel_rfl)) (fun _ _ _ h => h) (Or.inr ⟨by rfl, rfl⟩) ?_ ?_
             rotate_left
             ·simp only [Act.put, sA, s0, s1, i64_w, i32_w]
              rfl
             refine pure_ (i := 46) (N := some 61) (v := undef) (a' := ?_) (tfA 47 2) rfl rfl (any_of HT_.out (by kernel_rfl)) (fun _ _ _ h => h) (Or.inr ⟨by rfl, rfl⟩) ?_ ?_
             rotate_left
             ·simp only [Act.put, sA, s0, s1, i64_w, i32_w]
              rfl
             refine pure_ (i := 47) (N := some 62) (v := undef) (a' := ?_) (tfA 48 1) rfl rfl (any_of HT_.out (by kernel_rfl)) (fun _ _ _ h => h) (Or.inr ⟨by rfl, rfl⟩) ?_ ?_
             rotate_left
             ·simp only [Act.put, sA, s0, s1, i64_w, i32_w]
              rfl
             refine pure_ (i := 48) (N := some 63) (v := ?_) (a' := ?_) (tfA 49 0) rfl rfl (any_of HT_.out (by kernel_rfl)) (fun _ _ _ h => h) (Or.inl ⟨by rfl, ?_⟩) ?_ ?_
             rotate_left
             ·intro w'
              go_simp
              first | with_reducible rfl | (rw [if_neg (by omega)])
             rotate_left
             ·simp only [Act.put, sA, s0, s1, i64_w, i32_w]
              rfl
             refine done_ (done_of HT_.out (by kernel_rfl)) ?_
             try go_wp2
             go_meet
             case rel => exact ⟨_, (true), (by first | rfl | (simp; done) | (simp [*]; done) | (simp [bne_nil]; done) | (simp [bne_nil, *]; done)), H', ⟨by have := HK1.out; first | omega | exact Nat.le_refl _⟩, ⟨by refine bY ?_; exact BK104.out⟩, ⟨by repeat (first | (with_reducible first | exact HB.out | apply below_alloc | apply pw_below_drewN | apply below_drew1 | refine below_set ?_ GE104.out) | exact HB.out)⟩⟩
            ·rw [if_neg c18] at H
             have c18b0 : decide (0 ≤ t109) = false := decide_eq_false c18
             clear c18
             by_cases c21 : (((rd_T48 l0 x11_1).f1).length : Int) < 1
             ·rw [if_pos c21] at H
              exact absurd H (by simp)
             ·rw [if_neg c21] at H
              have c21b0 : decide ((((rd_T48 l0 x11_1).f1).length : Int) < 1) = false := decide_eq_false c21
              have c21b1 : decide (((rd_T48 l0 x11_1).f1).length < 1) = false := decide_eq_false (by omega)
              clear c21
              by_cases c22 : 0 < (l0.length : Int)
              ·rw [if_pos c22] at H
               have c22b0 : decide (0 < (l0.length : Int)) = true := decide_eq_true c22
               have c22b1 : decide (0 < l0.length) = true := decide_eq_true (by omega)
               clear c22
               by_cases c23 : (((rd_T48 l0 x11_1).f1).length : Int) = (((rd_T48 l0 0).f1).length : Int)
               ·rw [if_pos c23] at H
                have c23b0 : ((((rd_T48 l0 x11_1).f1).length : Int) == (((rd_T48 l0 0).f1).length : Int)) = true := beq_iff_eq.mpr c23
                have c23b1 : ((((rd_T48 l0 x11_1).f1).length : Int) != (((rd_T48 l0 0).f1).length : Int)) = false := bne_eq_false_iff_eq.mpr c23
                have c23b2 : (((rd_T48 l0 x11_1).f1).length == ((rd_T48 l0 0).f1).length) = true := by first | simpa using c23 | (simp at c23 ⊢; omega)
                clear c23
                replace H := Option.bind_eq_some_iff.mp H
                obtain ⟨t111, A240, H⟩ := H
                have A24 := Aside0.mk A240
                clear A240
                have H' := Aside0.mk H
                clear H
                try go_wp2
                have n0_ : Aside0 ((((w6.setCell ⟨gb104, 0, none⟩ (.string ((rd_T48 l0 x11_1).f0))).setCell ⟨gb104, 1, none⟩ (.slice A103_1 ((rd_T48 l0 x11_1).f1).length c103_1)).setCell ⟨gb104, 2, none⟩ (.slice A103_2 ((rd_T48 l0 x11_1).f2).length c103_2)).heap[gb104]? = some (.cells #[.string ((rd_T48 l0 x11_1).f0), .slice A103_1 ((rd_T48 l0 x11_1).f1).length c103_1, .slice A103_2 ((rd_T48 l0 x11_1).f2).length c103_2] 48 (0, 0))) := ⟨by refine bY ?_; refine blk_put (cs := #[.string ((rd_T48 l0 x11_1).f0), .slice A103_1 ((rd_T48 l0 x11_1).f1).length c103_1, .slice none 0 0]) ?_ 2 _ rfl; refine bY ?_; refine blk_put (cs := #[.string ((rd_T48 l0 x11_1).f0), .slice none 0 0, .slice none 0 0]) ?_ 1 _ rfl; refine bY ?_; refine blk_put (cs := #[.string (⟨#[]⟩ : ByteArray), .slice none 0 0, .slice none 0 0]) ?_ 0 _ rfl; refine bY ?_; exact BK104.out⟩
                have n1_ : Aside0 (Below w.heap.size w (((w6.setCell ⟨gb104, 0, none⟩ (.string ((rd_T48 l0 x11_1).f0))).setCell ⟨gb104, 1, none⟩ (.slice A103_1 ((rd_T48 l0 x11_1).f1).length c103_1)).setCell ⟨gb104, 2, none⟩ (.slice A103_2 ((rd_T48 l0 x11_1).f2).length c103_2))) := ⟨by repeat (first | (with_reducible first | exact HB.out | apply below_alloc | apply pw_below_drewN | apply below_drew1 | refine below_set ?_ GE104.out) | exact HB.out)⟩
                (try clear BK104)
                (try clear HB)
                generalize (((w6.setCell ⟨gb104, 0, none⟩ (.string ((rd_T48 l0 x11_1).f0))).setCell ⟨gb104, 1, none⟩ (.slice A103_1 ((rd_T48 l0 x11_1).f1).length c103_1)).setCell ⟨gb104, 2, none⟩ (.slice A103_2 ((rd_T48 l0 x11_1).f2).length c103_2)) = w25 at n0_ n1_ ⊢
                have BK104 := n0_
                have HB := n1_
                clear n0_ n1_
                have n0_ := Aside0.mk (blk_drew BK104.out)
                have n1_ := Aside0.mk (below_drew1 HB.out)
                clear BK104
                clear HB
                have BK104 := n0_
                have HB := n1_
                clear n0_ n1_
                have p106 : 0 ≤ (0 : Int) := (by omega)
                have q106 : 0 < (((rd_T48 l0 x11_1).f2).length : Int) := of_decide_eq_true (by first | (with_reducible assumption) | assumption)
                obtain ⟨ad106, e106, hx106_0⟩ := Kd.at_string HR103_2.out 0 p106 q106
                have hw106_0 := hx106_0
                (try rw [show ((0 : Int)).toNat = 0 from rfl] at hw106_0)
                (try rw [show 0 * 1 = 0 from rfl] at hw106_0)
                (try rw [Addr.add_zero'] at hw106_0)
                cases e106
                have qi106 : (0 < ((rd_T48 l0 x11_1).f2).length) = True := eq_true (by omega)
                (try rw [show ((0 : Int)).toNat = 0 from rfl] at hx106_0)
                (try rw [Addr.add_zero'] at hx106_0)
                replace hx106_0 := (HB.out.cell (World.block_lt_of_cell? w _ hx106_0)).trans hx106_0
                replace p106 := eq_true p106
                replace q106 := eq_true q106
                have p108 : 0 ≤ (1 : Int) := (by omega)
                have q108 : 1 < (((rd_T48 l0 x11_1).f2).length : Int) := of_decide_eq_true (by first | (with_reducible assumption) | assumption)
                obtain ⟨ad108, e108, hx108_0⟩ := Kd.at_string HR103_2.out 1 p108 q108
                have hw108_0 := hx108_0
                (try rw [show ((1 : Int)).toNat = 1 from rfl] at hw108_0)
                (try rw [show 1 * 1 = 1 from rfl] at hw108_0)
                (try simp only [Nat.reduceMul, Nat.reduceEqDiff, Go.Addr.add, ↓reduceIte] at hw108_0)
                obtain rfl : ad106 = ad108 := (by injection e108)
                (try simp only [show (1 : Int).toNat = 1 from rfl, Nat.reduceMul, Nat.reduceEqDiff, Go.Addr.add, ↓reduceIte] at hx108_0)
                have qi108 : (1 < ((rd_T48 l0 x11_1).f2).length) = True := eq_true (by omega)
                (try rw [show ((1 : Int)).toNat = 1 from rfl] at hx108_0)
                replace hx108_0 := (HB.out.cell (World.block_lt_of_cell? w _ hx108_0)).trans hx108_0
                replace p108 := eq_true p108
                replace q108 := eq_true q108
                have p110 : 0 ≤ (0 : Int) := (by omega)
                have q110 : 0 < (l0.length : Int) := of_decide_eq_true (by first | (with_reducible assumption) | assumption)
                obtain ⟨ad110, A110_1, c110_1, A110_2, c110_2, e110, hx110_0, hx110_1, hx110_2, hl110_1, hi110_1, hl110_2, hi110_2⟩ := at_T48 HR0.out 0 p110 q110
                have hw110_2 := hx110_2
                (try rw [show ((0 : Int)).toNat = 0 from rfl] at hw110_2)
                (try rw [show 0 * 3 = 0 from rfl] at hw110_2)
                (try rw [Addr.add_zero'] at hw110_2)
                have hw110_1 := hx110_1
                (try rw [show ((0 : Int)).toNat = 0 from rfl] at hw110_1)
                (try rw [show 0 * 3 = 0 from rfl] at hw110_1)
                (try rw [Addr.add_zero'] at hw110_1)
                have hw110_0 := hx110_0
                (try rw [show ((0 : Int)).toNat = 0 from rfl] at hw110_0)
                (try rw [show 0 * 3 = 0 from rfl] at hw110_0)
                (try rw [Addr.add_zero'] at hw110_0)
                obtain rfl : ad103 = ad110 := (by injection e110)
                have qi110 : (0 < l0.length) = True := eq_true (by omega)
                (try rw [show ((0 : Int)).toNat = 0 from rfl] at hx110_0)
                (try rw [show 0 * 3 = 0 from rfl] at hx110_0)
                (try rw [Addr.add_zero'] at hx110_0)
                (try rw [show ((0 : Int)).toNat = 0 from rfl] at hx110_1)
                (try rw [show 0 * 3 = 0 from rfl] at hx110_1)
                (try rw [Addr.add_zero'] at hx110_1)
                (try rw [show ((0 : Int)).toNat = 0 from rfl] at hx110_2)
                (try rw [show 0 * 3 = 0 from rfl] at hx110_2)
                (try rw [Addr.add_zero'] at hx110_2)
                replace hx110_0 := (HB.out.cell (World.block_lt_of_cell? w _ hx110_0)).trans hx110_0
                replace hx110_1 := (HB.out.cell (World.block_lt_of_cell? w _ hx110_1)).trans hx110_1
                replace hx110_2 := (HB.out.cell (World.block_lt_of_cell? w _ hx110_2)).trans hx110_2
                have HR110_1 := Aside0.mk hi110_1
                have HC110_1 := Aside0.mk hl110_1
                clear hi110_1 hl110_1
                have HR110_2 := Aside0.mk hi110_2
                have HC110_2 := Aside0.mk hl110_2
                clear hi110_2 hl110_2
                replace p110 := eq_true p110
                replace q110 := eq_true q110
                refine start_ (n := 49) (S := fun w' => w'.cell? ⟨gb104, 0, none⟩ = some (.string ((rd_T48 l0 x11_1).f0)) ∧ w'.cell? ⟨gb104, 1, none⟩ = some (.slice A103_1 ((rd_T48 l0 x11_1).f1).length c103_1) ∧ w'.cell? ⟨gb104, 2, none⟩ = some (.slice (some ad106) ((rd_T48 l0 x11_1).f2).length c103_2) ∧ w'.cell? ad106 = some (.string (rdOf ByteArray.empty ((rd_T48 l0 x11_1).f2) 0)) ∧ w'.cell? ⟨ad106.block, ad106.off + 1, none⟩ = some (.string (rdOf ByteArray.empty ((rd_T48 l0 x11_1).f2) 1)) ∧ w'.cell? ad103 = some (.string ((rd_T48 l0 0).f0)) ∧ w'.cell? ⟨ad103.block, ad103.off + 1, none⟩ = some (.slice A110_1 ((rd_T48 l0 0).f1).length c110_1) ∧ w'.cell? ⟨ad103.block, ad103.off + 2, none⟩ = some (.slice A110_2 ((rd_T48 l0 0).f2).length c110_2)) (ds := []) (tfA 0 49) (by kernel_rfl) rfl rfl ⟨(blk_cell BK104.out 0).trans rfl, (blk_cell BK104.out 1).trans rfl, (blk_cell BK104.out 2).trans rfl, ((HB.out.cell (World.block_lt_of_cell? w _ hw106_0)).trans hw106_0), ((HB.out.cell (World.block_lt_of_cell? w _ hw108_0)).trans hw108_0), ((HB.out.cell (World.block_lt_of_cell? w _ hw110_0)).trans hw110_0), ((HB.out.cell (World.block_lt_of_cell? w _ hw110_1)).trans hw110_1), ((HB.out.cell (World.block_lt_of_cell? w _ hw110_2)).trans hw110_2)⟩ (fun hHeld => ?_); refine with_tabW spec_BuddyinfoPrint.tab5 spec_BuddyinfoPrint.bits5 (fun HT_ HW_ => ?_)
                generalize w25.drew = w26 at BK104 HB HR110_1 HR110_2 hx106_0 hx108_0 hx110_0 hx110_1 hx110_2 hHeld ⊢
                refine pure_ (i := 0) (N := some 15) (v := ?_) (a' := ?_) (tfA 1 48) rfl rfl (any_of HT_.out (by kernel_rfl)) (fun _ _ _ h => h) (Or.inl ⟨by rfl, ?_⟩) ?_ ?_
                rotate_left
                ·intro w'
                 go_simp
                 first | with_reducible rfl | (rw [if_neg (by omega)])
                rotate_left
                ·simp only [Act.put, sA, s0, s1, i64_w, i32_w]
                 rfl
                refine take_ (i := 1) (N := some 16) (v := ?_) (a' := ?_) (tfA 2 47) rfl rfl (take_ofW HT_.out HW_.out (by kernel_rfl)) (fun _ _ _ h => h) (Or.inl ⟨by rfl, ?_⟩) hHeld ?_ ?_
                rotate_left
                ·rintro w' ⟨s0, s1, s2, s3, s4, s5, s6, s7⟩
                 go_simp
                 first | with_reducible rfl | (rw [if_neg (by omega)])
                rotate_left
                ·simp only [Act.put, sA, s0, s1, i64_w, i32_w]
                 rfl
                refine pure_ (i := 2) (N := some 17) (v := ?_) (a' := ?_) (tfA 3 46) rfl rfl (any_of HT_.out (by kernel_rfl)) (fun _ _ _ h => h) (Or.inl ⟨by rfl, ?_⟩) ?_ ?_
                rotate_left
                ·intro w'
                 go_simp
                 first | with_reducible rfl | (rw [if_neg (by omega)])
                rotate_left
                ·simp only [Act.put, sA, s0, s1, i64_w, i32_w]
                 rfl
                refine pure_ (i := 3) (N := some 18) (v := ?_) (a' := ?_) (tfA 4 45) rfl rfl (any_of HT_.out (by kernel_rfl)) (fun _ _ _ h => h) (Or.inl ⟨by rfl, ?_⟩) ?_ ?_
                rotate_left
                ·intro w'
                 go_simp
                 first | with_reducible rfl | (rw [if_neg (by omega)])
                rotate_left
                ·simp only [Act.put, sA, s0, s1, i64_w, i32_w]
                 rfl
                refine pure_ (i := 4) (N := some 19) (v := ?_) (a' := ?_) (tfA 5 44) rfl rfl (any_of HT_.out (by kernel_rfl)) (fun _ _ _ h => h) (Or.inl ⟨by rfl, ?_⟩) ?_ ?_
                rotate_left
                ·intro w'
                 go_simp
                 first | with_reducible rfl | (rw [if_neg (by omega)])
                rotate_left
                ·simp only [Act.put, sA, s0, s1, i64_w, i32_w]
                 rfl
                refine pure_ (i := 5) (N := some 20) (v := ?_) (a' := ?_) (tfA 6 43) rfl rfl (any_of HT_.out (by kernel_rfl)) (fun _ _ _ h => h) (Or.inl ⟨by rfl, ?_⟩) ?_ ?_
                rotate_left
                ·intro w'
                 go_simp
                 first | with_reducible rfl | (rw [if_neg (by omega)])
                rotate_left
                ·simp only [Act.put, sA, s0, s1, i64_w, i32_w]
                 rfl
                refine take_ (i := 6) (N := some 21) (v := ?_) (a' := ?_) (tfA 7 42) rfl rfl (take_ofW HT_.out HW_.out (by kernel_rfl)) (fun _ _ _ h => h) (Or.inl ⟨by rfl, ?_⟩) hHeld ?_ ?_
                rotate_left
                ·rintro w' ⟨s0, s1, s2, s3, s4, s5, s6, s7⟩
                 go_simp
                 first | with_reducible rfl | (rw [if_neg (by omega)])
                rotate_left
                ·simp only [Act.put, sA, s0, s1, i64_w, i32_w]
                 rfl
                refine one_ (i := 7) (N := some 22) (tfA 8 41) rfl rfl (one_of HT_.out (by kernel_rfl)) (by decide) (fun K hK => ?_)
                refine goes_ Tryz.func57 (by kernel_rfl) rfl #[.slice (some ad106) ((rd_T48 l0 x11_1).f2).length c103_2] (by rfl) rfl rfl (by (try simp only [List.map_toArray, List.map_cons, List.map_nil]); first | done | rfl | (simp only [List.length_drop, List.length_take]; rfl)) ?_
                with_reducible refine (spec_words.calls k1 _ _ ((rd_T48 l0 x11_1).f2) true _ ?side1 ?side2 A9.out).mono ?_
                (case side1 => repeat (first | exact (Kd.C_below HR103_2.out HB.out) | (with_reducible refine Kd.C_alloc ?_ _) | (with_reducible refine Kd.C_drewN ?_ _) | (with_reducible refine Kd.C_drew ?_)))
                (case side2 => exact HC103_2.out)
                rintro e w' ⟨rfl, ⟨nd, rfl⟩⟩
                refine ⟨_, rfl, ?_⟩
                refine hK.out _ _ ⟨(blk_cell BK104.out 0).trans rfl, (blk_cell BK104.out 1).trans rfl, (blk_cell BK104.out 2).trans rfl, ((HB.out.cell (World.block_lt_of_cell? w _ hw106_0)).trans hw106_0), ((HB.out.cell (World.block_lt_of_cell? w _ hw108_0)).trans hw108_0), ((HB.out.cell (World.block_lt_of_cell? w _ hw110_0)).trans hw110_0), ((HB.out.cell (World.block_lt_of_cell? w _ hw110_1)).trans hw110_1), ((HB.out.cell (World.block_lt_of_cell? w _ hw110_2)).trans hw110_2)⟩ (fun hHeld => ?_)
                clear hK K
                refine norm_ (a' := ?_) ?_ ?_
                rotate_left
                ·show Act.put _ (some 22) _ = _
                 simp only [Act.put, sA, s0, s1, i64_w, i32_w]
                 rfl
                refine pure_ (i := 8) (N := some 23) (v := ?_) (a' := ?_) (tfA 9 40) rfl rfl (any_of HT_.out (by kernel_rfl)) (fun _ _ _ h => h) (Or.inl ⟨by rfl, ?_⟩) ?_ ?_
                rotate_left
                ·intro w'
                 go_simp
                 first | with_reducible rfl | (rw [if_neg (by omega)])
                rotate_left
                ·simp only [Act.put, sA, s0, s1, i64_w, i32_w]
                 rfl
                refine pure_ (i := 9) (N := some 24) (v := ?_) (a' := ?_) (tfA 10 39) rfl rfl (any_of HT_.out (by kernel_rfl)) (fun _ _ _ h => h) (Or.inl ⟨by rfl, ?_⟩) ?_ ?_
                rotate_left
                ·intro w'
                 go_simp
                 first | with_reducible rfl | (rw [if_neg (by omega)])
                rotate_left
                ·simp only [Act.put, sA, s0, s1, i64_w, i32_w]
                 rfl
                refine pure_ (i := 10) (N := some 25) (v := ?_) (a' := ?_) (tfA 11 38) rfl rfl (any_of HT_.out (by kernel_rfl)) (fun _ _ _ h => h) (Or.inl ⟨by rfl, ?_⟩) ?_ ?_
                rotate_left
                ·intro w'
                 go_simp
                 first | with_reducible rfl | (rw [if_neg (by omega)])
                rotate_left
                ·simp only [Act.put, sA, s0, s1, i64_w, i32_w]
                 rfl
                refine pure_ (i := 11) (N := some 26) (v := ?_) (a' := ?_) (tfA 12 37) rfl rfl (any_of HT_.out (by kernel_rfl)) (fun _ _ _ h => h) (Or.inl ⟨by rfl, ?_⟩) ?_ ?_
                rotate_left
                ·intro w'
                 go_simp
                 first | with_reducible rfl | (rw [if_neg (by omega)])
                rotate_left
                ·simp only [Act.put, sA, s0, s1, i64_w, i32_w]
                 rfl
                refine take_ (i := 12) (N := some 27) (v := ?_) (a' := ?_) (tfA 13 36) rfl rfl (take_ofW HT_.out HW_.out (by kernel_rfl)) (fun _ _ _ h => h) (Or.inl ⟨by rfl, ?_⟩) hHeld ?_ ?_
                rotate_left
                ·rintro w' ⟨s0, s1, s2, s3, s4, s5, s6, s7⟩
                 go_simp
                 first | with_reducible rfl | (rw [if_neg (by omega)])
                rotate_left
                ·simp only [Act.put, sA, s0, s1, i64_w, i32_w]
                 rfl
                refine pure_ (i := 13) (N := some 28) (v := ?_) (a' := ?_) (tfA 14 35) rfl rfl (any_of HT_.out (by kernel_rfl)) (fun _ _ _ h => h) (Or.inl ⟨by rfl, ?_⟩) ?_ ?_
                rotate_left
                ·intro w'
                 go_simp
                 first | with_reducible rfl | (rw [if_neg (by omega)])
                rotate_left
                ·simp only [Act.put, sA, s0, s1, i64_w, i32_w]
                 rfl
                refine take_ (i := 14) (N := some 29) (v := ?_) (a' := ?_) (tfA 15 34) rfl rfl (take_ofW HT_.out HW_.out (by kernel_rfl)) (fun _ _ _ h => h) (Or.inl ⟨by rfl, ?_⟩) hHeld ?_ ?_
                rotate_left
                ·rintro w' ⟨s0, s1, s2, s3, s4, s5, s6, s7⟩
                 go_simp
                 first | with_reducible rfl | (rw [if_neg (by omega)])
                rotate_left
                ·simp only [Act.put, sA, s0, s1, i64_w, i32_w]
                 rfl
                refine one_ (i := 15) (N := some 30) (tfA 16 33) rfl rfl (one_of HT_.out (by kernel_rfl)) (by decide) (fun K hK => ?_)
                refine goes_ Tryz.func58 (by kernel_rfl) rfl #[.string (rdOf ByteArray.empty ((rd_T48 l0 x11_1).f2) 0), .int .u8 44] (by rfl) rfl rfl (by (try simp only [List.map_toArray, List.map_cons, List.map_nil]); first | done | rfl | (simp only [List.length_drop, List.length_take]; rfl)) ?_
                with_reducible refine (spec_Where.calls k1 (rdOf ByteArray.empty ((rd_T48 l0 x11_1).f2) 0) 44 t107 _ A12.out).mono ?_
                rintro e w' ⟨rfl, ⟨nd, rfl⟩⟩
                refine ⟨_, rfl, ?_⟩
                refine hK.out _ _ ⟨(blk_cell BK104.out 0).trans rfl, (blk_cell BK104.out 1).trans rfl, (blk_cell BK104.out 2).trans rfl, ((HB.out.cell (World.block_lt_of_cell? w _ hw106_0)).trans hw106_0), ((HB.out.cell (World.block_lt_of_cell? w _ hw108_0)).trans hw108_0), ((HB.out.cell (World.block_lt_of_cell? w _ hw110_0)).trans hw110_0), ((HB.out.cell (World.block_lt_of_cell? w _ hw110_1)).trans hw110_1), ((HB.out.cell (World.block_lt_of_cell? w _ hw110_2)).trans hw110_2)⟩ (fun hHeld => ?_)
                clear hK K
                refine norm_ (a' := ?_) ?_ ?_
                rotate_left
                ·show Act.put _ (some 30) _ = _
                 simp only [Act.put, sA, s0, s1, i64_w, i32_w]
                 rfl
                refine pure_ (i := 16) (N := some 31) (v := ?_) (a' := ?_) (tfA 17 32) rfl rfl (any_of HT_.out (by kernel_rfl)) (fun _ _ _ h => h) (Or.inl ⟨by rfl, ?_⟩) ?_ ?_
                rotate_left
                ·intro w'
                 go_simp
                 first | with_reducible rfl | (rw [if_neg (by omega)])
                rotate_left
                ·simp only [Act.put, sA, s0, s1, i64_w, i32_w]
                 rfl
                refine pure_ (i := 17) (N := some 32) (v := ?_) (a' := ?_) (tfA 18 31) rfl rfl (any_of HT_.out (by kernel_rfl)) (fun _ _ _ h => h) (Or.inl ⟨by rfl, ?_⟩) ?_ ?_
                rotate_left
                ·intro w'
                 go_simp
                 first | with_reducible rfl | (rw [if_neg (by omega)])
                rotate_left
                ·simp only [Act.put, sA, s0, s1, i64_w, i32_w]
                 rfl
                refine pure_ (i := 18) (N := some 33) (v := ?_) (a' := ?_) (tfA 19 30) rfl rfl (any_of HT_.out (by kernel_rfl)) (fun _ _ _ h => h) (Or.inl ⟨by rfl, ?_⟩) ?_ ?_
                rotate_left
                ·intro w'
                 go_simp
                 first | with_reducible rfl | (rw [if_neg (by omega)])
                rotate_left
                ·simp only [Act.put, sA, s0, s1, i64_w, i32_w]
                 rfl
                refine pure_ (i := 19) (N := some 34) (v := ?_) (a' := ?_) (tfA 20 29) rfl rfl (any_of HT_.out (by kernel_rfl)) (fun _ _ _ h => h) (Or.inl ⟨by rfl, ?_⟩) ?_ ?_
                rotate_left
                ·intro w'
                 go_simp
                 first | with_reducible rfl | (rw [if_neg (by omega)])
                rotate_left
                ·simp only [Act.put, sA, s0, s1, i64_w, i32_w]
                 rfl
                refine take_ (i := 20) (N := some 35) (v := ?_) (a' := ?_) (tfA 21 28) rfl rfl (take_ofW HT_.out HW_.out (by kernel_rfl)) (fun _ _ _ h => h) (Or.inl ⟨by rfl, ?_⟩) hHeld ?_ ?_
                rotate_left
                ·rintro w' ⟨s0, s1, s2, s3, s4, s5, s6, s7⟩
                 go_simp
                 first | with_reducible rfl | (rw [if_neg (by omega)])
                rotate_left
                ·simp only [Act.put, sA, s0, s1, i64_w, i32_w]
                 rfl
                refine pure_ (i := 21) (N := some 36) (v := ?_) (a' := ?_) (tfA 22 27) rfl rfl (any_of HT_.out (by kernel_rfl)) (fun _ _ _ h => h) (Or.inl ⟨by rfl, ?_⟩) ?_ ?_
                rotate_left
                ·intro w'
                 go_simp
                 first | with_reducible rfl | (rw [if_neg (by omega)])
                rotate_left
                ·simp only [Act.put, sA, s0, s1, i64_w, i32_w]
                 rfl
                refine take_ (i := 22) (N := some 37) (v := ?_) (a' := ?_) (tfA 23 26) rfl rfl (take_ofW HT_.out HW_.out (by kernel_rfl)) (fun _ _ _ h => h) (Or.inl ⟨by rfl, ?_⟩) hHeld ?_ ?_
                rotate_left
                ·rintro w' ⟨s0, s1, s2, s3, s4, s5, s6, s7⟩
                 go_simp
                 first | with_reducible rfl | (rw [if_neg (by omega)])
                rotate_left
                ·simp only [Act.put, sA, s0, s1, i64_w, i32_w]
                 rfl
                refine one_ (i := 23) (N := some 38) (tfA 24 25) rfl rfl (one_of HT_.out (by kernel_rfl)) (by decide) (fun K hK => ?_)
                refine goes_ Tryz.func58 (by kernel_rfl) rfl #[.string (rdOf ByteArray.empty ((rd_T48 l0 x11_1).f2) 1), .int .u8 44] (by rfl) rfl rfl (by (try simp only [List.map_toArray, List.map_cons, List.map_nil]); first | done | rfl | (simp only [List.length_drop, List.length_take]; rfl)) ?_
                with_reducible refine (spec_Where.calls k1 (rdOf ByteArray.empty ((rd_T48 l0 x11_1).f2) 1) 44 t109 _ A17.out).mono ?_
                rintro e w' ⟨rfl, ⟨nd, rfl⟩⟩
                refine ⟨_, rfl, ?_⟩
                refine hK.out _ _ ⟨(blk_cell BK104.out 0).trans rfl, (blk_cell BK104.out 1).trans rfl, (blk_cell BK104.out 2).trans rfl, ((HB.out.cell (World.block_lt_of_cell? w _ hw106_0)).trans hw106_0), ((HB.out.cell (World.block_lt_of_cell? w _ hw108_0)).trans hw108_0), ((HB.out.cell (World.block_lt_of_cell? w _ hw110_0)).trans hw110_0), ((HB.out.cell (World.block_lt_of_cell? w _ hw110_1)).trans hw110_1), ((HB.out.cell (World.block_lt_of_cell? w _ hw110_2)).trans hw110_2)⟩ (fun hHeld => ?_)
                clear hK K
                refine norm_ (a' := ?_) ?_ ?_
                rotate_left
                ·show Act.put _ (some 38) _ = _
                 simp only [Act.put, sA, s0, s1, i64_w, i32_w]
                 rfl
                refine pure_ (i := 24) (N := some 39) (v := ?_) (a' := ?_) (tfA 25 24) rfl rfl (any_of HT_.out (by kernel_rfl)) (fun _ _ _ h => h) (Or.inl ⟨by rfl, ?_⟩) ?_ ?_
                rotate_left
                ·intro w'
                 go_simp
                 first | with_reducible rfl | (rw [if_neg (by omega)])
                rotate_left
                ·simp only [Act.put, sA, s0, s1, i64_w, i32_w]
                 rfl
                refine pure_ (i := 25) (N := some 40) (v := ?_) (a' := ?_) (tfA 26 23) rfl rfl (any_of HT_.out (by kernel_rfl)) (fun _ _ _ h => h) (Or.inl ⟨by rfl, ?_⟩) ?_ ?_
                rotate_left
                ·intro w'
                 go_simp
                 first | with_reducible rfl | (rw [if_neg (by omega)])
                rotate_left
                ·simp only [Act.put, sA, s0, s1, i64_w, i32_w]
                 rfl
                refine pure_ (i := 26) (N := some 41) (v := ?_) (a' := ?_) (tfA 27 22) rfl rfl (any_of HT_.out (by kernel_rfl)) (fun _ _ _ h => h) (Or.inl ⟨by rfl, ?_⟩) ?_ ?_
                rotate_left
                ·intro w'
                 go_simp
                 first | with_reducible rfl | (rw [if_neg (by omega)])
                rotate_left
                ·simp only [Act.put, sA, s0, s1, i64_w, i32_w]
                 rfl
                refine pure_ (i := 27) (N := some 42) (v := ?_) (a' := ?_) (tfA 28 21) rfl rfl (any_of HT_.out (by kernel_rfl)) (fun _ _ _ h => h) (Or.inl ⟨by rfl, ?_⟩) ?_ ?_
                rotate_left
                ·intro w'
                 go_simp
                 first | with_reducible rfl | (rw [if_neg (by omega)])
                rotate_left
                ·simp only [Act.put, sA, s0, s1, i64_w, i32_w]
                 rfl
                refine take_ (i := 28) (N := some 43) (v := ?_) (a' := ?_) (tfA 29 20) rfl rfl (take_ofW HT_.out HW_.out (by kernel_rfl)) (fun _ _ _ h => h) (Or.inl ⟨by rfl, ?_⟩) hHeld ?_ ?_
                rotate_left
                ·rintro w' ⟨s0, s1, s2, s3, s4, s5, s6, s7⟩
                 go_simp
                 first | with_reducible rfl | (rw [if_neg (by omega)])
                rotate_left
                ·simp only [Act.put, sA, s0, s1, i64_w, i32_w]
                 rfl
                refine pure_ (i := 29) (N := some 44) (v := ?_) (a' := ?_) (tfA 30 19) rfl rfl (any_of HT_.out (by kernel_rfl)) (fun _ _ _ h => h) (Or.inl ⟨by rfl, ?_⟩) ?_ ?_
                rotate_left
                ·intro w'
                 go_simp
                 first | with_reducible rfl | (rw [if_neg (by omega)])
                rotate_left
                ·simp only [Act.put, sA, s0, s1, i64_w, i32_w]
                 rfl
                refine pure_ (i := 30) (N := some 45) (v := ?_) (a' := ?_) (tfA 31 18) rfl rfl (any_of HT_.out (by kernel_rfl)) (fun _ _ _ h => h) (Or.inl ⟨by rfl, ?_⟩) ?_ ?_
                rotate_left
                ·intro w'
                 go_simp
                 first | with_reducible rfl | (rw [if_neg (by omega)])
                rotate_left
                ·simp only [Act.put, sA, s0, s1, i64_w, i32_w]
                 rfl
                refine pure_ (i := 31) (N := some 46) (v := ?_) (a' := ?_) (tfA 32 17) rfl rfl (any_of HT_.out (by kernel_rfl)) (fun _ _ _ h => h) (Or.inl ⟨by rfl, ?_⟩) ?_ ?_
                rotate_left
                ·intro w'
                 go_simp
                 first | with_reducible rfl | (rw [if_neg (by omega)])
                rotate_left
                ·simp only [Act.put, sA, s0, s1, i64_w, i32_w]
                 rfl
                refine pure_ (i := 32) (N := some 47) (v := ?_) (a' := ?_) (tfA 33 16) rfl rfl (any_of HT_.out (by kernel_rfl)) (fun _ _ _ h => h) (Or.inl ⟨by rfl, ?_⟩) ?_ ?_
                rotate_left
                ·intro w'
                 go_simp
                 first | with_reducible rfl | (rw [if_neg (by omega)])
                rotate_left
                ·simp only [Act.put, sA, s0, s1, i64_w, i32_w]
                 rfl
                refine pure_ (i := 33) (N := some 48) (v := ?_) (a' := ?_) (tfA 34 15) rfl rfl (any_of HT_.out (by kernel_rfl)) (fun _ _ _ h => h) (Or.inl ⟨by rfl, ?_⟩) ?_ ?_
                rotate_left
                ·intro w'
                 go_simp
                 first | with_reducible rfl | (rw [if_neg (by omega)])
                rotate_left
                ·simp only [Act.put, sA, s0, s1, i64_w, i32_w]
                 rfl
                refine pure_ (i := 36) (N := some 51) (v := ?_) (a' := ?_) (bnA 49 85899345919) rfl rfl (any_of HT_.out (by kernel_rfl)) (fun _ _ _ h => h) (Or.inl ⟨by rfl, ?_⟩) ?_ ?_
                rotate_left
                ·intro w'
                 go_simp
                 first | with_reducible rfl | (rw [if_neg (by omega)])
                rotate_left
                ·simp only [Act.put, sA, s0, s1, i64_w, i32_w]
                 rfl
                refine pure_ (i := 37) (N := some 52) (v := ?_) (a' := ?_) (bnA 49 223338299391) rfl rfl (any_of HT_.out (by kernel_rfl)) (fun _ _ _ h => h) (Or.inl ⟨by rfl, ?_⟩) ?_ ?_
                rotate_left
                ·intro w'
                 go_simp
                 first | with_reducible rfl | (rw [if_neg (by omega)])
                rotate_left
                ·simp only [Act.put, sA, s0, s1, i64_w, i32_w]
                 rfl
                refine pure_ (i := 38) (N := some 53) (v := ?_) (a' := ?_) (bnA 49 498216206335) rfl rfl (any_of HT_.out (by kernel_rfl)) (fun _ _ _ h => h) (Or.inl ⟨by rfl, ?_⟩) ?_ ?_
                rotate_left
                ·intro w'
                 go_simp
                 first | with_reducible rfl | (rw [if_neg (by omega)])
                rotate_left
                ·simp only [Act.put, sA, s0, s1, i64_w, i32_w]
                 rfl
                refine take_ (i := 34) (N := some 49) (v := ?_) (a' := ?_) (bnA 49 515396075519) rfl rfl (take_ofW HT_.out HW_.out (by kernel_rfl)) (fun _ _ _ h => h) (Or.inl ⟨by rfl, ?_⟩) hHeld ?_ ?_
                rotate_left
                ·rintro w' ⟨s0, s1, s2, s3, s4, s5, s6, s7⟩
                 go_simp
                 first | with_reducible rfl | (rw [if_neg (by omega)])
                rotate_left
                ·simp only [Act.put, sA, s0, s1, i64_w, i32_w]
                 rfl
                refine pure_ (i := 35) (N := some 50) (v := ?_) (a' := ?_) (tfA 39 10) rfl rfl (any_of HT_.out (by kernel_rfl)) (fun _ _ _ h => h) (Or.inl ⟨by rfl, ?_⟩) ?_ ?_
                rotate_left
                ·intro w'
                 go_simp
                 first | with_reducible rfl | (rw [if_neg (by omega)])
                rotate_left
                ·simp only [Act.put, sA, s0, s1, i64_w, i32_w]
                 rfl
                refine take_ (i := 39) (N := some 54) (v := ?_) (a' := ?_) (tfA 40 9) rfl rfl (take_ofW HT_.out HW_.out (by kernel_rfl)) (fun _ _ _ h => h) (Or.inl ⟨by rfl, ?_⟩) hHeld ?_ ?_
                rotate_left
                ·rintro w' ⟨s0, s1, s2, s3, s4, s5, s6, s7⟩
                 go_simp
                 first | with_reducible rfl | (rw [if_neg (by omega)])
                rotate_left
                ·simp only [Act.put, sA, s0, s1, i64_w, i32_w]
                 rfl
                refine pure_ (i := 40) (N := some 55) (v := ?_) (a' := ?_) (tfA 41 8) rfl rfl (any_of HT_.out (by kernel_rfl)) (fun _ _ _ h => h) (Or.inl ⟨by rfl, ?_⟩) ?_ ?_
                rotate_left
                ·intro w'
                 go_simp
                 first | with_reducible rfl | (rw [if_neg (by omega)])
                rotate_left
                ·simp only [Act.put, sA, s0, s1, i64_w, i32_w]
                 rfl
                refine pure_ (i := 41) (N := some 56) (v := ?_) (a' := ?_) (tfA 42 7) rfl rfl (any_of HT_.out (by kernel_rfl)) (fun _ _ _ h => h) (Or.inl ⟨by rfl, ?_⟩) ?_ ?_
                rotate_left
                ·intro w'
                 go_simp
                 first | with_reducible rfl | (rw [if_neg (by omega)])
                rotate_left
                ·simp only [Act.put, sA, s0, s1, i64_w, i32_w]
                 rfl
                refine pure_ (i := 42) (N := some 57) (v := ?_) (a' := ?_) (tfA 43 6) rfl rfl (any_of HT_.out (by kernel_rfl)) (fun _ _ _ h => h) (Or.inl ⟨by rfl, ?_⟩) ?_ ?_
                rotate_left
                ·intro w'
                 go_simp
                 first | with_reducible rfl | (rw [if_neg (by omega)])
                rotate_left
                ·simp only [Act.put, sA, s0, s1, i64_w, i32_w]
                 rfl
                refine pure_ (i := 43) (N := some 58) (v := ?_) (a' := ?_) (tfA 44 5) rfl rfl (any_of HT_.out (by kernel_rfl)) (fun _ _ _ h => h) (Or.inl ⟨by rfl, ?_⟩) ?_ ?_
                rotate_left
                ·intro w'
                 go_simp
                 first | with_reducible rfl | (rw [if_neg (by omega)])
                rotate_left
                ·simp only [Act.put, sA, s0, s1, i64_w, i32_w]
                 rfl
                refine pure_ (i := 44) (N := some 59) (v := ?_) (a' := ?_) (tfA 45 4) rfl rfl (any_of HT_.out (by kernel_rfl)) (fun _ _ _ h => h) (Or.inl ⟨by rfl, ?_⟩) ?_ ?_
                rotate_left
                ·intro w'
                 go_simp
                 first | with_reducible rfl | (rw [if_neg (by omega)])
                rotate_left
                ·simp only [Act.put, sA, s0, s1, i64_w, i32_w]
                 rfl
                refine take_ (i := 45) (N := some 60) (v := ?_) (a' := ?_) (tfA 46 3) rfl rfl (take_ofW HT_.out HW_.out (by kernel_rfl)) (fun _ _ _ h => h) (Or.inl ⟨by rfl, ?_⟩) hHeld ?_ ?_
                rotate_left
                ·rintro w' ⟨s0, s1, s2, s3, s4, s5, s6, s7⟩
                 go_simp
                 first | with_reducible rfl | (rw [if_neg (by omega)])
                rotate_left
                ·simp only [Act.put, sA, s0, s1, i64_w, i32_w]
                 rfl
                refine one_ (i := 46) (N := some 61) (tfA 47 2) rfl rfl (one_of HT_.out (by kernel_rfl)) (by decide) (fun K hK => ?_)
                refine goes_ Tryz.func46 (by kernel_rfl) rfl #[.int .u64 1099511627776, .slice A103_1 ((rd_T48 l0 x11_1).f1).length c103_1] (by rfl) rfl rfl (by (try simp only [List.map_toArray, List.map_cons, List.map_nil]); first | done | rfl | (simp only [List.length_drop, List.length_take]; rfl)) ?_
                with_reducible refine (spec_small.calls k1 1099511627776 _ _ ((rd_T48 l0 x11_1).f1) t111 _ ?side1 ?side2 A24.out).mono ?_
                (case side1 => repeat (first | exact (Kd.C_below HR103_1.out belS) | (with_reducible refine Kd.C_alloc ?_ _) | (with_reducible refine Kd.C_drewN ?_ _) | (with_reducible refine Kd.C_drew ?_)))
                (case side2 => exact HC103_1.out)
                rintro e w' ⟨rfl, ⟨nd, rfl⟩⟩
                refine ⟨_, rfl, ?_⟩
                refine hK.out _ _ ⟨(blk_cell BK104.out 0).trans rfl, (blk_cell BK104.out 1).trans rfl, (blk_cell BK104.out 2).trans rfl, ((HB.out.cell (World.block_lt_of_cell? w _ hw106_0)).trans hw106_0), ((HB.out.cell (World.block_lt_of_cell? w _ hw108_0)).trans hw108_0), ((HB.out.cell (World.block_lt_of_cell? w _ hw110_0)).trans hw110_0), ((HB.out.cell (World.block_lt_of_cell? w _ hw110_1)).trans hw110_1), ((HB.out.cell (World.block_lt_of_cell? w _ hw110_2)).trans hw110_2)⟩ (fun hHeld => ?_)
                clear hK K
                refine norm_ (a' := ?_) ?_ ?_
                rotate_left
                ·show Act.put _ (some 61) _ = _
                 simp only [Act.put, sA, s0, s1, i64_w, i32_w]
                 rfl
                refine pure_ (i := 47) (N := some 62) (v := ?_) (a' := ?_) (tfA 48 1) rfl rfl (any_of HT_.out (by kernel_rfl)) (fun _ _ _ h => h) (Or.inl ⟨by rfl, ?_⟩) ?_ ?_
                rotate_left
                ·intro w'
                 go_simp
                 first | with_reducible rfl | (rw [if_neg (by omega)])
                rotate_left
                ·simp only [Act.put, sA, s0, s1, i64_w, i32_w]
                 rfl
                refine pure_ (i := 48) (N := some 63) (v := ?_) (a' := ?_) (tfA 49 0) rfl rfl (any_of HT_.out (by kernel_rfl)) (fun _ _ _ h => h) (Or.inl ⟨by rfl, ?_⟩) ?_ ?_
                rotate_left
                ·intro w'
                 go_simp
                 first | with_reducible rfl | (rw [if_neg (by omega)])
                rotate_left
                ·simp only [Act.put, sA, s0, s1, i64_w, i32_w]
                 rfl
                refine done_ (done_of HT_.out (by kernel_rfl)) ?_
                try go_wp2
                go_meet
                case rel => exact ⟨_, (!t111), (by first | rfl | (simp; done) | (simp [*]; done) | (simp [bne_nil]; done) | (simp [bne_nil, *]; done)), H', ⟨by have := HK1.out; first | omega | exact Nat.le_refl _⟩, ⟨by refine bY ?_; exact BK104.out⟩, ⟨by repeat (first | (with_reducible first | exact HB.out | apply below_alloc | apply pw_below_drewN | apply below_drew1 | refine below_set ?_ GE104.out) | exact HB.out)⟩⟩
               ·rw [if_neg c23] at H
                have c23b0 : ((((rd_T48 l0 x11_1).f1).length : Int) == (((rd_T48 l0 0).f1).length : Int)) = false := beq_eq_false_iff_ne.mpr c23
                have c23b1 : ((((rd_T48 l0 x11_1).f1).length : Int) != (((rd_T48 l0 0).f1).length : Int)) = true := bne_iff_ne.mpr c23
                have c23b2 : (((rd_T48 l0 x11_1).f1).length == ((rd_T48 l0 0).f1).length) = false := by first | simpa using c23 | (simp at c23 ⊢; omega)
                have H' := Aside0.mk H
                clear H
                try go_wp2
                have n0_ : Aside0 ((((w6.setCell ⟨gb104, 0, none⟩ (.string ((rd_T48 l0 x11_1).f0))).setCell ⟨gb104, 1, none⟩ (.slice A103_1 ((rd_T48 l0 x11_1).f1).length c103_1)).setCell ⟨gb104, 2, none⟩ (.slice A103_2 ((rd_T48 l0 x11_1).f2).length c103_2)).heap[gb104]? = some (.cells #[.string ((rd_T48 l0 x11_1).f0), .slice A103_1 ((rd_T48 l0 x11_1).f1).length c103_1, .slice A103_2 ((rd_T48 l0 x11_1).f2).length c103_2] 48 (0, 0))) := ⟨by refine bY ?_; refine blk_put (cs := #[.string ((rd_T48 l0 x11_1).f0), .slice A103_1 ((rd_T48 l0 x11_1).f1).length c103_1, .slice none 0 0]) ?_ 2 _ rfl; refine bY ?_; refine blk_put (cs := #[.string ((rd_T48 l0 x11_1).f0), .slice none 0 0, .slice none 0 0]) ?_ 1 _ rfl; refine bY ?_; refine blk_put (cs := #[.string (⟨#[]⟩ : ByteArray), .slice none 0 0, .slice none 0 0]) ?_ 0 _ rfl; refine bY ?_; exact BK104.out⟩
                have n1_ : Aside0 (Below w.heap.size w (((w6.setCell ⟨gb104, 0, none⟩ (.string ((rd_T48 l0 x11_1).f0))).setCell ⟨gb104, 1, none⟩ (.slice A103_1 ((rd_T48 l0 x11_1).f1).length c103_1)).setCell ⟨gb104, 2, none⟩ (.slice A103_2 ((rd_T48 l0 x11_1).f2).length c103_2))) := ⟨by repeat (first | (with_reducible first | exact HB.out | apply below_alloc | apply pw_below_drewN | apply below_drew1 | refine below_set ?_ GE104.out) | exact HB.out)⟩
                (try clear BK104)
                (try clear HB)
                generalize (((w6.setCell ⟨gb104, 0, none⟩ (.string ((rd_T48 l0 x11_1).f0))).setCell ⟨gb104, 1, none⟩ (.slice A103_1 ((rd_T48 l0 x11_1).f1).length c103_1)).setCell ⟨gb104, 2, none⟩ (.slice A103_2 ((rd_T48 l0 x11_1).f2).length c103_2)) = w27 at n0_ n1_ ⊢
                have BK104 := n0_
                have HB := n1_
                clear n0_ n1_
                have n0_ := Aside0.mk (blk_drew BK104.out)
                have n1_ := Aside0.mk (below_drew1 HB.out)
                clear BK104
                clear HB
                have BK104 := n0_
                have HB := n1_
                clear n0_ n1_
                have p106 : 0 ≤ (0 : Int) := (by omega)
                have q106 : 0 < (((rd_T48 l0 x11_1).f2).length : Int) := of_decide_eq_true (by first | (with_reducible assumption) | assumption)
                obtain ⟨ad106, e106, hx106_0⟩ := Kd.at_string HR103_2.out 0 p106 q106
                have hw106_0 := hx106_0
                (try rw [show ((0 : Int)).toNat = 0 from rfl] at hw106_0)
                (try rw [show 0 * 1 = 0 from rfl] at hw106_0)
                (try rw [Addr.add_zero'] at hw106_0)
                cases e106
                have qi106 : (0 < ((rd_T48 l0 x11_1).f2).length) = True := eq_true (by omega)
                (try rw [show ((0 : Int)).toNat = 0 from rfl] at hx106_0)
                (try rw [Addr.add_zero'] at hx106_0)
                replace hx106_0 := (HB.out.cell (World.block_lt_of_cell? w _ hx106_0)).trans hx106_0
                replace p106 := eq_true p106
                replace q106 := eq_true q106
                have p108 : 0 ≤ (1 : Int) := (by omega)
                have q108 : 1 < (((rd_T48 l0 x11_1).f2).length : Int) := of_decide_eq_true (by first | (with_reducible assumption) | assumption)
                obtain ⟨ad108, e108, hx108_0⟩ := Kd.at_string HR103_2.out 1 p108 q108
                have hw108_0 := hx108_0
                (try rw [show ((1 : Int)).toNat = 1 from rfl] at hw108_0)
                (try rw [show 1 * 1 = 1 from rfl] at hw108_0)
                (try simp only [Nat.reduceMul, Nat.reduceEqDiff, Go.Addr.add, ↓reduceIte] at hw108_0)
                obtain rfl : ad106 = ad108 := (by injection e108)
                (try simp only [show (1 : Int).toNat = 1 from rfl, Nat.reduceMul, Nat.reduceEqDiff, Go.Addr.add, ↓reduceIte] at hx108_0)
                have qi108 : (1 < ((rd_T48 l0 x11_1).f2).length) = True := eq_true (by omega)
                (try rw [show ((1 : Int)).toNat = 1 from rfl] at hx108_0)
                replace hx108_0 := (HB.out.cell (World.block_lt_of_cell? w _ hx108_0)).trans hx108_0
                replace p108 := eq_true p108
                replace q108 := eq_true q108
                have p110 : 0 ≤ (0 : Int) := (by omega)
                have q110 : 0 < (l0.length : Int) := of_decide_eq_true (by first | (with_reducible assumption) | assumption)
                obtain ⟨ad110, A110_1, c110_1, A110_2, c110_2, e110, hx110_0, hx110_1, hx110_2, hl110_1, hi110_1, hl110_2, hi110_2⟩ := at_T48 HR0.out 0 p110 q110
                have hw110_2 := hx110_2
                (try rw [show ((0 : Int)).toNat = 0 from rfl] at hw110_2)
                (try rw [show 0 * 3 = 0 from rfl] at hw110_2)
                (try rw [Addr.add_zero'] at hw110_2)
                have hw110_1 := hx110_1
                (try rw [show ((0 : Int)).toNat = 0 from rfl] at hw110_1)
                (try rw [show 0 * 3 = 0 from rfl] at hw110_1)
                (try rw [Addr.add_zero'] at hw110_1)
                have hw110_0 := hx110_0
                (try rw [show ((0 : Int)).toNat = 0 from rfl] at hw110_0)
                (try rw [show 0 * 3 = 0 from rfl] at hw110_0)
                (try rw [Addr.add_zero'] at hw110_0)
                obtain rfl : ad103 = ad110 := (by injection e110)
                have qi110 : (0 < l0.length) = True := eq_true (by omega)
                (try rw [show ((0 : Int)).toNat = 0 from rfl] at hx110_0)
                (try rw [show 0 * 3 = 0 from rfl] at hx110_0)
                (try rw [Addr.add_zero'] at hx110_0)
                (try rw [show ((0 : Int)).toNat = 0 from rfl] at hx110_1)
                (try rw [show 0 * 3 = 0 from rfl] at hx110_1)
                (try rw [Addr.add_zero'] at hx110_1)
                (try rw [show ((0 : Int)).toNat = 0 from rfl] at hx110_2)
                (try rw [show 0 * 3 = 0 from rfl] at hx110_2)
                (try rw [Addr.add_zero'] at hx110_2)
                replace hx110_0 := (HB.out.cell (World.block_lt_of_cell? w _ hx110_0)).trans hx110_0
                replace hx110_1 := (HB.out.cell (World.block_lt_of_cell? w _ hx110_1)).trans hx110_1
                replace hx110_2 := (HB.out.cell (World.block_lt_of_cell? w _ hx110_2)).trans hx110_2
                have HR110_1 := Aside0.mk hi110_1
                have HC110_1 := Aside0.mk hl110_1
                clear hi110_1 hl110_1
                have HR110_2 := Aside0.mk hi110_2
                have HC110_2 := Aside0.mk hl110_2
                clear hi110_2 hl110_2
                replace p110 := eq_true p110
                replace q110 := eq_true q110
                refine start_ (n := 49) (S := fun w' => w'.cell? ⟨gb104, 0, none⟩ = some (.string ((rd_T48 l0 x11_1).f0)) ∧ w'.cell? ⟨gb104, 1, none⟩ = some (.slice A103_1 ((rd_T48 l0 x11_1).f1).length c103_1) ∧ w'.cell? ⟨gb104, 2, none⟩ = some (.slice (some ad106) ((rd_T48 l0 x11_1).f2).length c103_2) ∧ w'.cell? ad106 = some (.string (rdOf ByteArray.empty ((rd_T48 l0 x11_1).f2) 0)) ∧ w'.cell? ⟨ad106.block, ad106.off + 1, none⟩ = some (.string (rdOf ByteArray.empty ((rd_T48 l0 x11_1).f2) 1)) ∧ w'.cell? ad103 = some (.string ((rd_T48 l0 0).f0)) ∧ w'.cell? ⟨ad103.block, ad103.off + 1, none⟩ = some (.slice A110_1 ((rd_T48 l0 0).f1).length c110_1) ∧ w'.cell? ⟨ad103.block, ad103.off + 2, none⟩ = some (.slice A110_2 ((rd_T48 l0 0).f2).length c110_2)) (ds := []) (tfA 0 49) (by kernel_rfl) rfl rfl ⟨(blk_cell BK104.out 0).trans rfl, (blk_cell BK104.out 1).trans rfl, (blk_cell BK104.out 2).trans rfl, ((HB.out.cell (World.block_lt_of_cell? w _ hw106_0)).trans hw106_0), ((HB.out.cell (World.block_lt_of_cell? w _ hw108_0)).trans hw108_0), ((HB.out.cell (World.block_lt_of_cell? w _ hw110_0)).trans hw110_0), ((HB.out.cell (World.block_lt_of_cell? w _ hw110_1)).trans hw110_1), ((HB.out.cell (World.block_lt_of_cell? w _ hw110_2)).trans hw110_2)⟩ (fun hHeld => ?_); refine with_tabW spec_BuddyinfoPrint.tab5 spec_BuddyinfoPrint.bits5 (fun HT_ HW_ => ?_)
                generalize w27.drew = w28 at BK104 HB HR110_1 HR110_2 hx106_0 hx108_0 hx110_0 hx110_1 hx110_2 hHeld ⊢
                refine pure_ (i := 0) (N := some 15) (v := ?_) (a' := ?_) (tfA 1 48) rfl rfl (any_of HT_.out (by kernel_rfl)) (fun _ _ _ h => h) (Or.inl ⟨by rfl, ?_⟩) ?_ ?_
                rotate_left
                ·intro w'
                 go_simp
                 first | with_reducible rfl | (rw [if_neg (by omega)])
                rotate_left
                ·simp only [Act.put, sA, s0, s1, i64_w, i32_w]
                 rfl
                refine take_ (i := 1) (N := some 16) (v := ?_) (a' := ?_) (tfA 2 47) rfl rfl (take_ofW HT_.out HW_.out (by kernel_rfl)) (fun _ _ _ h => h) (Or.inl ⟨by rfl, ?_⟩) hHeld ?_ ?_
                rotate_left
                ·rintro w' ⟨s0, s1, s2, s3, s4, s5, s6, s7⟩
                 go_simp
                 first | with_reducible rfl | (rw [if_neg (by omega)])
                rotate_left
                ·simp only [Act.put, sA, s0, s1, i64_w, i32_w]
                 rfl
                refine pure_ (i := 2) (N := some 17) (v := ?_) (a' := ?_) (tfA 3 46) rfl rfl (any_of HT_.out (by kernel_rfl)) (fun _ _ _ h => h) (Or.inl ⟨by rfl, ?_⟩) ?_ ?_
                rotate_left
                ·intro w'
                 go_simp
                 first | with_reducible rfl | (rw [if_neg (by omega)])
                rotate_left
                ·simp only [Act.put, sA, s0, s1, i64_w, i32_w]
                 rfl
                refine pure_ (i := 3) (N := some 18) (v := ?_) (a' := ?_) (tfA 4 45) rfl rfl (any_of HT_.out (by kernel_rfl)) (fun _ _ _ h => h) (Or.inl ⟨by rfl, ?_⟩) ?_ ?_
                rotate_left
                ·intro w'
                 go_simp
                 first | with_reducible rfl | (rw [if_neg (by omega)])
                rotate_left
                ·simp only [Act.put, sA, s0, s1, i64_w, i32_w]
                 rfl
                refine pure_ (i := 4) (N := some 19) (v := ?_) (a' := ?_) (tfA 5 44) rfl rfl (any_of HT_.out (by kernel_rfl)) (fun _ _ _ h => h) (Or.inl ⟨by rfl, ?_⟩) ?_ ?_
                rotate_left
                ·intro w'
                 go_simp
                 first | with_reducible rfl | (rw [if_neg (by omega)])
                rotate_left
                ·simp only [Act.put, sA, s0, s1, i64_w, i32_w]
                 rfl
                refine pure_ (i := 5) (N := some 20) (v := ?_) (a' := ?_) (tfA 6 43) rfl rfl (any_of HT_.out (by kernel_rfl)) (fun _ _ _ h => h) (Or.inl ⟨by rfl, ?_⟩) ?_ ?_
                rotate_left
                ·intro w'
                 go_simp
                 first | with_reducible rfl | (rw [if_neg (by omega)])
                rotate_left
                ·simp only [Act.put, sA, s0, s1, i64_w, i32_w]
                 rfl
                refine take_ (i := 6) (N := some 21) (v := ?_) (a' := ?_) (tfA 7 42) rfl rfl (take_ofW HT_.out HW_.out (by kernel_rfl)) (fun _ _ _ h => h) (Or.inl ⟨by rfl, ?_⟩) hHeld ?_ ?_
                rotate_left
                ·rintro w' ⟨s0, s1, s2, s3, s4, s5, s6, s7⟩
                 go_simp
                 first | with_reducible rfl | (rw [if_neg (by omega)])
                rotate_left
                ·simp only [Act.put, sA, s0, s1, i64_w, i32_w]
                 rfl
                refine one_ (i := 7) (N := some 22) (tfA 8 41) rfl rfl (one_of HT_.out (by kernel_rfl)) (by decide) (fun K hK => ?_)
                refine goes_ Tryz.func57 (by kernel_rfl) rfl #[.slice (some ad106) ((rd_T48 l0 x11_1).f2).length c103_2] (by rfl) rfl rfl (by (try simp only [List.map_toArray, List.map_cons, List.map_nil]); first | done | rfl | (simp only [List.length_drop, List.length_take]; rfl)) ?_
                with_reducible refine (spec_words.calls k1 _ _ ((rd_T48 l0 x11_1).f2) true _ ?side1 ?side2 A9.out).mono ?_
                (case side1 => repeat (first | exact (Kd.C_below HR103_2.out HB.out) | (with_reducible refine Kd.C_alloc ?_ _) | (with_reducible refine Kd.C_drewN ?_ _) | (with_reducible refine Kd.C_drew ?_)))
                (case side2 => exact HC103_2.out)
                rintro e w' ⟨rfl, ⟨nd, rfl⟩⟩
                refine ⟨_, rfl, ?_⟩
                refine hK.out _ _ ⟨(blk_cell BK104.out 0).trans rfl, (blk_cell BK104.out 1).trans rfl, (blk_cell BK104.out 2).trans rfl, ((HB.out.cell (World.block_lt_of_cell? w _ hw106_0)).trans hw106_0), ((HB.out.cell (World.block_lt_of_cell? w _ hw108_0)).trans hw108_0), ((HB.out.cell (World.block_lt_of_cell? w _ hw110_0)).trans hw110_0), ((HB.out.cell (World.block_lt_of_cell? w _ hw110_1)).trans hw110_1), ((HB.out.cell (World.block_lt_of_cell? w _ hw110_2)).trans hw110_2)⟩ (fun hHeld => ?_)
                clear hK K
                refine norm_ (a' := ?_) ?_ ?_
                rotate_left
                ·show Act.put _ (some 22) _ = _
                 simp only [Act.put, sA, s0, s1, i64_w, i32_w]
                 rfl
                refine pure_ (i := 8) (N := some 23) (v := ?_) (a' := ?_) (tfA 9 40) rfl rfl (any_of HT_.out (by kernel_rfl)) (fun _ _ _ h => h) (Or.inl ⟨by rfl, ?_⟩) ?_ ?_
                rotate_left
                ·intro w'
                 go_simp
                 first | with_reducible rfl | (rw [if_neg (by omega)])
                rotate_left
                ·simp only [Act.put, sA, s0, s1, i64_w, i32_w]
                 rfl
                refine pure_ (i := 9) (N := some 24) (v := ?_) (a' := ?_) (tfA 10 39) rfl rfl (any_of HT_.out (by kernel_rfl)) (fun _ _ _ h => h) (Or.inl ⟨by rfl, ?_⟩) ?_ ?_
                rotate_left
                ·intro w'
                 go_simp
                 first | with_reducible rfl | (rw [if_neg (by omega)])
                rotate_left
                ·simp only [Act.put, sA, s0, s1, i64_w, i32_w]
                 rfl
                refine pure_ (i := 10) (N := some 25) (v := ?_) (a' := ?_) (tfA 11 38) rfl rfl (any_of HT_.out (by kernel_rfl)) (fun _ _ _ h => h) (Or.inl ⟨by rfl, ?_⟩) ?_ ?_
                rotate_left
                ·intro w'
                 go_simp
                 first | with_reducible rfl | (rw [if_neg (by omega)])
                rotate_left
                ·simp only [Act.put, sA, s0, s1, i64_w, i32_w]
                 rfl
                refine pure_ (i := 11) (N := some 26) (v := ?_) (a' := ?_) (tfA 12 37) rfl rfl (any_of HT_.out (by kernel_rfl)) (fun _ _ _ h => h) (Or.inl ⟨by rfl, ?_⟩) ?_ ?_
                rotate_left
                ·intro w'
                 go_simp
                 first | with_reducible rfl | (rw [if_neg (by omega)])
                rotate_left
                ·simp only [Act.put, sA, s0, s1, i64_w, i32_w]
                 rfl
                refine take_ (i := 12) (N := some 27) (v := ?_) (a' := ?_) (tfA 13 36) rfl rfl (take_ofW HT_.out HW_.out (by kernel_rfl)) (fun _ _ _ h => h) (Or.inl ⟨by rfl, ?_⟩) hHeld ?_ ?_
                rotate_left
                ·rintro w' ⟨s0, s1, s2, s3, s4, s5, s6, s7⟩
                 go_simp
                 first | with_reducible rfl | (rw [if_neg (by omega)])
                rotate_left
                ·simp only [Act.put, sA, s0, s1, i64_w, i32_w]
                 rfl
                refine pure_ (i := 13) (N := some 28) (v := ?_) (a' := ?_) (tfA 14 35) rfl rfl (any_of HT_.out (by kernel_rfl)) (fun _ _ _ h => h) (Or.inl ⟨by rfl, ?_⟩) ?_ ?_
                rotate_left
                ·intro w'
                 go_simp
                 first | with_reducible rfl | (rw [if_neg (by omega)])
                rotate_left
                ·simp only [Act.put, sA, s0, s1, i64_w, i32_w]
                 rfl
                refine take_ (i := 14) (N := some 29) (v := ?_) (a' := ?_) (tfA 15 34) rfl rfl (take_ofW HT_.out HW_.out (by kernel_rfl)) (fun _ _ _ h => h) (Or.inl ⟨by rfl, ?_⟩) hHeld ?_ ?_
                rotate_left
                ·rintro w' ⟨s0, s1, s2, s3, s4, s5, s6, s7⟩
                 go_simp
                 first | with_reducible rfl | (rw [if_neg (by omega)])
                rotate_left
                ·simp only [Act.put, sA, s0, s1, i64_w, i32_w]
                 rfl
                refine one_ (i := 15) (N := some 30) (tfA 16 33) rfl rfl (one_of HT_.out (by kernel_rfl)) (by decide) (fun K hK => ?_)
                refine goes_ Tryz.func58 (by kernel_rfl) rfl #[.string (rdOf ByteArray.empty ((rd_T48 l0 x11_1).f2) 0), .int .u8 44] (by rfl) rfl rfl (by (try simp only [List.map_toArray, List.map_cons, List.map_nil]); first | done | rfl | (simp only [List.length_drop, List.length_take]; rfl)) ?_
                with_reducible refine (spec_Where.calls k1 (rdOf ByteArray.empty ((rd_T48 l0 x11_1).f2) 0) 44 t107 _ A12.out).mono ?_
                rintro e w' ⟨rfl, ⟨nd, rfl⟩⟩
                refine ⟨_, rfl, ?_⟩
                refine hK.out _ _ ⟨(blk_cell BK104.out 0).trans rfl, (blk_cell BK104.out 1).trans rfl, (blk_cell BK104.out 2).trans rfl, ((HB.out.cell (World.block_lt_of_cell? w _ hw106_0)).trans hw106_0), ((HB.out.cell (World.block_lt_of_cell? w _ hw108_0)).trans hw108_0), ((HB.out.cell (World.block_lt_of_cell? w _ hw110_0)).trans hw110_0), ((HB.out.cell (World.block_lt_of_cell? w _ hw110_1)).trans hw110_1), ((HB.out.cell (World.block_lt_of_cell? w _ hw110_2)).trans hw110_2)⟩ (fun hHeld => ?_)
                clear hK K
                refine norm_ (a' := ?_) ?_ ?_
                rotate_left
                ·show Act.put _ (some 30) _ = _
                 simp only [Act.put, sA, s0, s1, i64_w, i32_w]
                 rfl
                refine pure_ (i := 16) (N := some 31) (v := ?_) (a' := ?_) (tfA 17 32) rfl rfl (any_of HT_.out (by kernel_rfl)) (fun _ _ _ h => h) (Or.inl ⟨by rfl, ?_⟩) ?_ ?_
                rotate_left
                ·intro w'
                 go_simp
                 first | with_reducible rfl | (rw [if_neg (by omega)])
                rotate_left
                ·simp only [Act.put, sA, s0, s1, i64_w, i32_w]
                 rfl
                refine pure_ (i := 17) (N := some 32) (v := ?_) (a' := ?_) (tfA 18 31) rfl rfl (any_of HT_.out (by kernel_rfl)) (fun _ _ _ h => h) (Or.inl ⟨by rfl, ?_⟩) ?_ ?_
                rotate_left
                ·intro w'
                 go_simp
                 first | with_reducible rfl | (rw [if_neg (by omega)])
                rotate_left
                ·simp only [Act.put, sA, s0, s1, i64_w, i32_w]
                 rfl
                refine pure_ (i := 18) (N := some 33) (v := ?_) (a' := ?_) (tfA 19 30) rfl rfl (any_of HT_.out (by kernel_rfl)) (fun _ _ _ h => h) (Or.inl ⟨by rfl, ?_⟩) ?_ ?_
                rotate_left
                ·intro w'
                 go_simp
                 first | with_reducible rfl | (rw [if_neg (by omega)])
                rotate_left
                ·simp only [Act.put, sA, s0, s1, i64_w, i32_w]
                 rfl
                refine pure_ (i := 19) (N := some 34) (v := ?_) (a' := ?_) (tfA 20 29) rfl rfl (any_of HT_.out (by kernel_rfl)) (fun _ _ _ h => h) (Or.inl ⟨by rfl, ?_⟩) ?_ ?_
                rotate_left
                ·intro w'
                 go_simp
                 first | with_reducible rfl | (rw [if_neg (by omega)])
                rotate_left
                ·simp only [Act.put, sA, s0, s1, i64_w, i32_w]
                 rfl
                refine take_ (i := 20) (N := some 35) (v := ?_) (a' := ?_) (tfA 21 28) rfl rfl (take_ofW HT_.out HW_.out (by kernel_rfl)) (fun _ _ _ h => h) (Or.inl ⟨by rfl, ?_⟩) hHeld ?_ ?_
                rotate_left
                ·rintro w' ⟨s0, s1, s2, s3, s4, s5, s6, s7⟩
                 go_simp
                 first | with_reducible rfl | (rw [if_neg (by omega)])
                rotate_left
                ·simp only [Act.put, sA, s0, s1, i64_w, i32_w]
                 rfl
                refine pure_ (i := 21) (N := some 36) (v := ?_) (a' := ?_) (tfA 22 27) rfl rfl (any_of HT_.out (by kernel_rfl)) (fun _ _ _ h => h) (Or.inl ⟨by rfl, ?_⟩) ?_ ?_
                rotate_left
                ·intro w'
                 go_simp
                 first | with_reducible rfl | (rw [if_neg (by omega)])
                rotate_left
                ·simp only [Act.put, sA, s0, s1, i64_w, i32_w]
                 rfl
                refine take_ (i := 22) (N := some 37) (v := ?_) (a' := ?_) (tfA 23 26) rfl rfl (take_ofW HT_.out HW_.out (by kernel_rfl)) (fun _ _ _ h => h) (Or.inl ⟨by rfl, ?_⟩) hHeld ?_ ?_
                rotate_left
                ·rintro w' ⟨s0, s1, s2, s3, s4, s5, s6, s7⟩
                 go_simp
                 first | with_reducible rfl | (rw [if_neg (by omega)])
                rotate_left
                ·simp only [Act.put, sA, s0, s1, i64_w, i32_w]
                 rfl
                refine one_ (i := 23) (N := some 38) (tfA 24 25) rfl rfl (one_of HT_.out (by kernel_rfl)) (by decide) (fun K hK => ?_)
                refine goes_ Tryz.func58 (by kernel_rfl) rfl #[.string (rdOf ByteArray.empty ((rd_T48 l0 x11_1).f2) 1), .int .u8 44] (by rfl) rfl rfl (by (try simp only [List.map_toArray, List.map_cons, List.map_nil]); first | done | rfl | (simp only [List.length_drop, List.length_take]; rfl)) ?_
                with_reducible refine (spec_Where.calls k1 (rdOf ByteArray.empty ((rd_T48 l0 x11_1).f2) 1) 44 t109 _ A17.out).mono ?_
                rintro e w' ⟨rfl, ⟨nd, rfl⟩⟩
                refine ⟨_, rfl, ?_⟩
                refine hK.out _ _ ⟨(blk_cell BK104.out 0).trans rfl, (blk_cell BK104.out 1).trans rfl, (blk_cell BK104.out 2).trans rfl, ((HB.out.cell (World.block_lt_of_cell? w _ hw106_0)).trans hw106_0), ((HB.out.cell (World.block_lt_of_cell? w _ hw108_0)).trans hw108_0), ((HB.out.cell (World.block_lt_of_cell? w _ hw110_0)).trans hw110_0), ((HB.out.cell (World.block_lt_of_cell? w _ hw110_1)).trans hw110_1), ((HB.out.cell (World.block_lt_of_cell? w _ hw110_2)).trans hw110_2)⟩ (fun hHeld => ?_)
                clear hK K
                refine norm_ (a' := ?_) ?_ ?_
                rotate_left
                ·show Act.put _ (some 38) _ = _
                 simp only [Act.put, sA, s0, s1, i64_w, i32_w]
                 rfl
                refine pure_ (i := 24) (N := some 39) (v := ?_) (a' := ?_) (tfA 25 24) rfl rfl (any_of HT_.out (by kernel_rfl)) (fun _ _ _ h => h) (Or.inl ⟨by rfl, ?_⟩) ?_ ?_
                rotate_left
                ·intro w'
                 go_simp
                 first | with_reducible rfl | (rw [if_neg (by omega)])
                rotate_left
                ·simp only [Act.put, sA, s0, s1, i64_w, i32_w]
                 rfl
                refine pure_ (i := 25) (N := some 40) (v := ?_) (a' := ?_) (tfA 26 23) rfl rfl (any_of HT_.out (by kernel_rfl)) (fun _ _ _ h => h) (Or.inl ⟨by rfl, ?_⟩) ?_ ?_
                rotate_left
                ·intro w'
                 go_simp
                 first | with_reducible rfl | (rw [if_neg (by omega)])
                rotate_left
                ·simp only [Act.put, sA, s0, s1, i64_w, i32_w]
                 rfl
                refine pure_ (i := 26) (N := some 41) (v := ?_) (a' := ?_) (tfA 27 22) rfl rfl (any_of HT_.out (by kernel_rfl)) (fun _ _ _ h => h) (Or.inl ⟨by rfl, ?_⟩) ?_ ?_
                rotate_left
                ·intro w'
                 go_simp
                 first | with_reducible rfl | (rw [if_neg (by omega)])
                rotate_left
                ·simp only [Act.put, sA, s0, s1, i64_w, i32_w]
                 rfl
                refine pure_ (i := 27) (N := some 42) (v := ?_) (a' := ?_) (tfA 28 21) rfl rfl (any_of HT_.out (by kernel_rfl)) (fun _ _ _ h => h) (Or.inl ⟨by rfl, ?_⟩) ?_ ?_
                rotate_left
                ·intro w'
                 go_simp
                 first | with_reducible rfl | (rw [if_neg (by omega)])
                rotate_left
                ·simp only [Act.put, sA, s0, s1, i64_w, i32_w]
                 rfl
                refine take_ (i := 28) (N := some 43) (v := ?_) (a' := ?_) (tfA 29 20) rfl rfl (take_ofW HT_.out HW_.out (by kernel_rfl)) (fun _ _ _ h => h) (Or.inl ⟨by rfl, ?_⟩) hHeld ?_ ?_
                rotate_left
                ·rintro w' ⟨s0, s1, s2, s3, s4, s5, s6, s7⟩
                 go_simp
                 first | with_reducible rfl | (rw [if_neg (by omega)])
                rotate_left
                ·simp only [Act.put, sA, s0, s1, i64_w, i32_w]
                 rfl
                refine pure_ (i := 29) (N := some 44) (v := ?_) (a' := ?_) (tfA 30 19) rfl rfl (any_of HT_.out (by kernel_rfl)) (fun _ _ _ h => h) (Or.inl ⟨by rfl, ?_⟩) ?_ ?_
                rotate_left
                ·intro w'
                 go_simp
                 first | with_reducible rfl | (rw [if_neg (by omega)])
                rotate_left
                ·simp only [Act.put, sA, s0, s1, i64_w, i32_w]
                 rfl
                refine pure_ (i := 30) (N := some 45) (v := ?_) (a' := ?_) (tfA 31 18) rfl rfl (any_of HT_.out (by kernel_rfl)) (fun _ _ _ h => h) (Or.inl ⟨by rfl, ?_⟩) ?_ ?_
                rotate_left
                ·intro w'
                 go_simp
                 first | with_reducible rfl | (rw [if_neg (by omega)])
                rotate_left
                ·simp only [Act.put, sA, s0, s1, i64_w, i32_w]
                 rfl
                refine pure_ (i := 31) (N := some 46) (v := ?_) (a' := ?_) (tfA 32 17) rfl rfl (any_of HT_.out (by kernel_rfl)) (fun _ _ _ h => h) (Or.inl ⟨by rfl, ?_⟩) ?_ ?_
                rotate_left
                ·intro w'
                 go_simp
                 first | with_reducible rfl | (rw [if_neg (by omega)])
                rotate_left
                ·simp only [Act.put, sA, s0, s1, i64_w, i32_w]
                 rfl
                refine pure_ (i := 32) (N := some 47) (v := ?_) (a' := ?_) (tfA 33 16) rfl rfl (any_of HT_.out (by kernel_rfl)) (fun _ _ _ h => h) (Or.inl ⟨by rfl, ?_⟩) ?_ ?_
                rotate_left
                ·intro w'
                 go_simp
                 first | with_reducible rfl | (rw [if_neg (by omega)])
                rotate_left
                ·simp only [Act.put, sA, s0, s1, i64_w, i32_w]
                 rfl
                refine pure_ (i := 33) (N := some 48) (v := ?_) (a' := ?_) (tfA 34 15) rfl rfl (any_of HT_.out (by kernel_rfl)) (fun _ _ _ h => h) (Or.inl ⟨by rfl, ?_⟩) ?_ ?_
                rotate_left
                ·intro w'
                 go_simp
                 first | with_reducible rfl | (rw [if_neg (by omega)])
                rotate_left
                ·simp only [Act.put, sA, s0, s1, i64_w, i32_w]
                 rfl
                refine pure_ (i := 36) (N := some 51) (v := ?_) (a' := ?_) (bnA 49 85899345919) rfl rfl (any_of HT_.out (by kernel_rfl)) (fun _ _ _ h => h) (Or.inl ⟨by rfl, ?_⟩) ?_ ?_
                rotate_left
                ·intro w'
                 go_simp
                 first | with_reducible rfl | (rw [if_neg (by omega)])
                rotate_left
                ·simp only [Act.put, sA, s0, s1, i64_w, i32_w]
                 rfl
                refine pure_ (i := 37) (N := some 52) (v := ?_) (a' := ?_) (bnA 49 223338299391) rfl rfl (any_of HT_.out (by kernel_rfl)) (fun _ _ _ h => h) (Or.inl ⟨by rfl, ?_⟩) ?_ ?_
                rotate_left
                ·intro w'
                 go_simp
                 first | with_reducible rfl | (rw [if_neg (by omega)])
                rotate_left
                ·simp only [Act.put, sA, s0, s1, i64_w, i32_w]
                 rfl
                refine pure_ (i := 38) (N := some 53) (v := ?_) (a' := ?_) (bnA 49 498216206335) rfl rfl (any_of HT_.out (by kernel_rfl)) (fun _ _ _ h => h) (Or.inl ⟨by rfl, ?_⟩) ?_ ?_
                rotate_left
                ·intro w'
                 go_simp
                 first | with_reducible rfl | (rw [if_neg (by omega)])
                rotate_left
                ·simp only [Act.put, sA, s0, s1, i64_w, i32_w]
                 rfl
                refine take_ (i := 34) (N := some 49) (v := ?_) (a' := ?_) (bnA 49 515396075519) rfl rfl (take_ofW HT_.out HW_.out (by kernel_rfl)) (fun _ _ _ h => h) (Or.inl ⟨by rfl, ?_⟩) hHeld ?_ ?_
                rotate_left
                ·rintro w' ⟨s0, s1, s2, s3, s4, s5, s6, s7⟩
                 go_simp
                 first | with_reducible rfl | (rw [if_neg (by omega)])
                rotate_left
                ·simp only [Act.put, sA, s0, s1, i64_w, i32_w]
                 rfl
                refine pure_ (i := 35) (N := some 50) (v := ?_) (a' := ?_) (tfA 39 10) rfl rfl (any_of HT_.out (by kernel_rfl)) (fun _ _ _ h => h) (Or.inl ⟨by rfl, ?_⟩) ?_ ?_
                rotate_left
                ·intro w'
                 go_simp
                 first | with_reducible rfl | (rw [if_neg (by omega)])
                rotate_left
                ·simp only [Act.put, sA, s0, s1, i64_w, i32_w]
                 rfl
                refine take_ (i := 39) (N := some 54) (v := ?_) (a' := ?_) (tfA 40 9) rfl rfl (take_ofW HT_.out HW_.out (by kernel_rfl)) (fun _ _ _ h => h) (Or.inl ⟨by rfl, ?_⟩) hHeld ?_ ?_
                rotate_left
                ·rintro w' ⟨s0, s1, s2, s3, s4, s5, s6, s7⟩
                 go_simp
                 first | with_reducible rfl | (rw [if_neg (by omega)])
                rotate_left
                ·simp only [Act.put, sA, s0, s1, i64_w, i32_w]
                 rfl
                refine pure_ (i := 40) (N := some 55) (v := ?_) (a' := ?_) (tfA 41 8) rfl rfl (any_of HT_.out (by kernel_rfl)) (fun _ _ _ h => h) (Or.inl ⟨by rfl, ?_⟩) ?_ ?_
                rotate_left
                ·intro w'
                 go_simp
                 first | with_reducible rfl | (rw [if_neg (by omega)])
                rotate_left
                ·simp only [Act.put, sA, s0, s1, i64_w, i32_w]
                 rfl
                refine pure_ (i := 41) (N := some 56) (v := ?_) (a' := ?_) (tfA 42 7) rfl rfl (any_of HT_.out (by kernel_rfl)) (fun _ _ _ h => h) (Or.inl ⟨by rfl, ?_⟩) ?_ ?_
                rotate_left
                ·intro w'
                 go_simp
                 first | with_reducible rfl | (rw [if_neg (by omega)])
                rotate_left
                ·simp only [Act.put, sA, s0, s1, i64_w, i32_w]
                 rfl
                refine pure_ (i := 42) (N := some 57) (v := ?_) (a' := ?_) (tfA 43 6) rfl rfl (any_of HT_.out (by kernel_rfl)) (fun _ _ _ h => h) (Or.inl ⟨by rfl, ?_⟩) ?_ ?_
                rotate_left
                ·intro w'
                 go_simp
                 first | with_reducible rfl | (rw [if_neg (by omega)])
                rotate_left
                ·simp only [Act.put, sA, s0, s1, i64_w, i32_w]
                 rfl
                refine pure_ (i := 43) (N := some 58) (v := ?_) (a' := ?_) (tfA 44 5) rfl rfl (any_of HT_.out (by kernel_rfl)) (fun _ _ _ h => h) (Or.inl ⟨by rfl, ?_⟩) ?_ ?_
                rotate_left
                ·intro w'
                 go_simp
                 first | with_reducible rfl | (rw [if_neg (by omega)])
                rotate_left
                ·simp only [Act.put, sA, s0, s1, i64_w, i32_w]
                 rfl
                refine pure_ (i := 44) (N := some 59) (v := undef) (a' := ?_) (tfA 45 4) rfl rfl (any_of HT_.out (by kernel_rfl)) (fun _ _ _ h => h) (Or.inr ⟨by rfl, rfl⟩) ?_ ?_
                rotate_left
                ·simp only [Act.put, sA, s0, s1, i64_w, i32_w]
                 rfl
                refine pure_ (i := 45) (N := some 60) (v := undef) (a' := ?_) (tfA 46 3) rfl rfl (any_of HT_.out (by kernel_rfl)) (fun _ _ _ h => h) (Or.inr ⟨by rfl, rfl⟩) ?_ ?_
                rotate_left
                ·simp only [Act.put, sA, s0, s1, i64_w, i32_w]
                 rfl
                refine pure_ (i := 46) (N := some 61) (v := undef) (a' := ?_) (tfA 47 2) rfl rfl (any_of HT_.out (by kernel_rfl)) (fun _ _ _ h => h) (Or.inr ⟨by rfl, rfl⟩) ?_ ?_
                rotate_left
                ·simp only [Act.put, sA, s0, s1, i64_w, i32_w]
                 rfl
                refine pure_ (i := 47) (N := some 62) (v := undef) (a' := ?_) (tfA 48 1) rfl rfl (any_of HT_.out (by kernel_rfl)) (fun _ _ _ h => h) (Or.inr ⟨by rfl, rfl⟩) ?_ ?_
                rotate_left
                ·simp only [Act.put, sA, s0, s1, i64_w, i32_w]
                 rfl
                refine pure_ (i := 48) (N := some 63) (v := ?_) (a' := ?_) (tfA 49 0) rfl rfl (any_of HT_.out (by kernel_rfl)) (fun _ _ _ h => h) (Or.inl ⟨by rfl, ?_⟩) ?_ ?_
                rotate_left
                ·intro w'
                 go_simp
                 first | with_reducible rfl | (rw [if_neg (by omega)])
                rotate_left
                ·simp only [Act.put, sA, s0, s1, i64_w, i32_w]
                 rfl
                refine done_ (done_of HT_.out (by kernel_rfl)) ?_
                try go_wp2
                go_meet
                case rel => exact ⟨_, (true), (by first | rfl | (simp; done) | (simp [*]; done) | (simp [bne_nil]; done) | (simp [bne_nil, *]; done)), H', ⟨by have := HK1.out; first | omega | exact Nat.le_refl _⟩, ⟨by refine bY ?_; exact BK104.out⟩, ⟨by repeat (first | (with_reducible first | exact HB.out | apply below_alloc | apply pw_below_drewN | apply below_drew1 | refine below_set ?_ GE104.out) | exact HB.out)⟩⟩
              ·rw [if_neg c22] at H
               exact absurd H (by simp)
           ·rw [if_neg c16] at H
            exact absurd H (by simp)
         ·rw [if_neg c11] at H
          exact absurd H (by simp)
        ·replace c10 := Bool.eq_false_iff.mpr c10
         subst c10
         have H1 : (spec_BuddyinfoPrint.j1 k1 l0 x4_1 l0 (l0.length : Int) x11_1 true ((rd_T48 l0 x11_1).f0) ((rd_T48 l0 x11_1).f1) ((rd_T48 l0 x11_1).f2)) = some (r1, r2) := by rw [if_neg (show ¬ (false = true) by decide)] at H; exact H
         clear H
         have H := H1
         clear H1
         have H' := Aside0.mk H
         clear H
         try go_wp2
         have n0_ : Aside0 ((((w6.setCell ⟨gb104, 0, none⟩ (.string ((rd_T48 l0 x11_1).f0))).setCell ⟨gb104, 1, none⟩ (.slice A103_1 ((rd_T48 l0 x11_1).f1).length c103_1)).setCell ⟨gb104, 2, none⟩ (.slice A103_2 ((rd_T48 l0 x11_1).f2).length c103_2)).heap[gb104]? = some (.cells #[.string ((rd_T48 l0 x11_1).f0), .slice A103_1 ((rd_T48 l0 x11_1).f1).length c103_1, .slice A103_2 ((rd_T48 l0 x11_1).f2).length c103_2] 48 (0, 0))) := ⟨by refine bY ?_; refine blk_put (cs := #[.string ((rd_T48 l0 x11_1).f0), .slice A103_1 ((rd_T48 l0 x11_1).f1).length c103_1, .slice none 0 0]) ?_ 2 _ rfl; refine bY ?_; refine blk_put (cs := #[.string ((rd_T48 l0 x11_1).f0), .slice none 0 0, .slice none 0 0]) ?_ 1 _ rfl; refine bY ?_; refine blk_put (cs := #[.string (⟨#[]⟩ : ByteArray), .slice none 0 0, .slice none 0 0]) ?_ 0 _ rfl; refine bY ?_; exact BK104.out⟩
         have n1_ : Aside0 (Below w.heap.size w (((w6.setCell ⟨gb104, 0, none⟩ (.string ((rd_T48 l0 x11_1).f0))).setCell ⟨gb104, 1, none⟩ (.slice A103_1 ((rd_T48 l0 x11_1).f1).length c103_1)).setCell ⟨gb104, 2, none⟩ (.slice A103_2 ((rd_T48 l0 x11_1).f2).length c103_2))) := ⟨by repeat (first | (with_reducible first | exact HB.out | apply below_alloc | apply pw_below_drewN | apply below_drew1 | refine below_set ?_ GE104.out) | exact HB.out)⟩
         (try clear BK104)
         (try clear HB)
         generalize (((w6.setCell ⟨gb104, 0, none⟩ (.string ((rd_T48 l0 x11_1).f0))).setCell ⟨gb104, 1, none⟩ (.slice A103_1 ((rd_T48 l0 x11_1).f1).length c103_1)).setCell ⟨gb104, 2, none⟩ (.slice A103_2 ((rd_T48 l0 x11_1).f2).length c103_2)) = w29 at n0_ n1_ ⊢
         have BK104 := n0_
         have HB := n1_
         clear n0_ n1_
         have n0_ := Aside0.mk (blk_drew BK104.out)
         have n1_ := Aside0.mk (below_drew1 HB.out)
         clear BK104
         clear HB
         have BK104 := n0_
         have HB := n1_
         clear n0_ n1_
         refine start_ (n := 49) (S := fun w' => w'.cell? ⟨gb104, 0, none⟩ = some (.string ((rd_T48 l0 x11_1).f0)) ∧ w'.cell? ⟨gb104, 1, none⟩ = some (.slice A103_1 ((rd_T48 l0 x11_1).f1).length c103_1) ∧ w'.cell? ⟨gb104, 2, none⟩ = some (.slice A103_2 ((rd_T48 l0 x11_1).f2).length c103_2)) (ds := []) (tfA 0 49) (by kernel_rfl) rfl rfl ⟨(blk_cell BK104.out 0).trans rfl, (blk_cell BK104.out 1).trans rfl, (blk_cell BK104.out 2).trans rfl⟩ (fun hHeld => ?_); refine with_tabW spec_BuddyinfoPrint.tab5 spec_BuddyinfoPrint.bits5 (fun HT_ HW_ => ?_)
         generalize w29.drew = w30 at BK104 HB hHeld ⊢
         refine pure_ (i := 0) (N := some 15) (v := ?_) (a' := ?_) (tfA 1 48) rfl rfl (any_of HT_.out (by kernel_rfl)) (fun _ _ _ h => h) (Or.inl ⟨by rfl, ?_⟩) ?_ ?_
         rotate_left
         ·intro w'
          go_simp
          first | with_reducible rfl | (rw [if_neg (by omega)])
         rotate_left
         ·simp only [Act.put, sA, s0, s1, i64_w, i32_w]
          rfl
         refine take_ (i := 1) (N := some 16) (v := ?_) (a' := ?_) (tfA 2 47) rfl rfl (take_ofW HT_.out HW_.out (by kernel_rfl)) (fun _ _ _ h => h) (Or.inl ⟨by rfl, ?_⟩) hHeld ?_ ?_
         rotate_left
         ·rintro w' ⟨s0, s1, s2⟩
          go_simp
          first | with_reducible rfl | (rw [if_neg (by omega)])
         rotate_left
         ·simp only [Act.put, sA, s0, s1, i64_w, i32_w]
          rfl
         refine pure_ (i := 2) (N := some 17) (v := ?_) (a' := ?_) (tfA 3 46) rfl rfl (any_of HT_.out (by kernel_rfl)) (fun _ _ _ h => h) (Or.inl ⟨by rfl, ?_⟩) ?_ ?_
         rotate_left
         ·intro w'
          go_simp
          first | with_reducible rfl | (rw [if_neg (by omega)])
         rotate_left
         ·simp only [Act.put, sA, s0, s1, i64_w, i32_w]
          rfl
         refine pure_ (i := 3) (N := some 18) (v := ?_) (a' := ?_) (tfA 4 45) rfl rfl (any_of HT_.out (by kernel_rfl)) (fun _ _ _ h => h) (Or.inl ⟨by rfl, ?_⟩) ?_ ?_
         rotate_left
         ·intro w'
          go_simp
          first | with_reducible rfl | (rw [if_neg (by omega)])
         rotate_left
         ·simp only [Act.put, sA, s0, s1, i64_w, i32_w]
          rfl
         refine pure_ (i := 4) (N := some 19) (v := ?_) (a' := ?_) (tfA 5 44) rfl rfl (any_of HT_.out (by kernel_rfl)) (fun _ _ _ h => h) (Or.inl ⟨by rfl, ?_⟩) ?_ ?_
         rotate_left
         ·intro w'
          go_simp
          first | with_reducible rfl | (rw [if_neg (by omega)])
         rotate_left
         ·simp only [Act.put, sA, s0, s1, i64_w, i32_w]
          rfl
         refine pure_ (i := 5) (N := some 20) (v := ?_) (a' := ?_) (tfA 6 43) rfl rfl (any_of HT_.out (by kernel_rfl)) (fun _ _ _ h => h) (Or.inl ⟨by rfl, ?_⟩) ?_ ?_
         rotate_left
         ·intro w'
          go_simp
          first | with_reducible rfl | (rw [if_neg (by omega)])
         rotate_left
         ·simp only [Act.put, sA, s0, s1, i64_w, i32_w]
          rfl
         refine take_ (i := 6) (N := some 21) (v := ?_) (a' := ?_) (tfA 7 42) rfl rfl (take_ofW HT_.out HW_.out (by kernel_rfl)) (fun _ _ _ h => h) (Or.inl ⟨by rfl, ?_⟩) hHeld ?_ ?_
         rotate_left
         ·rintro w' ⟨s0, s1, s2⟩
          go_simp
          first | with_reducible rfl | (rw [if_neg (by omega)])
         rotate_left
         ·simp only [Act.put, sA, s0, s1, i64_w, i32_w]
          rfl
         refine one_ (i := 7) (N := some 22) (tfA 8 41) rfl rfl (one_of HT_.out (by kernel_rfl)) (by decide) (fun K hK => ?_)
         refine goes_ Tryz.func57 (by kernel_rfl) rfl #[.slice A103_2 ((rd_T48 l0 x11_1).f2).length c103_2] (by rfl) rfl rfl (by (try simp only [List.map_toArray, List.map_cons, List.map_nil]); first | done | rfl | (simp only [List.length_drop, List.length_take]; rfl)) ?_
         with_reducible refine (spec_words.calls k1 _ _ ((rd_T48 l0 x11_1).f2) false _ ?side1 ?side2 A9.out).mono ?_
         (case side1 => repeat (first | exact (Kd.C_below HR103_2.out HB.out) | (with_reducible refine Kd.C_alloc ?_ _) | (with_reducible refine Kd.C_drewN ?_ _) | (with_reducible refine Kd.C_drew ?_)))
         (case side2 => exact HC103_2.out)
         rintro e w' ⟨rfl, ⟨nd, rfl⟩⟩
         refine ⟨_, rfl, ?_⟩
         refine hK.out _ _ ⟨(blk_cell BK104.out 0).trans rfl, (blk_cell BK104.out 1).trans rfl, (blk_cell BK104.out 2).trans rfl⟩ (fun hHeld => ?_)
         clear hK K
         refine norm_ (a' := ?_) ?_ ?_
         rotate_left
         ·show Act.put _ (some 22) _ = _
          simp only [Act.put, sA, s0, s1, i64_w, i32_w]
          rfl
         refine pure_ (i := 8) (N := some 23) (v := ?_) (a' := ?_) (tfA 9 40) rfl rfl (any_of HT_.out (by kernel_rfl)) (fun _ _ _ h => h) (Or.inl ⟨by rfl, ?_⟩) ?_ ?_
         rotate_left
         ·intro w'
          go_simp
          first | with_reducible rfl | (rw [if_neg (by omega)])
         rotate_left
         ·simp only [Act.put, sA, s0, s1, i64_w, i32_w]
          rfl
         refine pure_ (i := 9) (N := some 24) (v := ?_) (a' := ?_) (tfA 10 39) rfl rfl (any_of HT_.out (by kernel_rfl)) (fun _ _ _ h => h) (Or.inl ⟨by rfl, ?_⟩) ?_ ?_
         rotate_left
         ·intro w'
          go_simp
          first | with_reducible rfl | (rw [if_neg (by omega)])
         rotate_left
         ·simp only [Act.put, sA, s0, s1, i64_w, i32_w]
          rfl
         refine pure_ (i := 10) (N := some 25) (v := ?_) (a' := ?_) (tfA 11 38) rfl rfl (any_of HT_.out (by kernel_rfl)) (fun _ _ _ h => h) (Or.inl ⟨by rfl, ?_⟩) ?_ ?_
         rotate_left
         ·intro w'
          go_simp
          first | with_reducible rfl | (rw [if_neg (by omega)])
         rotate_left
         ·simp only [Act.put, sA, s0, s1, i64_w, i32_w]
          rfl
         refine pure_ (i := 11) (N := some 26) (v := undef) (a' := ?_) (tfA 12 37) rfl rfl (any_of HT_.out (by kernel_rfl)) (fun _ _ _ h => h) (Or.inr ⟨by rfl, rfl⟩) ?_ ?_
         rotate_left
         ·simp only [Act.put, sA, s0, s1, i64_w, i32_w]
          rfl
         refine pure_ (i := 12) (N := some 27) (v := undef) (a' := ?_) (tfA 13 36) rfl rfl (any_of HT_.out (by kernel_rfl)) (fun _ _ _ h => h) (Or.inr ⟨by rfl, rfl⟩) ?_ ?_
         rotate_left
         ·simp only [Act.put, sA, s0, s1, i64_w, i32_w]
          rfl
         refine pure_ (i := 13) (N := some 28) (v := undef) (a' := ?_) (tfA 14 35) rfl rfl (any_of HT_.out (by kernel_rfl)) (fun _ _ _ h => h) (Or.inr ⟨by rfl, rfl⟩) ?_ ?_
         rotate_left
         ·simp only [Act.put, sA, s0, s1, i64_w, i32_w]
          rfl
         refine pure_ (i := 14) (N := some 29) (v := undef) (a' := ?_) (tfA 15 34) rfl rfl (any_of HT_.out (by kernel_rfl)) (fun _ _ _ h => h) (Or.inr ⟨by rfl, rfl⟩) ?_ ?_
         rotate_left
         ·simp only [Act.put, sA, s0, s1, i64_w, i32_w]
          rfl
         refine pure_ (i := 15) (N := some 30) (v := undef) (a' := ?_) (tfA 16 33) rfl rfl (any_of HT_.out (by kernel_rfl)) (fun _ _ _ h => h) (Or.inr ⟨by rfl, rfl⟩) ?_ ?_
         rotate_left
         ·simp only [Act.put, sA, s0, s1, i64_w, i32_w]
          rfl
         refine pure_ (i := 16) (N := some 31) (v := undef) (a' := ?_) (tfA 17 32) rfl rfl (any_of HT_.out (by kernel_rfl)) (fun _ _ _ h => h) (Or.inr ⟨by rfl, rfl⟩) ?_ ?_
         rotate_left
         ·simp only [Act.put, sA, s0, s1, i64_w, i32_w]
          rfl
         refine pure_ (i := 17) (N := some 32) (v := ?_) (a' := ?_) (tfA 18 31) rfl rfl (any_of HT_.out (by kernel_rfl)) (fun _ _ _ h => h) (Or.inl ⟨by rfl, ?_⟩) ?_ ?_
         rotate_left
         ·intro w'
          go_simp
          first | with_reducible rfl | (rw [if_neg (by omega)])
         rotate_left
         ·simp only [Act.put, sA, s0, s1, i64_w, i32_w]
          rfl
         refine pure_ (i := 18) (N := some 33) (v := ?_) (a' := ?_) (tfA 19 30) rfl rfl (any_of HT_.out (by kernel_rfl)) (fun _ _ _ h => h) (Or.inl ⟨by rfl, ?_⟩) ?_ ?_
         rotate_left
         ·intro w'
          go_simp
          first | with_reducible rfl | (rw [if_neg (by omega)])
         rotate_left
         ·simp only [Act.put, sA, s0, s1, i64_w, i32_w]
          rfl
         refine pure_ (i := 19) (N := some 34) (v := undef) (a' := ?_) (tfA 20 29) rfl rfl (any_of HT_.out (by kernel_rfl)) (fun _ _ _ h => h) (Or.inr ⟨by rfl, rfl⟩) ?_ ?_
         rotate_left
         ·simp only [Act.put, sA, s0, s1, i64_w, i32_w]
          rfl
         refine pure_ (i := 20) (N := some 35) (v := undef) (a' := ?_) (tfA 21 28) rfl rfl (any_of HT_.out (by kernel_rfl)) (fun _ _ _ h => h) (Or.inr ⟨by rfl, rfl⟩) ?_ ?_
         rotate_left
         ·simp only [Act.put, sA, s0, s1, i64_w, i32_w]
          rfl
         refine pure_ (i := 21) (N := some 36) (v := undef) (a' := ?_) (tfA 22 27) rfl rfl (any_of HT_.out (by kernel_rfl)) (fun _ _ _ h => h) (Or.inr ⟨by rfl, rfl⟩) ?_ ?_
         rotate_left
         ·simp only [Act.put, sA, s0, s1, i64_w, i32_w]
          rfl
         refine pure_ (i := 22) (N := some 37) (v := undef) (a' := ?_) (tfA 23 26) rfl rfl (any_of HT_.out (by kernel_rfl)) (fun _ _ _ h => h) (Or.inr ⟨by rfl, rfl⟩) ?_ ?_
         rotate_left
         ·simp only [Act.put, sA, s0, s1, i64_w, i32_w]
          rfl
         refine pure_ (i := 23) (N := some 38) (v := undef) (a' := ?_) (tfA 24 25) rfl rfl (any_of HT_.out (by kernel_rfl)) (fun _ _ _ h => h) (Or.inr ⟨by rfl, rfl⟩) ?_ ?_
         rotate_left
         ·simp only [Act.put, sA, s0, s1, i64_w, i32_w]
          rfl
         refine pure_ (i := 24) (N := some 39) (v := undef) (a' := ?_) (tfA 25 24) rfl rfl (any_of HT_.out (by kernel_rfl)) (fun _ _ _ h => h) (Or.inr ⟨by rfl, rfl⟩) ?_ ?_
         rotate_left
         ·simp only [Act.put, sA, s0, s1, i64_w, i32_w]
          rfl
         refine pure_ (i := 25) (N := some 40) (v := ?_) (a' := ?_) (tfA 26 23) rfl rfl (any_of HT_.out (by kernel_rfl)) (fun _ _ _ h => h) (Or.inl ⟨by rfl, ?_⟩) ?_ ?_
         rotate_left
         ·intro w'
          go_simp
          first | with_reducible rfl | (rw [if_neg (by omega)])
         rotate_left
         ·simp only [Act.put, sA, s0, s1, i64_w, i32_w]
          rfl
         refine pure_ (i := 26) (N := some 41) (v := ?_) (a' := ?_) (tfA 27 22) rfl rfl (any_of HT_.out (by kernel_rfl)) (fun _ _ _ h => h) (Or.inl ⟨by rfl, ?_⟩) ?_ ?_
         rotate_left
         ·intro w'
          go_simp
          first | with_reducible rfl | (rw [if_neg (by omega)])
         rotate_left
         ·simp only [Act.put, sA, s0, s1, i64_w, i32_w]
          rfl
         refine pure_ (i := 27) (N := some 42) (v := undef) (a' := ?_) (tfA 28 21) rfl rfl (any_of HT_.out (by kernel_rfl)) (fun _ _ _ h => h) (Or.inr ⟨by rfl, rfl⟩) ?_ ?_
         rotate_left
         ·simp only [Act.put, sA, s0, s1, i64_w, i32_w]
          rfl
         refine pure_ (i := 28) (N := some 43) (v := undef) (a' := ?_) (tfA 29 20) rfl rfl (any_of HT_.out (by kernel_rfl)) (fun _ _ _ h => h) (Or.inr ⟨by rfl, rfl⟩) ?_ ?_
         rotate_left
         ·simp only [Act.put, sA, s0, s1, i64_w, i32_w]
          rfl
         refine pure_ (i := 29) (N := some 44) (v := undef) (a' := ?_) (tfA 30 19) rfl rfl (any_of HT_.out (by kernel_rfl)) (fun _ _ _ h => h) (Or.inr ⟨by rfl, rfl⟩) ?_ ?_
         rotate_left
         ·simp only [Act.put, sA, s0, s1, i64_w, i32_w]
          rfl
         refine pure_ (i := 30) (N := some 45) (v := undef) (a' := ?_) (tfA 31 18) rfl rfl (any_of HT_.out (by kernel_rfl)) (fun _ _ _ h => h) (Or.inr ⟨by rfl, rfl⟩) ?_ ?_
         rotate_left
         ·simp only [Act.put, sA, s0, s1, i64_w, i32_w]
          rfl
         refine pure_ (i := 31) (N := some 46) (v := ?_) (a' := ?_) (tfA 32 17) rfl rfl (any_of HT_.out (by kernel_rfl)) (fun _ _ _ h => h) (Or.inl ⟨by rfl, ?_⟩) ?_ ?_
         rotate_left
         ·intro w'
          go_simp
          first | with_reducible rfl | (rw [if_neg (by omega)])
         rotate_left
         ·simp only [Act.put, sA, s0, s1, i64_w, i32_w]
          rfl
         refine pure_ (i := 32) (N := some 47) (v := ?_) (a' := ?_) (tfA 33 16) rfl rfl (any_of HT_.out (by kernel_rfl)) (fun _ _ _ h => h) (Or.inl ⟨by rfl, ?_⟩) ?_ ?_
         rotate_left
         ·intro w'
          go_simp
          first | with_reducible rfl | (rw [if_neg (by omega)])
         rotate_left
         ·simp only [Act.put, sA, s0, s1, i64_w, i32_w]
          rfl
         refine pure_ (i := 33) (N := some 48) (v := undef) (a' := ?_) (tfA 34 15) rfl rfl (any_of HT_.out (by kernel_rfl)) (fun _ _ _ h => h) (Or.inr ⟨by rfl, rfl⟩) ?_ ?_
         rotate_left
         ·simp only [Act.put, sA, s0, s1, i64_w, i32_w]
          rfl
         refine pure_ (i := 34) (N := some 49) (v := undef) (a' := ?_) (tfA 35 14) rfl rfl (any_of HT_.out (by kernel_rfl)) (fun _ _ _ h => h) (Or.inr ⟨by rfl, rfl⟩) ?_ ?_
         rotate_left
         ·simp only [Act.put, sA, s0, s1, i64_w, i32_w]
          rfl
         refine pure_ (i := 35) (N := some 50) (v := undef) (a' := ?_) (tfA 36 13) rfl rfl (any_of HT_.out (by kernel_rfl)) (fun _ _ _ h => h) (Or.inr ⟨by rfl, rfl⟩) ?_ ?_
         rotate_left
         ·simp only [Act.put, sA, s0, s1, i64_w, i32_w]
          rfl
         refine pure_ (i := 36) (N := some 51) (v := undef) (a' := ?_) (tfA 37 12) rfl rfl (any_of HT_.out (by kernel_rfl)) (fun _ _ _ h => h) (Or.inr ⟨by rfl, rfl⟩) ?_ ?_
         rotate_left
         ·simp only [Act.put, sA, s0, s1, i64_w, i32_w]
          rfl
         refine pure_ (i := 37) (N := some 52) (v := undef) (a' := ?_) (tfA 38 11) rfl rfl (any_of HT_.out (by kernel_rfl)) (fun _ _ _ h => h) (Or.inr ⟨by rfl, rfl⟩) ?_ ?_
         rotate_left
         ·simp only [Act.put, sA, s0, s1, i64_w, i32_w]
          rfl
         refine pure_ (i := 38) (N := some 53) (v := undef) (a' := ?_) (tfA 39 10) rfl rfl (any_of HT_.out (by kernel_rfl)) (fun _ _ _ h => h) (Or.inr ⟨by rfl, rfl⟩) ?_ ?_
         rotate_left
         ·simp only [Act.put, sA, s0, s1, i64_w, i32_w]
          rfl
         refine pure_ (i := 39) (N := some 54) (v := undef) (a' := ?_) (tfA 40 9) rfl rfl (any_of HT_.out (by kernel_rfl)) (fun _ _ _ h => h) (Or.inr ⟨by rfl, rfl⟩) ?_ ?_
         rotate_left
         ·simp only [Act.put, sA, s0, s1, i64_w, i32_w]
          rfl
         refine pure_ (i := 40) (N := some 55) (v := undef) (a' := ?_) (tfA 41 8) rfl rfl (any_of HT_.out (by kernel_rfl)) (fun _ _ _ h => h) (Or.inr ⟨by rfl, rfl⟩) ?_ ?_
         rotate_left
         ·simp only [Act.put, sA, s0, s1, i64_w, i32_w]
          rfl
         refine pure_ (i := 41) (N := some 56) (v := undef) (a' := ?_) (tfA 42 7) rfl rfl (any_of HT_.out (by kernel_rfl)) (fun _ _ _ h => h) (Or.inr ⟨by rfl, rfl⟩) ?_ ?_
         rotate_left
         ·simp only [Act.put, sA, s0, s1, i64_w, i32_w]
          rfl
         refine pure_ (i := 42) (N := some 57) (v := ?_) (a' := ?_) (tfA 43 6) rfl rfl (any_of HT_.out (by kernel_rfl)) (fun _ _ _ h => h) (Or.inl ⟨by rfl, ?_⟩) ?_ ?_
         rotate_left
         ·intro w'
          go_simp
          first | with_reducible rfl | (rw [if_neg (by omega)])
         rotate_left
         ·simp only [Act.put, sA, s0, s1, i64_w, i32_w]
          rfl
         refine pure_ (i := 43) (N := some 58) (v := ?_) (a' := ?_) (tfA 44 5) rfl rfl (any_of HT_.out (by kernel_rfl)) (fun _ _ _ h => h) (Or.inl ⟨by rfl, ?_⟩) ?_ ?_
         rotate_left
         ·intro w'
          go_simp
          first | with_reducible rfl | (rw [if_neg (by omega)])
         rotate_left
         ·simp only [Act.put, sA, s0, s1, i64_w, i32_w]
          rfl
         refine pure_ (i := 44) (N := some 59) (v := undef) (a' := ?_) (tfA 45 4) rfl rfl (any_of HT_.out (by kernel_rfl)) (fun _ _ _ h => h) (Or.inr ⟨by rfl, rfl⟩) ?_ ?_
         rotate_left
         ·simp only [Act.put, sA, s0, s1, i64_w, i32_w]
          rfl
         refine pure_ (i := 45) (N := some 60) (v := undef) (a' := ?_) (tfA 46 3) rfl rfl (any_of HT_.out (by kernel_rfl)) (fun _ _ _ h => h) (Or.inr ⟨by rfl, rfl⟩) ?_ ?_
         rotate_left
         ·simp only [Act.put, sA, s0, s1, i64_w, i32_w]
          rfl
         refine pure_ (i := 46) (N := some 61) (v := undef) (a' := ?_) (tfA 47 2) rfl rfl (any_of HT_.out (by kernel_rfl)) (fun _ _ _ h => h) (Or.inr ⟨by rfl, rfl⟩) ?_ ?_
         rotate_left
         ·simp only [Act.put, sA, s0, s1, i64_w, i32_w]
          rfl
         refine pure_ (i := 47) (N := some 62) (v := undef) (a' := ?_) (tfA 48 1) rfl rfl (any_of HT_.out (by kernel_rfl)) (fun _ _ _ h => h) (Or.inr ⟨by rfl, rfl⟩) ?_ ?_
         rotate_left
         ·simp only [Act.put, sA, s0, s1, i64_w, i32_w]
          rfl
         refine pure_ (i := 48) (N := some 63) (v := ?_) (a' := ?_) (tfA 49 0) rfl rfl (any_of HT_.out (by kernel_rfl)) (fun _ _ _ h => h) (Or.inl ⟨by rfl, ?_⟩) ?_ ?_
         rotate_left
         ·intro w'
          go_simp
          first | with_reducible rfl | (rw [if_neg (by omega)])
         rotate_left
         ·simp only [Act.put, sA, s0, s1, i64_w, i32_w]
          rfl
         refine done_ (done_of HT_.out (by kernel_rfl)) ?_
         try go_wp2
         go_meet
         case rel => exact ⟨_, (true), (by first | rfl | (simp; done) | (simp [*]; done) | (simp [bne_nil]; done) | (simp [bne_nil, *]; done)), H', ⟨by have := HK1.out; first | omega | exact Nat.le_refl _⟩, ⟨by refine bY ?_; exact BK104.out⟩, ⟨by repeat (first | (with_reducible first | exact HB.out | apply below_alloc | apply pw_below_drewN | apply below_drew1 | refine below_set ?_ GE104.out) | exact HB.out)⟩⟩
       ·rw [if_neg c8] at H
        exact absurd H (by simp)
      case rest =>
       clear HC5
       try clear c1
       try clear c2
       try clear p2
       try clear c5
       try clear c8
       try clear c10
       try clear c11
       try clear c16
       try clear c22
       obtain ⟨kq, x63_4, rfl, HA, HJ4, BK104, HB⟩ := hcut
       cases kq with
       | zero => exact absurd HA.out (by simp [spec_BuddyinfoPrint.j1])
       | succ kj4 =>
        have H := HA.out
        clear HA
        simp only [spec_BuddyinfoPrint.j1] at H
        by_cases c31 : x63_4 = true
        ·subst c31
         have H1 : (some ((⟨#[]⟩ : ByteArray), 2)) = some (r1, r2) := by rw [if_pos rfl] at H; exact H
         clear H
         have H := H1
         clear H1
         simp only [Option.some.injEq, Prod.mk.injEq] at H
         obtain ⟨rfl, rfl⟩ := H
         go_wp2
         go_ret2
         exact ⟨by first | rfl | (simp [errW_none, errW_some] <;> rfl) | (simp [*, errW_none, errW_some] <;> rfl), by repeat (first | (with_reducible first | exact HB.out | apply below_alloc | apply pw_below_drewN | apply below_drew1 | refine below_set ?_ GE104.out) | exact HB.out)⟩
        ·replace c31 := Bool.eq_false_iff.mpr c31
         subst c31
         have H1 : (if 0 < (((rd_T48 l0 x11_1).f2).length : Int) then (if 5 + (rdOf ByteArray.empty ((rd_T48 l0 x11_1).f2) 0).size ≤ 9223372036854775807 then (if ((⟨#[78, 111, 100, 101, 32]⟩ : ByteArray) ++ (rdOf ByteArray.empty ((rd_T48 l0 x11_1).f2) 0)).size + 7 ≤ 9223372036854775807 then (if 1 < (((rd_T48 l0 x11_1).f2).length : Int) then ((spec_Right.f kj4 (rdOf ByteArray.empty ((rd_T48 l0 x11_1).f2) 1) 8).bind fun t114 => (if (((⟨#[78, 111, 100, 101, 32]⟩ : ByteArray) ++ (rdOf ByteArray.empty ((rd_T48 l0 x11_1).f2) 0)) ++ (⟨#[44, 32, 122, 111, 110, 101, 32]⟩ : ByteArray)).size + t114.size ≤ 9223372036854775807 then (if ((((⟨#[78, 111, 100, 101, 32]⟩ : ByteArray) ++ (rdOf ByteArray.empty ((rd_T48 l0 x11_1).f2) 0)) ++ (⟨#[44, 32, 122, 111, 110, 101, 32]⟩ : ByteArray)) ++ t114).size + 1 ≤ 9223372036854775807 then (if x4_1.size + (((((⟨#[78, 111, 100, 101, 32]⟩ : ByteArray) ++ (rdOf ByteArray.empty ((rd_T48 l0 x11_1).f2) 0)) ++ (⟨#[44, 32, 122, 111, 110, 101, 32]⟩ : ByteArray)) ++ t114) ++ (⟨#[32]⟩ : ByteArray)).size ≤ 9223372036854775807 then (spec_BuddyinfoPrint.l1 kj4 l0 (x4_1 ++ (((((⟨#[78, 111, 100, 101, 32]⟩ : ByteArray) ++ (rdOf ByteArray.empty ((rd_T48 l0 x11_1).f2) 0)) ++ (⟨#[44, 32, 122, 111, 110, 101, 32]⟩ : ByteArray)) ++ t114) ++ (⟨#[32]⟩ : ByteArray))) l0 (l0.length : Int) x11_1 ((rd_T48 l0 x11_1).f1) (((rd_T48 l0 x11_1).f1).length : Int) 0) else (none)) else (none)) else (none))) else (none)) else (none)) else (none)) else (none)) = some (r1, r2) := by rw [if_neg (show ¬ (false = true) by decide)] at H; exact H
         clear H
         have H := H1
         clear H1
         by_cases c32 : 0 < (((rd_T48 l0 x11_1).f2).length : Int)
         ·rw [if_pos c32] at H
          have c32b0 : decide (0 < (((rd_T48 l0 x11_1).f2).length : Int)) = true := decide_eq_true c32
          have c32b1 : decide (0 < ((rd_T48 l0 x11_1).f2).length) = true := decide_eq_true (by omega)
          clear c32
          by_cases c33 : 5 + (rdOf ByteArray.empty ((rd_T48 l0 x11_1).f2) 0).size ≤ 9223372036854775807
          ·rw [if_pos c33] at H
           have c33b0 := eq_true c33
           have c33z := c33
           (try simp only [ByteArray.size_append, sz1i2_, sz3i2_, sz5i2_, sz7i2_] at c33z)
           try have c33b3 := eq_false (Nat.not_lt.2 c33z)
           have c33b1 : decide (5 + (rdOf ByteArray.empty ((rd_T48 l0 x11_1).f2) 0).size ≤ 9223372036854775807) = true := decide_eq_true c33
           try have c33b2 : (9223372036854775807 < 5 + (rdOf ByteArray.empty ((rd_T48 l0 x11_1).f2) 0).size) = False := eq_false (Nat.not_lt.2 c33)
           by_cases c34 : ((⟨#[78, 111, 100, 101, 32]⟩ : ByteArray) ++ (rdOf ByteArray.empty ((rd_T48 l0 x11_1).f2) 0)).size + 7 ≤ 9223372036854775807
           ·rw [if_pos c34] at H
            have c34b0 := eq_true c34
            have c34z := c34
            (try simp only [ByteArray.size_append, sz1i2_, sz3i2_, sz5i2_, sz7i2_] at c34z)
            try have c34b3 := eq_false (Nat.not_lt.2 c34z)
            have c34b1 : decide (((⟨#[78, 111, 100, 101, 32]⟩ : ByteArray) ++ (rdOf ByteArray.empty ((rd_T48 l0 x11_1).f2) 0)).size + 7 ≤ 9223372036854775807) = true := decide_eq_true c34
            try have c34b2 : (9223372036854775807 < ((⟨#[78, 111, 100, 101, 32]⟩ : ByteArray) ++ (rdOf ByteArray.empty ((rd_T48 l0 x11_1).f2) 0)).size + 7) = False := eq_false (Nat.not_lt.2 c34)
            by_cases c35 : 1 < (((rd_T48 l0 x11_1).f2).length : Int)
            ·rw [if_pos c35] at H
             have c35b0 : decide (1 < (((rd_T48 l0 x11_1).f2).length : Int)) = true := decide_eq_true c35
             have c35b1 : decide (1 < ((rd_T48 l0 x11_1).f2).length) = true := decide_eq_true (by omega)
             clear c35
             replace H := Option.bind_eq_some_iff.mp H
             obtain ⟨t114, A360, H⟩ := H
             have A36 := Aside0.mk A360
             clear A360
             by_cases c37 : (((⟨#[78, 111, 100, 101, 32]⟩ : ByteArray) ++ (rdOf ByteArray.empty ((rd_T48 l0 x11_1).f2) 0)) ++ (⟨#[44, 32, 122, 111, 110, 101, 32]⟩ : ByteArray)).size + t114.size ≤ 9223372036854775807
             ·rw [if_pos c37] at H
              have c37b0 := eq_true c37
              have c37z := c37
              (try simp only [ByteArray.size_append, sz1i2_, sz3i2_, sz5i2_, sz7i2_] at c37z)
              try have c37b3 := eq_false (Nat.not_lt.2 c37z)
              have c37b1 : decide ((((⟨#[78, 111, 100, 101, 32]⟩ : ByteArray) ++ (rdOf ByteArray.empty ((rd_T48 l0 x11_1).f2) 0)) ++ (⟨#[44, 32, 122, 111, 110, 101, 32]⟩ : ByteArray)).size + t114.size ≤ 9223372036854775807) = true := decide_eq_true c37
              try have c37b2 : (9223372036854775807 < (((⟨#[78, 111, 100, 101, 32]⟩ : ByteArray) ++ (rdOf ByteArray.empty ((rd_T48 l0 x11_1).f2) 0)) ++ (⟨#[44, 32, 122, 111, 110, 101, 32]⟩ : ByteArray)).size + t114.size) = False := eq_false (Nat.not_lt.2 c37)
              by_cases c38 : ((((⟨#[78, 111, 100, 101, 32]⟩ : ByteArray) ++ (rdOf ByteArray.empty ((rd_T48 l0 x11_1).f2) 0)) ++ (⟨#[44, 32, 122, 111, 110, 101, 32]⟩ : ByteArray)) ++ t114).size + 1 ≤ 9223372036854775807
              ·rw [if_pos c38] at H
               have c38b0 := eq_true c38
               have c38z := c38
               (try simp only [ByteArray.size_append, sz1i2_, sz3i2_, sz5i2_, sz7i2_] at c38z)
               try have c38b3 := eq_false (Nat.not_lt.2 c38z)
               have c38b1 : decide (((((⟨#[78, 111, 100, 101, 32]⟩ : ByteArray) ++ (rdOf ByteArray.empty ((rd_T48 l0 x11_1).f2) 0)) ++ (⟨#[44, 32, 122, 111, 110, 101, 32]⟩ : ByteArray)) ++ t114).size + 1 ≤ 9223372036854775807) = true := decide_eq_true c38
               try have c38b2 : (9223372036854775807 < ((((⟨#[78, 111, 100, 101, 32]⟩ : ByteArray) ++ (rdOf ByteArray.empty ((rd_T48 l0 x11_1).f2) 0)) ++ (⟨#[44, 32, 122, 111, 110, 101, 32]⟩ : ByteArray)) ++ t114).size + 1) = False := eq_false (Nat.not_lt.2 c38)
               by_cases c39 : x4_1.size + (((((⟨#[78, 111, 100, 101, 32]⟩ : ByteArray) ++ (rdOf ByteArray.empty ((rd_T48 l0 x11_1).f2) 0)) ++ (⟨#[44, 32, 122, 111, 110, 101, 32]⟩ : ByteArray)) ++ t114) ++ (⟨#[32]⟩ : ByteArray)).size ≤ 9223372036854775807
               ·rw [if_pos c39] at H
                have c39b0 := eq_true c39
                have c39z := c39
                (try simp only [ByteArray.size_append, sz1i2_, sz3i2_, sz5i2_, sz7i2_] at c39z)
                try have c39b3 := eq_false (Nat.not_lt.2 c39z)
                have c39b1 : decide (x4_1.size + (((((⟨#[78, 111, 100, 101, 32]⟩ : ByteArray) ++ (rdOf ByteArray.empty ((rd_T48 l0 x11_1).f2) 0)) ++ (⟨#[44, 32, 122, 111, 110, 101, 32]⟩ : ByteArray)) ++ t114) ++ (⟨#[32]⟩ : ByteArray)).size ≤ 9223372036854775807) = true := decide_eq_true c39
                try have c39b2 : (9223372036854775807 < x4_1.size + (((((⟨#[78, 111, 100, 101, 32]⟩ : ByteArray) ++ (rdOf ByteArray.empty ((rd_T48 l0 x11_1).f2) 0)) ++ (⟨#[44, 32, 122, 111, 110, 101, 32]⟩ : ByteArray)) ++ t114) ++ (⟨#[32]⟩ : ByteArray)).size) = False := eq_false (Nat.not_lt.2 c39)
                have H' := Aside0.mk H
                clear H
                try go_wp2
                have n0_ := Aside0.mk (blk_drew BK104.out)
                have n1_ := Aside0.mk (below_drew1 HB.out)
                clear BK104
                clear HB
                have BK104 := n0_
                have HB := n1_
                clear n0_ n1_
                have p112 : 0 ≤ (0 : Int) := (by omega)
                have q112 : 0 < (((rd_T48 l0 x11_1).f2).length : Int) := of_decide_eq_true (by first | (with_reducible assumption) | assumption)
                obtain ⟨ad112, e112, hx112_0⟩ := Kd.at_string HR103_2.out 0 p112 q112
                have hw112_0 := hx112_0
                (try rw [show ((0 : Int)).toNat = 0 from rfl] at hw112_0)
                (try rw [show 0 * 1 = 0 from rfl] at hw112_0)
                (try rw [Addr.add_zero'] at hw112_0)
                cases e112
                have qi112 : (0 < ((rd_T48 l0 x11_1).f2).length) = True := eq_true (by omega)
                (try rw [show ((0 : Int)).toNat = 0 from rfl] at hx112_0)
                (try rw [Addr.add_zero'] at hx112_0)
                replace hx112_0 := (HB.out.cell (World.block_lt_of_cell? w _ hx112_0)).trans hx112_0
                replace p112 := eq_true p112
                replace q112 := eq_true q112
                have p113 : 0 ≤ (1 : Int) := (by omega)
                have q113 : 1 < (((rd_T48 l0 x11_1).f2).length : Int) := of_decide_eq_true (by first | (with_reducible assumption) | assumption)
                obtain ⟨ad113, e113, hx113_0⟩ := Kd.at_string HR103_2.out 1 p113 q113
                have hw113_0 := hx113_0
                (try rw [show ((1 : Int)).toNat = 1 from rfl] at hw113_0)
                (try rw [show 1 * 1 = 1 from rfl] at hw113_0)
                (try simp only [Nat.reduceMul, Nat.reduceEqDiff, Go.Addr.add, ↓reduceIte] at hw113_0)
                obtain rfl : ad112 = ad113 := (by injection e113)
                (try simp only [show (1 : Int).toNat = 1 from rfl, Nat.reduceMul, Nat.reduceEqDiff, Go.Addr.add, ↓reduceIte] at hx113_0)
                have qi113 : (1 < ((rd_T48 l0 x11_1).f2).length) = True := eq_true (by omega)
                (try rw [show ((1 : Int)).toNat = 1 from rfl] at hx113_0)
                replace hx113_0 := (HB.out.cell (World.block_lt_of_cell? w _ hx113_0)).trans hx113_0
                replace p113 := eq_true p113
                replace q113 := eq_true q113
                refine start_ (n := 16) (S := fun w' => w'.cell? ⟨gb104, 0, none⟩ = some (.string ((rd_T48 l0 x11_1).f0)) ∧ w'.cell? ⟨gb104, 1, none⟩ = some (.slice A103_1 ((rd_T48 l0 x11_1).f1).length c103_1) ∧ w'.cell? ⟨gb104, 2, none⟩ = some (.slice (some ad112) ((rd_T48 l0 x11_1).f2).length c103_2) ∧ w'.cell? ad112 = some (.string (rdOf ByteArray.empty ((rd_T48 l0 x11_1).f2) 0)) ∧ w'.cell? ⟨ad112.block, ad112.off + 1, none⟩ = some (.string (rdOf ByteArray.empty ((rd_T48 l0 x11_1).f2) 1))) (ds := []) (tfA 0 16) (by kernel_rfl) rfl rfl ⟨(blk_cell BK104.out 0).trans rfl, (blk_cell BK104.out 1).trans rfl, (blk_cell BK104.out 2).trans rfl, ((HB.out.cell (World.block_lt_of_cell? w _ hw112_0)).trans hw112_0), ((HB.out.cell (World.block_lt_of_cell? w _ hw113_0)).trans hw113_0)⟩ (fun hHeld => ?_); refine with_tabW spec_BuddyinfoPrint.tab7 spec_BuddyinfoPrint.bits7 (fun HT_ HW_ => ?_)
                generalize wc.drew = w40 at BK104 HB hx112_0 hx113_0 hHeld ⊢
                refine pure_ (i := 0) (N := some 64) (v := ?_) (a' := ?_) (tfA 1 15) rfl rfl (any_of HT_.out (by kernel_rfl)) (fun _ _ _ h => h) (Or.inl ⟨by rfl, ?_⟩) ?_ ?_
                rotate_left
                ·intro w'
                 go_simp
                 first | with_reducible rfl | (rw [if_neg (by omega)])
                rotate_left
                ·simp only [Act.put, sA, s0, s1, i64_w, i32_w]
                 rfl
                refine pure_ (i := 1) (N := some 65) (v := ?_) (a' := ?_) (tfA 2 14) rfl rfl (any_of HT_.out (by kernel_rfl)) (fun _ _ _ h => h) (Or.inl ⟨by rfl, ?_⟩) ?_ ?_
                rotate_left
                ·intro w'
                 go_simp
                 first | with_reducible rfl | (rw [if_neg (by omega)])
                rotate_left
                ·simp only [Act.put, sA, s0, s1, i64_w, i32_w]
                 rfl
                refine pure_ (i := 7) (N := some 71) (v := ?_) (a' := ?_) (bnA 16 131) rfl rfl (any_of HT_.out (by kernel_rfl)) (fun _ _ _ h => h) (Or.inl ⟨by rfl, ?_⟩) ?_ ?_
                rotate_left
                ·intro w'
                 go_simp
                 first | with_reducible rfl | (rw [if_neg (by omega)])
                rotate_left
                ·simp only [Act.put, sA, s0, s1, i64_w, i32_w]
                 rfl
                refine take_ (i := 2) (N := some 66) (v := ?_) (a' := ?_) (bnA 16 135) rfl rfl (take_ofW HT_.out HW_.out (by kernel_rfl)) (fun _ _ _ h => h) (Or.inl ⟨by rfl, ?_⟩) hHeld ?_ ?_
                rotate_left
                ·rintro w' ⟨s0, s1, s2, s3, s4⟩
                 go_simp
                 first | with_reducible rfl | (rw [if_neg (by omega)])
                rotate_left
                ·simp only [Act.put, sA, s0, s1, i64_w, i32_w]
                 rfl
                refine pure_ (i := 3) (N := some 67) (v := ?_) (a' := ?_) (bnA 16 143) rfl rfl (any_of HT_.out (by kernel_rfl)) (fun _ _ _ h => h) (Or.inl ⟨by rfl, ?_⟩) ?_ ?_
                rotate_left
                ·intro w'
                 go_simp
                 first | with_reducible rfl | (rw [if_neg (by omega)])
                rotate_left
                ·simp only [Act.put, sA, s0, s1, i64_w, i32_w]
                 rfl
                refine take_ (i := 4) (N := some 68) (v := ?_) (a' := ?_) (bnA 16 159) rfl rfl (take_ofW HT_.out HW_.out (by kernel_rfl)) (fun _ _ _ h => h) (Or.inl ⟨by rfl, ?_⟩) hHeld ?_ ?_
                rotate_left
                ·rintro w' ⟨s0, s1, s2, s3, s4⟩
                 go_simp
                 first | with_reducible rfl | (rw [if_neg (by omega)])
                rotate_left
                ·simp only [Act.put, sA, s0, s1, i64_w, i32_w]
                 rfl
                refine pure_ (i := 5) (N := some 69) (v := ?_) (a' := ?_) (bnA 16 191) rfl rfl (any_of HT_.out (by kernel_rfl)) (fun _ _ _ h => h) (Or.inl ⟨by rfl, ?_⟩) ?_ ?_
                rotate_left
                ·intro w'
                 go_simp
                 first | with_reducible rfl | (rw [if_neg (by omega)])
                rotate_left
                ·simp only [Act.put, sA, s0, s1, i64_w, i32_w]
                 rfl
                refine pure_ (i := 6) (N := some 70) (v := ?_) (a' := ?_) (tfA 8 8) rfl rfl (any_of HT_.out (by kernel_rfl)) (fun _ _ _ h => h) (Or.inl ⟨by rfl, ?_⟩) ?_ ?_
                rotate_left
                ·intro w'
                 go_simp
                 first | with_reducible rfl | (rw [if_neg (by omega)])
                rotate_left
                ·simp only [Act.put, sA, s0, s1, i64_w, i32_w]
                 rfl
                refine take_ (i := 8) (N := some 72) (v := ?_) (a' := ?_) (tfA 9 7) rfl rfl (take_ofW HT_.out HW_.out (by kernel_rfl)) (fun _ _ _ h => h) (Or.inl ⟨by rfl, ?_⟩) hHeld ?_ ?_
                rotate_left
                ·rintro w' ⟨s0, s1, s2, s3, s4⟩
                 go_simp
                 first | with_reducible rfl | (rw [if_neg (by omega)])
                rotate_left
                ·simp only [Act.put, sA, s0, s1, i64_w, i32_w]
                 rfl
                refine pure_ (i := 9) (N := some 73) (v := ?_) (a' := ?_) (tfA 10 6) rfl rfl (any_of HT_.out (by kernel_rfl)) (fun _ _ _ h => h) (Or.inl ⟨by rfl, ?_⟩) ?_ ?_
                rotate_left
                ·intro w'
                 go_simp
                 first | with_reducible rfl | (rw [if_neg (by omega)])
                rotate_left
                ·simp only [Act.put, sA, s0, s1, i64_w, i32_w]
                 rfl
                refine take_ (i := 10) (N := some 74) (v := ?_) (a' := ?_) (tfA 11 5) rfl rfl (take_ofW HT_.out HW_.out (by kernel_rfl)) (fun _ _ _ h => h) (Or.inl ⟨by rfl, ?_⟩) hHeld ?_ ?_
                rotate_left
                ·rintro w' ⟨s0, s1, s2, s3, s4⟩
                 go_simp
                 first | with_reducible rfl | (rw [if_neg (by omega)])
                rotate_left
                ·simp only [Act.put, sA, s0, s1, i64_w, i32_w]
                 rfl
                refine one_ (i := 11) (N := some 75) (tfA 12 4) rfl rfl (one_of HT_.out (by kernel_rfl)) (by decide) (fun K hK => ?_)
                refine goes_ Tryz.func59 (by kernel_rfl) rfl #[.string (rdOf ByteArray.empty ((rd_T48 l0 x11_1).f2) 1), .int .i64 8] (by rfl) rfl rfl (by (try simp only [List.map_toArray, List.map_cons, List.map_nil]); first | done | rfl | (simp only [List.length_drop, List.length_take]; rfl)) ?_
                with_reducible refine (spec_Right.calls kj4 (rdOf ByteArray.empty ((rd_T48 l0 x11_1).f2) 1) 8 t114 _ A36.out).mono ?_
                rintro e w' ⟨rfl, ⟨nd, rfl⟩⟩
                refine ⟨_, rfl, ?_⟩
                refine hK.out _ _ ⟨(blk_cell BK104.out 0).trans rfl, (blk_cell BK104.out 1).trans rfl, (blk_cell BK104.out 2).trans rfl, ((HB.out.cell (World.block_lt_of_cell? w _ hw112_0)).trans hw112_0), ((HB.out.cell (World.block_lt_of_cell? w _ hw113_0)).trans hw113_0)⟩ (fun hHeld => ?_)
                clear hK K
                refine norm_ (a' := ?_) ?_ ?_
                rotate_left
                ·show Act.put _ (some 75) _ = _
                 simp only [Act.put, sA, s0, s1, i64_w, i32_w]
                 rfl
                refine pure_ (i := 12) (N := some 76) (v := ?_) (a' := ?_) (tfA 13 3) rfl rfl (any_of HT_.out (by kernel_rfl)) (fun _ _ _ h => h) (Or.inl ⟨by rfl, ?_⟩) ?_ ?_
                rotate_left
                ·intro w'
                 go_simp
                 first | with_reducible rfl | (rw [if_neg (by omega)])
                rotate_left
                ·simp only [Act.put, sA, s0, s1, i64_w, i32_w]
                 rfl
                refine pure_ (i := 13) (N := some 77) (v := ?_) (a' := ?_) (tfA 14 2) rfl rfl (any_of HT_.out (by kernel_rfl)) (fun _ _ _ h => h) (Or.inl ⟨by rfl, ?_⟩) ?_ ?_
                rotate_left
                ·intro w'
                 go_simp
                 first | with_reducible rfl | (rw [if_neg (by omega)])
                rotate_left
                ·simp only [Act.put, sA, s0, s1, i64_w, i32_w]
                 rfl
                refine pure_ (i := 14) (N := some 78) (v := ?_) (a' := ?_) (tfA 15 1) rfl rfl (any_of HT_.out (by kernel_rfl)) (fun _ _ _ h => h) (Or.inl ⟨by rfl, ?_⟩) ?_ ?_
                rotate_left
                ·intro w'
                 go_simp
                 first | with_reducible rfl | (rw [if_neg (by omega)])
                rotate_left
                ·simp only [Act.put, sA, s0, s1, i64_w, i32_w]
                 rfl
                refine pure_ (i := 15) (N := some 4) (v := ?_) (a' := ?_) (tfA 16 0) rfl rfl (any_of HT_.out (by kernel_rfl)) (fun _ _ _ h => h) (Or.inl ⟨by rfl, ?_⟩) ?_ ?_
                rotate_left
                ·intro w'
                 go_simp
                 first | with_reducible rfl | (rw [if_neg (by omega)])
                rotate_left
                ·simp only [Act.put, sA, s0, s1, i64_w, i32_w]
                 rfl
                refine done_ (done_of HT_.out (by kernel_rfl)) ?_
                obtain ⟨hcz41_0, hcz41_1, hcz41_2, hfz41_0, hfz41_1, hfz41_2⟩ := rows3 (w := w40) BK104
                try go_wp2
                go_loopg [4, 82] kj4 (fun kq v4 v82 w' => ∃ (x4_3 : ByteArray) (x82_3 : Int), v4 = .string x4_3 ∧ v82 = .int .i64 x82_3 ∧ Aside0 (spec_BuddyinfoPrint.l1 kq l0 x4_3 l0 (l0.length : Int) x11_1 ((rd_T48 l0 x11_1).f1) (((rd_T48 l0 x11_1).f1).length : Int) x82_3 = some (r1, r2)) ∧ Aside0 (kq ≤ kj4) ∧ Aside0 (w'.heap[gb104]? = some (.cells #[.string ((rd_T48 l0 x11_1).f0), (.slice A103_1 ((rd_T48 l0 x11_1).f1).length c103_1), (.slice (some ad112) ((rd_T48 l0 x11_1).f2).length c103_2)] 48 (0, 0))) ∧ Aside0 (Below w.heap.size w w'))
                case atStart => exact ⟨(x4_1 ++ (((((⟨#[78, 111, 100, 101, 32]⟩ : ByteArray) ++ (rdOf ByteArray.empty ((rd_T48 l0 x11_1).f2) 0)) ++ (⟨#[44, 32, 122, 111, 110, 101, 32]⟩ : ByteArray)) ++ t114) ++ (⟨#[32]⟩ : ByteArray))), (0), (by first | rfl | (simp; done) | (simp [*]; done) | (simp [bne_nil]; done) | (simp [bne_nil, *]; done)), (by first | rfl | (simp; done) | (simp [*]; done) | (simp [bne_nil]; done) | (simp [bne_nil, *]; done)), H', ⟨Nat.le_refl _⟩, ⟨by refine bY ?_; exact BK104.out⟩, ⟨by repeat (first | (with_reducible first | exact HB.out | apply below_alloc | apply pw_below_drewN | apply below_drew1 | refine below_set ?_ GE104.out) | exact HB.out)⟩⟩
                case round =>
                 clear H'
                 try clear c1
                 try clear p1
                 try clear q1
                 try clear hx1
                 try clear qi1
                 try clear c2
                 try clear p2
                 try clear c3
                 try clear c5
                 try clear c8
                 try clear c10
                 try clear c11
                 try clear p11
                 try clear q11
                 try clear hx11
                 try clear qi11
                 try clear c16
                 try clear c22
                 try clear c31
                 try clear c32
                 try clear c32b0
                 try clear c32b1
                 try clear c33
                 try clear c33b0
                 try clear c33b1
                 try clear c33b2
                 try clear c34
                 try clear c34b0
                 try clear c34b1
                 try clear c34b2
                 try clear c35
                 try clear c35b0
                 try clear c35b1
                 try clear c37
                 try clear c37b0
                 try clear c37b1
                 try clear c37b2
                 try clear c38
                 try clear c38b0
                 try clear c38b1
                 try clear c38b2
                 try clear c39
                 try clear c39b0
                 try clear c39b1
                 try clear c39b2
                 try clear hcz41_0
                 try clear hcz41_1
                 try clear hcz41_2
                 try clear hfz41_0
                 try clear hfz41_1
                 try clear hfz41_2
                 try clear hx112_0
                 try clear hx113_0
                 try clear p112
                 try clear p113
                 try clear p2
                 try clear q112
                 try clear q113
                 obtain ⟨x4_3, x82_3, rfl, rfl, HA, HK3, BK104, HB⟩ := hrel
                 cases gk with
                 | zero => exact absurd HA.out (by simp [spec_BuddyinfoPrint.l1])
                 | succ k3 =>
                  have H := HA.out
                  clear HA
                  simp only [spec_BuddyinfoPrint.l1] at H
                  by_cases c42 : x82_3 < (((rd_T48 l0 x11_1).f1).length : Int)
                  ·rw [if_pos c42] at H
                   have c42b0 : decide (x82_3 < (((rd_T48 l0 x11_1).f1).length : Int)) = true := decide_eq_true c42
                   clear c42
                   by_cases c43 : 0 ≤ x82_3
                   ·rw [if_pos c43] at H
                    have c43b0 : decide (0 ≤ x82_3) = true := decide_eq_true c43
                    clear c43
                    by_cases c44 : x82_3 < (((rd_T48 l0 x11_1).f1).length : Int)
                    ·rw [if_pos c44] at H
                     have c44b0 : decide (x82_3 < (((rd_T48 l0 x11_1).f1).length : Int)) = true := decide_eq_true c44
                     clear c44
                     replace H := Option.bind_eq_some_iff.mp H
                     obtain ⟨t116, A450, H⟩ := H
                     have A45 := Aside0.mk A450
                     clear A450
                     replace H := Option.bind_eq_some_iff.mp H
                     obtain ⟨t117, A460, H⟩ := H
                     have A46 := Aside0.mk A460
                     clear A460
                     by_cases c47 : t117.size + 1 ≤ 9223372036854775807
                     ·rw [if_pos c47] at H
                      have c47b0 := eq_true c47
                      have c47z := c47
                      (try simp only [ByteArray.size_append, sz1i2_, sz3i2_, sz5i2_, sz7i2_] at c47z)
                      try have c47b3 := eq_false (Nat.not_lt.2 c47z)
                      have c47b1 : decide (t117.size + 1 ≤ 9223372036854775807) = true := decide_eq_true c47
                      try have c47b2 : (9223372036854775807 < t117.size + 1) = False := eq_false (Nat.not_lt.2 c47)
                      by_cases c48 : x4_3.size + (t117 ++ (⟨#[32]⟩ : ByteArray)).size ≤ 9223372036854775807
                      ·rw [if_pos c48] at H
                       have c48b0 := eq_true c48
                       have c48z := c48
                       (try simp only [ByteArray.size_append, sz1i2_, sz3i2_, sz5i2_, sz7i2_] at c48z)
                       try have c48b3 := eq_false (Nat.not_lt.2 c48z)
                       have c48b1 : decide (x4_3.size + (t117 ++ (⟨#[32]⟩ : ByteArray)).size ≤ 9223372036854775807) = true := decide_eq_true c48
                       try have c48b2 : (9223372036854775807 < x4_3.size + (t117 ++ (⟨#[32]⟩ : ByteArray)).size) = False := eq_false (Nat.not_lt.2 c48)
                       have H' := Aside0.mk H
                       clear H
                       have p115 : 0 ≤ (x82_3 : Int) := of_decide_eq_true (by first | (with_reducible assumption) | assumption)
                       have q115 : x82_3 < (((rd_T48 l0 x11_1).f1).length : Int) := of_decide_eq_true (by first | (with_reducible assumption) | assumption)
                       obtain ⟨ad115, e115, hx115_0⟩ := Kd.at_int HR103_1.out x82_3 p115 q115
                       cases e115
                       replace hx115_0 := (HB.out.cell (World.block_lt_of_cell? w _ hx115_0)).trans hx115_0
                       replace p115 := eq_true p115
                       replace q115 := eq_true q115
                       go_wp2_with (first | ((with_reducible refine gate_callee (f := 48) rfl ?_); refine goesL_ (some 88) rfl rfl Tryz.func48 (by kernel_rfl) rfl #[.int .u64 (rd ((rd_T48 l0 x11_1).f1) x82_3)] rfl (by (try simp only [List.map_toArray, List.map_cons, List.map_nil]); first | done | rfl | (simp only [List.length_drop, List.length_take]; rfl)) ?_; (with_reducible refine (spec_Text.calls k3 (rd ((rd_T48 l0 x11_1).f1) x82_3) t116 _ A45.out).mono ?_); rintro e w49 ⟨rfl, hb⟩; refine ⟨_, rfl, ?_⟩; have n0_ := Aside0.mk (blk_below (g := gb104) (o := .cells #[.string ((rd_T48 l0 x11_1).f0), .slice (some ad115) ((rd_T48 l0 x11_1).f1).length c103_1, .slice (some ad112) ((rd_T48 l0 x11_1).f2).length c103_2] 48 (0, 0)) (by refine bY ?_; exact BK104.out) hb); have n1_ := Aside0.mk (below_step belS hb); clear BK104; clear HB; have BK104 := n0_; have HB := n1_; clear n0_ n1_; (try clear hb); (try clear hb2); (try clear hk); (try clear hi)) | ((with_reducible refine gate_callee (f := 59) rfl ?_); refine goesL_ (some 89) rfl rfl Tryz.func59 (by kernel_rfl) rfl #[.string t116, .int .i64 6] rfl (by (try simp only [List.map_toArray, List.map_cons, List.map_nil]); first | done | rfl | (simp only [List.length_drop, List.length_take]; rfl)) ?_; (with_reducible refine (spec_Right.calls k3 t116 6 t117 _ A46.out).mono ?_); rintro e w' ⟨rfl, ⟨nd, rfl⟩⟩; refine ⟨_, rfl, ?_⟩))
                       go_roundg k3
                       case measure => have := HK1.out; have := HJ4.out; have := HK3.out; omega
                       case rel => exact ⟨(x4_3 ++ (t117 ++ (⟨#[32]⟩ : ByteArray))), (wrap64 (x82_3 + 1)), (by first | rfl | (simp; done) | (simp [*]; done) | (simp [bne_nil]; done) | (simp [bne_nil, *]; done)), (by first | rfl | (simp; done) | (simp [*]; done) | (simp [bne_nil]; done) | (simp [bne_nil, *]; done)), H', ⟨by have := HK1.out; have := HJ4.out; have := HK3.out; omega⟩, ⟨by refine bY ?_; exact BK104.out⟩, ⟨by repeat (first | (with_reducible first | exact HB.out | apply below_alloc | apply pw_below_drewN | apply below_drew1 | refine below_set ?_ GE104.out) | exact HB.out)⟩⟩
                      ·rw [if_neg c48] at H
                       exact absurd H (by simp)
                     ·rw [if_neg c47] at H
                      exact absurd H (by simp)
                    ·rw [if_neg c44] at H
                     exact absurd H (by simp)
                   ·rw [if_neg c43] at H
                    exact absurd H (by simp)
                  ·rw [if_neg c42] at H
                   have c42b0 : decide (x82_3 < (((rd_T48 l0 x11_1).f1).length : Int)) = false := decide_eq_false c42
                   clear c42
                   by_cases c50 : x4_3.size + 1 ≤ 9223372036854775807
                   ·rw [if_pos c50] at H
                    have c50b0 := eq_true c50
                    have c50z := c50
                    (try simp only [ByteArray.size_append, sz1i2_, sz3i2_, sz5i2_, sz7i2_] at c50z)
                    try have c50b3 := eq_false (Nat.not_lt.2 c50z)
                    have c50b1 : decide (x4_3.size + 1 ≤ 9223372036854775807) = true := decide_eq_true c50
                    try have c50b2 : (9223372036854775807 < x4_3.size + 1) = False := eq_false (Nat.not_lt.2 c50)
                    have H' := Aside0.mk H
                    clear H
                    go_wp2
                    go_roundg k3
                    case measure => have := HK1.out; have := HJ4.out; have := HK3.out; omega
                    case rel => exact ⟨(x4_3 ++ (⟨#[10]⟩ : ByteArray)), (wrap64 (x11_1 + 1)), (by first | rfl | (simp; done) | (simp [*]; done) | (simp [bne_nil]; done) | (simp [bne_nil, *]; done)), (by first | rfl | (simp; done) | (simp [*]; done) | (simp [bne_nil]; done) | (simp [bne_nil, *]; done)), H', ⟨by have := HK1.out; have := HJ4.out; have := HK3.out; omega⟩, ⟨by repeat (first | (with_reducible first | exact HB.out | apply below_alloc | apply pw_below_drewN | apply below_drew1 | refine below_set ?_ GE104.out) | exact HB.out)⟩⟩
                   ·rw [if_neg c50] at H
                    exact absurd H (by simp)
               ·rw [if_neg c39] at H
                exact absurd H (by simp)
              ·rw [if_neg c38] at H
               exact absurd H (by simp)
             ·rw [if_neg c37] at H
              exact absurd H (by simp)
            ·rw [if_neg c35] at H
             exact absurd H (by simp)
           ·rw [if_neg c34] at H
            exact absurd H (by simp)
          ·rw [if_neg c33] at H
           exact absurd H (by simp)
         ·rw [if_neg c32] at H
          exact absurd H (by simp)
     ·rw [if_neg c4] at H
      exact absurd H (by simp)
    ·rw [if_neg c3] at H
     exact absurd H (by simp)
   ·rw [if_neg c2] at H
    have c2b0 : decide (x11_1 < (l0.length : Int)) = false := decide_eq_false c2
    clear c2
    simp only [Option.some.injEq, Prod.mk.injEq] at H
    obtain ⟨rfl, rfl⟩ := H
    go_wp2
    go_ret2
    exact ⟨by first | rfl | (simp [errW_none, errW_some] <;> rfl) | (simp [*, errW_none, errW_some] <;> rfl), by repeat (first | (with_reducible first | exact HB.out | apply below_alloc | apply pw_below_drewN | apply below_drew1) | exact HB.out)⟩

end Go.Proofs.YtdmpbaanonafbaaGreatDoor.I
