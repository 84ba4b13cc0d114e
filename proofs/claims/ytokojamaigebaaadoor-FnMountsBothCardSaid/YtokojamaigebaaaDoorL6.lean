-- written by a program of this session (wip/tools/pp.py)
import Derived.Test.YtokojamaigebaaaDoorL0
import Derived.Test.YtokojamaigebaaaDoorL4
import Derived.Test.YtokojamaigebaaaDoorL5
namespace Go.Proofs.YtokojamaigebaaaDoor.L
open Go.RowKit Go.Proofs.YtokojamaigebaaaDoorW.PrintWords Go.Proofs.YtokojamaigebaaaDoorW.PrintLast Go.Proofs.YtokojamaigebaaaDoor.M Go.Proofs.YtokojamaigebaaaDoor.MtDoor Go.Proofs.YtokojamaigebaaaDoorW.PrintMore
attribute [local go_sem] max2_int min2_int max_two min_two max_three min_three max_four min_four   -- for this text's walks alone
set_option linter.unusedVariables false
set_option linter.unusedSimpArgs false
theorem sz1l6_ (c : UInt8) : (⟨#[c]⟩ : ByteArray).size = 1 := rfl
theorem sz3l6_ (a b c : UInt8) : (⟨#[a, b, c]⟩ : ByteArray).size = 3 := rfl
theorem sz5l6_ (a b c d e : UInt8) : (⟨#[a, b, c, d, e]⟩ : ByteArray).size = 5 := rfl
theorem sz7l6_ (a b c d e f g : UInt8) : (⟨#[a, b, c, d, e, f, g]⟩ : ByteArray).size = 7 := rfl

/-! ### spec_MountsPrint: function 18 -/
def spec_MountsPrint.l0 : Nat → ByteArray → List (S62) → Int → Int → Option (ByteArray × Int)
 | 0, _, _, _, _ => none
 | k + 1, x4, x7, x8, x9 => if x9 < x8 then (if 0 ≤ x9 then (if x9 < (x7.length : Int) then ((spec_mountValid.f k ((rd_T62 x7 x9).f0) ((rd_T62 x7 x9).f1) ((rd_T62 x7 x9).f2) ((rd_T62 x7 x9).f3) ((rd_T62 x7 x9).f4) ((rd_T62 x7 x9).f5) ((rd_T62 x7 x9).f6) ((rd_T62 x7 x9).f7) ((rd_T62 x7 x9).f8) ((rd_T62 x7 x9).f9) ((rd_T62 x7 x9).f10)).bind fun t147 => (if t147 = true then ((spec_natural.f k ((rd_T62 x7 x9).f0)).bind fun t148 => (if t148.size + 1 ≤ 9223372036854775807 then ((spec_natural.f k ((rd_T62 x7 x9).f1)).bind fun t149 => (if (t148 ++ (⟨#[32]⟩ : ByteArray)).size + t149.size ≤ 9223372036854775807 then (if ((t148 ++ (⟨#[32]⟩ : ByteArray)) ++ t149).size + 1 ≤ 9223372036854775807 then ((spec_natural.f k ((rd_T62 x7 x9).f2)).bind fun t150 => (if (((t148 ++ (⟨#[32]⟩ : ByteArray)) ++ t149) ++ (⟨#[32]⟩ : ByteArray)).size + t150.size ≤ 9223372036854775807 then (if ((((t148 ++ (⟨#[32]⟩ : ByteArray)) ++ t149) ++ (⟨#[32]⟩ : ByteArray)) ++ t150).size + 1 ≤ 9223372036854775807 then ((spec_natural.f k ((rd_T62 x7 x9).f3)).bind fun t151 => (if (((((t148 ++ (⟨#[32]⟩ : ByteArray)) ++ t149) ++ (⟨#[32]⟩ : ByteArray)) ++ t150) ++ (⟨#[58]⟩ : ByteArray)).size + t151.size ≤ 9223372036854775807 then (if ((((((t148 ++ (⟨#[32]⟩ : ByteArray)) ++ t149) ++ (⟨#[32]⟩ : ByteArray)) ++ t150) ++ (⟨#[58]⟩ : ByteArray)) ++ t151).size + 1 ≤ 9223372036854775807 then ((spec_octal.f k ((rd_T62 x7 x9).f4)).bind fun t152 => (if (((((((t148 ++ (⟨#[32]⟩ : ByteArray)) ++ t149) ++ (⟨#[32]⟩ : ByteArray)) ++ t150) ++ (⟨#[58]⟩ : ByteArray)) ++ t151) ++ (⟨#[32]⟩ : ByteArray)).size + t152.size ≤ 9223372036854775807 then (if ((((((((t148 ++ (⟨#[32]⟩ : ByteArray)) ++ t149) ++ (⟨#[32]⟩ : ByteArray)) ++ t150) ++ (⟨#[58]⟩ : ByteArray)) ++ t151) ++ (⟨#[32]⟩ : ByteArray)) ++ t152).size + 1 ≤ 9223372036854775807 then ((spec_octal.f k ((rd_T62 x7 x9).f5)).bind fun t153 => (if (((((((((t148 ++ (⟨#[32]⟩ : ByteArray)) ++ t149) ++ (⟨#[32]⟩ : ByteArray)) ++ t150) ++ (⟨#[58]⟩ : ByteArray)) ++ t151) ++ (⟨#[32]⟩ : ByteArray)) ++ t152) ++ (⟨#[32]⟩ : ByteArray)).size + t153.size ≤ 9223372036854775807 then (if ((((((((((t148 ++ (⟨#[32]⟩ : ByteArray)) ++ t149) ++ (⟨#[32]⟩ : ByteArray)) ++ t150) ++ (⟨#[58]⟩ : ByteArray)) ++ t151) ++ (⟨#[32]⟩ : ByteArray)) ++ t152) ++ (⟨#[32]⟩ : ByteArray)) ++ t153).size + 1 ≤ 9223372036854775807 then (if (((((((((((t148 ++ (⟨#[32]⟩ : ByteArray)) ++ t149) ++ (⟨#[32]⟩ : ByteArray)) ++ t150) ++ (⟨#[58]⟩ : ByteArray)) ++ t151) ++ (⟨#[32]⟩ : ByteArray)) ++ t152) ++ (⟨#[32]⟩ : ByteArray)) ++ t153) ++ (⟨#[32]⟩ : ByteArray)).size + ((rd_T62 x7 x9).f6).size ≤ 9223372036854775807 then (if x4.size + ((((((((((((t148 ++ (⟨#[32]⟩ : ByteArray)) ++ t149) ++ (⟨#[32]⟩ : ByteArray)) ++ t150) ++ (⟨#[58]⟩ : ByteArray)) ++ t151) ++ (⟨#[32]⟩ : ByteArray)) ++ t152) ++ (⟨#[32]⟩ : ByteArray)) ++ t153) ++ (⟨#[32]⟩ : ByteArray)) ++ ((rd_T62 x7 x9).f6)).size ≤ 9223372036854775807 then (if ((rd_T62 x7 x9).f7).toList = ([] : List UInt8) then (if 3 + ((rd_T62 x7 x9).f8).size ≤ 9223372036854775807 then (if ((⟨#[32, 45, 32]⟩ : ByteArray) ++ ((rd_T62 x7 x9).f8)).size + 1 ≤ 9223372036854775807 then ((spec_octal.f k ((rd_T62 x7 x9).f9)).bind fun t154 => (if (((⟨#[32, 45, 32]⟩ : ByteArray) ++ ((rd_T62 x7 x9).f8)) ++ (⟨#[32]⟩ : ByteArray)).size + t154.size ≤ 9223372036854775807 then (if ((((⟨#[32, 45, 32]⟩ : ByteArray) ++ ((rd_T62 x7 x9).f8)) ++ (⟨#[32]⟩ : ByteArray)) ++ t154).size + 1 ≤ 9223372036854775807 then (if (((((⟨#[32, 45, 32]⟩ : ByteArray) ++ ((rd_T62 x7 x9).f8)) ++ (⟨#[32]⟩ : ByteArray)) ++ t154) ++ (⟨#[32]⟩ : ByteArray)).size + ((rd_T62 x7 x9).f10).size ≤ 9223372036854775807 then (if ((((((⟨#[32, 45, 32]⟩ : ByteArray) ++ ((rd_T62 x7 x9).f8)) ++ (⟨#[32]⟩ : ByteArray)) ++ t154) ++ (⟨#[32]⟩ : ByteArray)) ++ ((rd_T62 x7 x9).f10)).size + 1 ≤ 9223372036854775807 then (if (x4 ++ ((((((((((((t148 ++ (⟨#[32]⟩ : ByteArray)) ++ t149) ++ (⟨#[32]⟩ : ByteArray)) ++ t150) ++ (⟨#[58]⟩ : ByteArray)) ++ t151) ++ (⟨#[32]⟩ : ByteArray)) ++ t152) ++ (⟨#[32]⟩ : ByteArray)) ++ t153) ++ (⟨#[32]⟩ : ByteArray)) ++ ((rd_T62 x7 x9).f6))).size + (((((((⟨#[32, 45, 32]⟩ : ByteArray) ++ ((rd_T62 x7 x9).f8)) ++ (⟨#[32]⟩ : ByteArray)) ++ t154) ++ (⟨#[32]⟩ : ByteArray)) ++ ((rd_T62 x7 x9).f10)) ++ (⟨#[10]⟩ : ByteArray)).size ≤ 9223372036854775807 then (spec_MountsPrint.l0 k ((x4 ++ ((((((((((((t148 ++ (⟨#[32]⟩ : ByteArray)) ++ t149) ++ (⟨#[32]⟩ : ByteArray)) ++ t150) ++ (⟨#[58]⟩ : ByteArray)) ++ t151) ++ (⟨#[32]⟩ : ByteArray)) ++ t152) ++ (⟨#[32]⟩ : ByteArray)) ++ t153) ++ (⟨#[32]⟩ : ByteArray)) ++ ((rd_T62 x7 x9).f6))) ++ (((((((⟨#[32, 45, 32]⟩ : ByteArray) ++ ((rd_T62 x7 x9).f8)) ++ (⟨#[32]⟩ : ByteArray)) ++ t154) ++ (⟨#[32]⟩ : ByteArray)) ++ ((rd_T62 x7 x9).f10)) ++ (⟨#[10]⟩ : ByteArray))) x7 x8 (wrap64 (x9 + 1))) else (none)) else (none)) else (none)) else (none)) else (none))) else (none)) else (none)) else (if 1 + ((rd_T62 x7 x9).f7).size ≤ 9223372036854775807 then (if (x4 ++ ((((((((((((t148 ++ (⟨#[32]⟩ : ByteArray)) ++ t149) ++ (⟨#[32]⟩ : ByteArray)) ++ t150) ++ (⟨#[58]⟩ : ByteArray)) ++ t151) ++ (⟨#[32]⟩ : ByteArray)) ++ t152) ++ (⟨#[32]⟩ : ByteArray)) ++ t153) ++ (⟨#[32]⟩ : ByteArray)) ++ ((rd_T62 x7 x9).f6))).size + ((⟨#[32]⟩ : ByteArray) ++ ((rd_T62 x7 x9).f7)).size ≤ 9223372036854775807 then (if 3 + ((rd_T62 x7 x9).f8).size ≤ 9223372036854775807 then (if ((⟨#[32, 45, 32]⟩ : ByteArray) ++ ((rd_T62 x7 x9).f8)).size + 1 ≤ 9223372036854775807 then ((spec_octal.f k ((rd_T62 x7 x9).f9)).bind fun t155 => (if (((⟨#[32, 45, 32]⟩ : ByteArray) ++ ((rd_T62 x7 x9).f8)) ++ (⟨#[32]⟩ : ByteArray)).size + t155.size ≤ 9223372036854775807 then (if ((((⟨#[32, 45, 32]⟩ : ByteArray) ++ ((rd_T62 x7 x9).f8)) ++ (⟨#[32]⟩ : ByteArray)) ++ t155).size + 1 ≤ 9223372036854775807 then (if (((((⟨#[32, 45, 32]⟩ : ByteArray) ++ ((rd_T62 x7 x9).f8)) ++ (⟨#[32]⟩ : ByteArray)) ++ t155) ++ (⟨#[32]⟩ : ByteArray)).size + ((rd_T62 x7 x9).f10).size ≤ 9223372036854775807 then (if ((((((⟨#[32, 45, 32]⟩ : ByteArray) ++ ((rd_T62 x7 x9).f8)) ++ (⟨#[32]⟩ : ByteArray)) ++ t155) ++ (⟨#[32]⟩ : ByteArray)) ++ ((rd_T62 x7 x9).f10)).size + 1 ≤ 9223372036854775807 then (if ((x4 ++ ((((((((((((t148 ++ (⟨#[32]⟩ : ByteArray)) ++ t149) ++ (⟨#[32]⟩ : ByteArray)) ++ t150) ++ (⟨#[58]⟩ : ByteArray)) ++ t151) ++ (⟨#[32]⟩ : ByteArray)) ++ t152) ++ (⟨#[32]⟩ : ByteArray)) ++ t153) ++ (⟨#[32]⟩ : ByteArray)) ++ ((rd_T62 x7 x9).f6))) ++ ((⟨#[32]⟩ : ByteArray) ++ ((rd_T62 x7 x9).f7))).size + (((((((⟨#[32, 45, 32]⟩ : ByteArray) ++ ((rd_T62 x7 x9).f8)) ++ (⟨#[32]⟩ : ByteArray)) ++ t155) ++ (⟨#[32]⟩ : ByteArray)) ++ ((rd_T62 x7 x9).f10)) ++ (⟨#[10]⟩ : ByteArray)).size ≤ 9223372036854775807 then (spec_MountsPrint.l0 k (((x4 ++ ((((((((((((t148 ++ (⟨#[32]⟩ : ByteArray)) ++ t149) ++ (⟨#[32]⟩ : ByteArray)) ++ t150) ++ (⟨#[58]⟩ : ByteArray)) ++ t151) ++ (⟨#[32]⟩ : ByteArray)) ++ t152) ++ (⟨#[32]⟩ : ByteArray)) ++ t153) ++ (⟨#[32]⟩ : ByteArray)) ++ ((rd_T62 x7 x9).f6))) ++ ((⟨#[32]⟩ : ByteArray) ++ ((rd_T62 x7 x9).f7))) ++ (((((((⟨#[32, 45, 32]⟩ : ByteArray) ++ ((rd_T62 x7 x9).f8)) ++ (⟨#[32]⟩ : ByteArray)) ++ t155) ++ (⟨#[32]⟩ : ByteArray)) ++ ((rd_T62 x7 x9).f10)) ++ (⟨#[10]⟩ : ByteArray))) x7 x8 (wrap64 (x9 + 1))) else (none)) else (none)) else (none)) else (none)) else (none))) else (none)) else (none)) else (none)) else (none))) else (none)) else (none)) else (none)) else (none))) else (none)) else (none))) else (none)) else (none))) else (none)) else (none))) else (none)) else (none))) else (none))) else (some ((⟨#[]⟩ : ByteArray), 2)))) else (none)) else (none)) else (some (x4, 1))
def spec_MountsPrint.f (k : Nat) (l0 : List (S62)) : Option (ByteArray × Int) := spec_MountsPrint.l0 k (⟨#[]⟩ : ByteArray) l0 (l0.length : Int) 0
theorem spec_MountsPrint.mono_l : ∀ k, (∀ y0 y1 y2 y3, LeO (spec_MountsPrint.l0 k y0 y1 y2 y3) (spec_MountsPrint.l0 (k + 1) y0 y1 y2 y3))
 | 0 => fun _ _ _ _ r h => by simp [spec_MountsPrint.l0] at h
 | k + 1 => by
  have ih0 := spec_MountsPrint.mono_l k
  ·intro y0 y1 y2 y3
   unfold spec_MountsPrint.l0
   repeat' first
   | (with_reducible exact ih0 _ _ _ _)
   | (with_reducible exact spec_mountValid.mono _ _ _ _ _ _ _ _ _ _ _ _)
   | (with_reducible exact spec_natural.mono _ _)
   | (with_reducible exact spec_octal.mono _ _)
   | (with_reducible exact LeO.refl _)
   | (with_reducible exact LeO.none _)
   | (with_reducible refine LeO.ite ?_ ?_)
   | (with_reducible refine LeO.bind ?_ (fun _ => ?_))
   | exact ih0 _ _ _ _
   | exact spec_mountValid.mono _ _ _ _ _ _ _ _ _ _ _ _
   | exact spec_natural.mono _ _
   | exact spec_octal.mono _ _
   | exact LeO.none _
   | refine LeO.ite ?_ ?_
   | refine LeO.bind ?_ (fun _ => ?_)
theorem spec_MountsPrint.mono : ∀ a0 k, LeO (spec_MountsPrint.f k a0) (spec_MountsPrint.f (k + 1) a0) := by
 intro a0 k
 have ih0 := spec_MountsPrint.mono_l k
 unfold spec_MountsPrint.f
 repeat' first
   | (with_reducible exact ih0 _ _ _ _)
   | (with_reducible exact spec_mountValid.mono _ _ _ _ _ _ _ _ _ _ _ _)
   | (with_reducible exact spec_natural.mono _ _)
   | (with_reducible exact spec_octal.mono _ _)
   | (with_reducible exact LeO.refl _)
   | (with_reducible exact LeO.none _)
   | (with_reducible refine LeO.ite ?_ ?_)
   | (with_reducible refine LeO.bind ?_ (fun _ => ?_))
   | exact ih0 _ _ _ _
   | exact spec_mountValid.mono _ _ _ _ _ _ _ _ _ _ _ _
   | exact spec_natural.mono _ _
   | exact spec_octal.mono _ _
   | exact LeO.none _
   | refine LeO.ite ?_ ?_
   | refine LeO.bind ?_ (fun _ => ?_)
def spec_MountsPrint.T7 : Bool × List (List Nat × List Nat) := (true, [([], []), ([], []), ([1], [1]), ([2], [2]), ([3], [3]), ([], []), ([5], [5]), ([6, 3], [6]), ([4, 7], [4, 7]), ([8], [8]), ([], []), ([10], [10]), ([11, 7], [11]), ([9, 12], [9, 12]), ([13], [13]), ([], []), ([15], [15]), ([16, 12], [16]), ([14, 17], [14, 17]), ([18], [18]), ([], []), ([20], [20]), ([21, 17], [21]), ([19, 22], [19, 22]), ([23], [23]), ([], []), ([25], [25]), ([26, 22], [26]), ([24, 27], [24, 27]), ([28], [28]), ([], []), ([30], [30]), ([29, 31], [29, 31]), ([0, 32], [0, 32]), ([33, 27, 0, 1, 2, 3, 4, 5, 6, 7, 8, 9, 10, 11, 12, 13, 14, 15, 16, 17, 18, 19, 20, 21, 22, 23, 24, 25, 26, 27, 28, 29, 30, 31, 32, 33], [0, 33])])
def spec_MountsPrint.B7 : List Nat := [0, 0, 2, 6, 14, 0, 32, 110, 254, 510, 0, 1024, 3310, 8190, 16382, 0, 32768, 105710, 262142, 524286, 0, 1048576, 3382510, 8388606, 16777214, 0, 33554432, 108240110, 268435454, 536870910, 0, 1073741824, 4294967294, 8589934591, 17179869183]
theorem spec_MountsPrint.tab7 : rtab .any (opsOf Tryd.f18 7) = spec_MountsPrint.T7 := by kernel_rfl
theorem spec_MountsPrint.bits7 : waitsOk spec_MountsPrint.T7.2 spec_MountsPrint.B7 = true := by kernel_rfl
def spec_MountsPrint.T10 : Bool × List (List Nat × List Nat) := (true, [([], []), ([], []), ([1], [1]), ([2], [2]), ([3], [3]), ([], []), ([5], [5]), ([6], [6]), ([4, 7], [4, 7]), ([8], [8]), ([], []), ([10], [10]), ([9, 11], [9, 11]), ([12], [12]), ([0, 13], [0, 13]), ([14, 7, 0, 1, 2, 3, 4, 5, 6, 7, 8, 9, 10, 11, 12, 13, 14], [0, 14])])
def spec_MountsPrint.B10 : List Nat := [0, 0, 2, 6, 14, 0, 32, 96, 254, 510, 0, 1024, 4094, 8190, 16383, 32767]
theorem spec_MountsPrint.tab10 : rtab .any (opsOf Tryd.f18 10) = spec_MountsPrint.T10 := by kernel_rfl
theorem spec_MountsPrint.bits10 : waitsOk spec_MountsPrint.T10.2 spec_MountsPrint.B10 = true := by kernel_rfl
set_option maxHeartbeats 8000000 in
set_option maxRecDepth 100000 in
theorem spec_MountsPrint.calls (k : Nat) (A0 : Option Addr) (c0 : Nat) (l0 : List (S62)) (r1 : ByteArray) (r2 : Int) (w : World) (hr0 : Kd.C k62 w A0 l0.length l0) (hc0 : l0.length ≤ c0) (h : spec_MountsPrint.f k l0 = some (r1, r2)) :
  Calls Tryd.prog 18 #[.slice A0 l0.length c0] w fun e w' => e = .returned (.tuple #[.string r1, .int .i64 r2]) ∧ Below w.heap.size w w' := by
 have hu62 := Tryd.underlying62
 have HR0 := Aside0.mk hr0
 have HC0 := Aside0.mk hc0
 clear hr0 hc0
 have HB := Aside0.mk (Below.refl w.heap.size w)
 have H : (spec_MountsPrint.l0 k (⟨#[]⟩ : ByteArray) l0 (l0.length : Int) 0) = some (r1, r2) := h
 clear h
 have H' := Aside0.mk H
 clear H
 go_enter Tryd.func18, Tryd.ntmps18
 go_wp2
 go_loopg [4, 9] k (fun kq v4 v9 w' => ∃ (x4_1 : ByteArray) (x9_1 : Int), v4 = .string x4_1 ∧ v9 = .int .i64 x9_1 ∧ Aside0 (spec_MountsPrint.l0 kq x4_1 l0 (l0.length : Int) x9_1 = some (r1, r2)) ∧ Aside0 (kq ≤ k) ∧ Aside0 (Below w.heap.size w w'))
 case atStart => exact ⟨((⟨#[]⟩ : ByteArray)), (0), (by first | rfl | (simp; done) | (simp [*]; done) | (simp [bne_nil]; done) | (simp [bne_nil, *]; done)), (by first | rfl | (simp; done) | (simp [*]; done) | (simp [bne_nil]; done) | (simp [bne_nil, *]; done)), H', ⟨Nat.le_refl _⟩, ⟨by repeat (first | (with_reducible first | exact HB.out | apply below_alloc | apply pw_below_drewN | apply below_drew1) | exact HB.out)⟩⟩
 case round =>
  clear H'
  try clear c1
  obtain ⟨x4_1, x9_1, rfl, rfl, HA, HK1, HB⟩ := hrel
  cases gk with
  | zero => exact absurd HA.out (by simp [spec_MountsPrint.l0])
  | succ k1 =>
   have H := HA.out
   clear HA
   simp only [spec_MountsPrint.l0] at H
   by_cases c2 : x9_1 < (l0.length : Int)
   ·rw [if_pos c2] at H
    have c2b0 : decide (x9_1 < (l0.length : Int)) = true := decide_eq_true c2
    clear c2
    by_cases c3 : 0 ≤ x9_1
    ·rw [if_pos c3] at H
     have c3b0 : decide (0 ≤ x9_1) = true := decide_eq_true c3
     clear c3
     by_cases c4 : x9_1 < (l0.length : Int)
     ·rw [if_pos c4] at H
      have c4b0 : decide (x9_1 < (l0.length : Int)) = true := decide_eq_true c4
      clear c4
      replace H := Option.bind_eq_some_iff.mp H
      obtain ⟨t147, A50, H⟩ := H
      have A5 := Aside0.mk A50
      clear A50
      by_cases c6 : t147 = true
      ·subst c6
       have H1 : ((spec_natural.f k1 ((rd_T62 l0 x9_1).f0)).bind fun t148 => (if t148.size + 1 ≤ 9223372036854775807 then ((spec_natural.f k1 ((rd_T62 l0 x9_1).f1)).bind fun t149 => (if (t148 ++ (⟨#[32]⟩ : ByteArray)).size + t149.size ≤ 9223372036854775807 then (if ((t148 ++ (⟨#[32]⟩ : ByteArray)) ++ t149).size + 1 ≤ 9223372036854775807 then ((spec_natural.f k1 ((rd_T62 l0 x9_1).f2)).bind fun t150 => (if (((t148 ++ (⟨#[32]⟩ : ByteArray)) ++ t149) ++ (⟨#[32]⟩ : ByteArray)).size + t150.size ≤ 9223372036854775807 then (if ((((t148 ++ (⟨#[32]⟩ : ByteArray)) ++ t149) ++ (⟨#[32]⟩ : ByteArray)) ++ t150).size + 1 ≤ 9223372036854775807 then ((spec_natural.f k1 ((rd_T62 l0 x9_1).f3)).bind fun t151 => (if (((((t148 ++ (⟨#[32]⟩ : ByteArray)) ++ t149) ++ (⟨#[32]⟩ : ByteArray)) ++ t150) ++ (⟨#[58]⟩ : ByteArray)).size + t151.size ≤ 9223372036854775807 then (if ((((((t148 ++ (⟨#[32]⟩ : ByteArray)) ++ t149) ++ (⟨#[32]⟩ : ByteArray)) ++ t150) ++ (⟨#[58]⟩ : ByteArray)) ++ t151).size + 1 ≤ 9223372036854775807 then ((spec_octal.f k1 ((rd_T62 l0 x9_1).f4)).bind fun t152 => (if (((((((t148 ++ (⟨#[32]⟩ : ByteArray)) ++ t149) ++ (⟨#[32]⟩ : ByteArray)) ++ t150) ++ (⟨#[58]⟩ : ByteArray)) ++ t151) ++ (⟨#[32]⟩ : ByteArray)).size + t152.size ≤ 9223372036854775807 then (if ((((((((t148 ++ (⟨#[32]⟩ : ByteArray)) ++ t149) ++ (⟨#[32]⟩ : ByteArray)) ++ t150) ++ (⟨#[58]⟩ : ByteArray)) ++ t151) ++ (⟨#[32]⟩ : ByteArray)) ++ t152).size + 1 ≤ 9223372036854775807 then ((spec_octal.f k1 ((rd_T62 l0 x9_1).f5)).bind fun t153 => (if (((((((((t148 ++ (⟨#[32]⟩ : ByteArray)) ++ t149) ++ (⟨#[32]⟩ : ByteArray)) ++ t150) ++ (⟨#[58]⟩ : ByteArray)) ++ t151) ++ (⟨#[32]⟩ : ByteArray)) ++ t152) ++ (⟨#[32]⟩ : ByteArray)).size + t153.size ≤ 9223372036854775807 then (if ((((((((((t148 ++ (⟨#[32]⟩ : ByteArray)) ++ t149) ++ (⟨#[32]⟩ : ByteArray)) ++ t150) ++ (⟨#[58]⟩ : ByteArray)) ++ t151) ++ (⟨#[32]⟩ : ByteArray)) ++ t152) ++ (⟨#[32]⟩ : ByteArray)) ++ t153).size + 1 ≤ 9223372036854775807 then (if (((((((((((t148 ++ (⟨#[32]⟩ : ByteArray)) ++ t149) ++ (⟨#[32]⟩ : ByteArray)) ++ t150) ++ (⟨#[58]⟩ : ByteArray)) ++ t151) ++ (⟨#[32]⟩ : ByteArray)) ++ t152) ++ (⟨#[32]⟩ : ByteArray)) ++ t153) ++ (⟨#[32]⟩ : ByteArray)).size + ((rd_T62 l0 x9_1).f6).size ≤ 9223372036854775807 then (if x4_1.size + ((((((((((((t148 ++ (⟨#[32]⟩ : ByteArray)) ++ t149) ++ (⟨#[32]⟩ : ByteArray)) ++ t150) ++ (⟨#[58]⟩ : ByteArray)) ++ t151) ++ (⟨#[32]⟩ : ByteArray)) ++ t152) ++ (⟨#[32]⟩ : ByteArray)) ++ t153) ++ (⟨#[32]⟩ : ByteArray)) ++ ((rd_T62 l0 x9_1).f6)).size ≤ 9223372036854775807 then (if ((rd_T62 l0 x9_1).f7).toList = ([] : List UInt8) then (if 3 + ((rd_T62 l0 x9_1).f8).size ≤ 9223372036854775807 then (if ((⟨#[32, 45, 32]⟩ : ByteArray) ++ ((rd_T62 l0 x9_1).f8)).size + 1 ≤ 9223372036854775807 then ((spec_octal.f k1 ((rd_T62 l0 x9_1).f9)).bind fun t154 => (if (((⟨#[32, 45, 32]⟩ : ByteArray) ++ ((rd_T62 l0 x9_1).f8)) ++ (⟨#[32]⟩ : ByteArray)).size + t154.size ≤ 9223372036854775807 then (if ((((⟨#[32, 45, 32]⟩ : ByteArray) ++ ((rd_T62 l0 x9_1).f8)) ++ (⟨#[32]⟩ : ByteArray)) ++ t154).size + 1 ≤ 9223372036854775807 then (if (((((⟨#[32, 45, 32]⟩ : ByteArray) ++ ((rd_T62 l0 x9_1).f8)) ++ (⟨#[32]⟩ : ByteArray)) ++ t154) ++ (⟨#[32]⟩ : ByteArray)).size + ((rd_T62 l0 x9_1).f10).size ≤ 9223372036854775807 then (if ((((((⟨#[32, 45, 32]⟩ : ByteArray) ++ ((rd_T62 l0 x9_1).f8)) ++ (⟨#[32]⟩ : ByteArray)) ++ t154) ++ (⟨#[32]⟩ : ByteArray)) ++ ((rd_T62 l0 x9_1).f10)).size + 1 ≤ 9223372036854775807 then (if (x4_1 ++ ((((((((((((t148 ++ (⟨#[32]⟩ : ByteArray)) ++ t149) ++ (⟨#[32]⟩ : ByteArray)) ++ t150) ++ (⟨#[58]⟩ : ByteArray)) ++ t151) ++ (⟨#[32]⟩ : ByteArray)) ++ t152) ++ (⟨#[32]⟩ : ByteArray)) ++ t153) ++ (⟨#[32]⟩ : ByteArray)) ++ ((rd_T62 l0 x9_1).f6))).size + (((((((⟨#[32, 45, 32]⟩ : ByteArray) ++ ((rd_T62 l0 x9_1).f8)) ++ (⟨#[32]⟩ : ByteArray)) ++ t154) ++ (⟨#[32]⟩ : ByteArray)) ++ ((rd_T62 l0 x9_1).f10)) ++ (⟨#[10]⟩ : ByteArray)).size ≤ 9223372036854775807 then (spec_MountsPrint.l0 k1 ((x4_1 ++ ((((((((((((t148 ++ (⟨#[32]⟩ : ByteArray)) ++ t149) ++ (⟨#[32]⟩ : ByteArray)) ++ t150) ++ (⟨#[58]⟩ : ByteArray)) ++ t151) ++ (⟨#[32]⟩ : ByteArray)) ++ t152) ++ (⟨#[32]⟩ : ByteArray)) ++ t153) ++ (⟨#[32]⟩ : ByteArray)) ++ ((rd_T62 l0 x9_1).f6))) ++ (((((((⟨#[32, 45, 32]⟩ : ByteArray) ++ ((rd_T62 l0 x9_1).f8)) ++ (⟨#[32]⟩ : ByteArray)) ++ t154) ++ (⟨#[32]⟩ : ByteArray)) ++ ((rd_T62 l0 x9_1).f10)) ++ (⟨#[10]⟩ : ByteArray))) l0 (l0.length : Int) (wrap64 (x9_1 + 1))) else (none)) else (none)) else (none)) else (none)) else (none))) else (none)) else (none)) else (if 1 + ((rd_T62 l0 x9_1).f7).size ≤ 9223372036854775807 then (if (x4_1 ++ ((((((((((((t148 ++ (⟨#[32]⟩ : ByteArray)) ++ t149) ++ (⟨#[32]⟩ : ByteArray)) ++ t150) ++ (⟨#[58]⟩ : ByteArray)) ++ t151) ++ (⟨#[32]⟩ : ByteArray)) ++ t152) ++ (⟨#[32]⟩ : ByteArray)) ++ t153) ++ (⟨#[32]⟩ : ByteArray)) ++ ((rd_T62 l0 x9_1).f6))).size + ((⟨#[32]⟩ : ByteArray) ++ ((rd_T62 l0 x9_1).f7)).size ≤ 9223372036854775807 then (if 3 + ((rd_T62 l0 x9_1).f8).size ≤ 9223372036854775807 then (if ((⟨#[32, 45, 32]⟩ : ByteArray) ++ ((rd_T62 l0 x9_1).f8)).size + 1 ≤ 9223372036854775807 then ((spec_octal.f k1 ((rd_T62 l0 x9_1).f9)).bind fun t155 => (if (((⟨#[32, 45, 32]⟩ : ByteArray) ++ ((rd_T62 l0 x9_1).f8)) ++ (⟨#[32]⟩ : ByteArray)).size + t155.size ≤ 9223372036854775807 then (if ((((⟨#[32, 45, 32]⟩ : ByteArray) ++ ((rd_T62 l0 x9_1).f8)) ++ (⟨#[32]⟩ : ByteArray)) ++ t155).size + 1 ≤ 9223372036854775807 then (if (((((⟨#[32, 45, 32]⟩ : ByteArray) ++ ((rd_T62 l0 x9_1).f8)) ++ (⟨#[32]⟩ : ByteArray)) ++ t155) ++ (⟨#[32]⟩ : ByteArray)).size + ((rd_T62 l0 x9_1).f10).size ≤ 9223372036854775807 then (if ((((((⟨#[32, 45, 32]⟩ : ByteArray) ++ ((rd_T62 l0 x9_1).f8)) ++ (⟨#[32]⟩ : ByteArray)) ++ t155) ++ (⟨#[32]⟩ : ByteArray)) ++ ((rd_T62 l0 x9_1).f10)).size + 1 ≤ 9223372036854775807 then (if ((x4_1 ++ ((((((((((((t148 ++ (⟨#[32]⟩ : ByteArray)) ++ t149) ++ (⟨#[32]⟩ : ByteArray)) ++ t150) ++ (⟨#[58]⟩ : ByteArray)) ++ t151) ++ (⟨#[32]⟩ : ByteArray)) ++ t152) ++ (⟨#[32]⟩ : ByteArray)) ++ t153) ++ (⟨#[32]⟩ : ByteArray)) ++ ((rd_T62 l0 x9_1).f6))) ++ ((⟨#[32]⟩ : ByteArray) ++ ((rd_T62 l0 x9_1).f7))).size + (((((((⟨#[32, 45, 32]⟩ : ByteArray) ++ ((rd_T62 l0 x9_1).f8)) ++ (⟨#[32]⟩ : ByteArray)) ++ t155) ++ (⟨#[32]⟩ : ByteArray)) ++ ((rd_T62 l0 x9_1).f10)) ++ (⟨#[10]⟩ : ByteArray)).size ≤ 9223372036854775807 then (spec_MountsPrint.l0 k1 (((x4_1 ++ ((((((((((((t148 ++ (⟨#[32]⟩ : ByteArray)) ++ t149) ++ (⟨#[32]⟩ : ByteArray)) ++ t150) ++ (⟨#[58]⟩ : ByteArray)) ++ t151) ++ (⟨#[32]⟩ : ByteArray)) ++ t152) ++ (⟨#[32]⟩ : ByteArray)) ++ t153) ++ (⟨#[32]⟩ : ByteArray)) ++ ((rd_T62 l0 x9_1).f6))) ++ ((⟨#[32]⟩ : ByteArray) ++ ((rd_T62 l0 x9_1).f7))) ++ (((((((⟨#[32, 45, 32]⟩ : ByteArray) ++ ((rd_T62 l0 x9_1).f8)) ++ (⟨#[32]⟩ : ByteArray)) ++ t155) ++ (⟨#[32]⟩ : ByteArray)) ++ ((rd_T62 l0 x9_1).f10)) ++ (⟨#[10]⟩ : ByteArray))) l0 (l0.length : Int) (wrap64 (x9_1 + 1))) else (none)) else (none)) else (none)) else (none)) else (none))) else (none)) else (none)) else (none)) else (none))) else (none)) else (none)) else (none)) else (none))) else (none)) else (none))) else (none)) else (none))) else (none)) else (none))) else (none)) else (none))) else (none))) = some (r1, r2) := by rw [if_pos rfl] at H; exact H
       clear H
       have H := H1
       clear H1
       replace H := Option.bind_eq_some_iff.mp H
       obtain ⟨t148, A70, H⟩ := H
       have A7 := Aside0.mk A70
       clear A70
       by_cases c8 : t148.size + 1 ≤ 9223372036854775807
       ·rw [if_pos c8] at H
        have c8b0 := eq_true c8
        have c8z := c8
        (try simp only [ByteArray.size_append, sz1l6_, sz3l6_, sz5l6_, sz7l6_] at c8z)
        try have c8b3 := eq_false (Nat.not_lt.2 c8z)
        have c8b1 : decide (t148.size + 1 ≤ 9223372036854775807) = true := decide_eq_true c8
        try have c8b2 : (9223372036854775807 < t148.size + 1) = False := eq_false (Nat.not_lt.2 c8)
        replace H := Option.bind_eq_some_iff.mp H
        obtain ⟨t149, A90, H⟩ := H
        have A9 := Aside0.mk A90
        clear A90
        by_cases c10 : (t148 ++ (⟨#[32]⟩ : ByteArray)).size + t149.size ≤ 9223372036854775807
        ·rw [if_pos c10] at H
         have c10b0 := eq_true c10
         have c10z := c10
         (try simp only [ByteArray.size_append, sz1l6_, sz3l6_, sz5l6_, sz7l6_] at c10z)
         try have c10b3 := eq_false (Nat.not_lt.2 c10z)
         have c10b1 : decide ((t148 ++ (⟨#[32]⟩ : ByteArray)).size + t149.size ≤ 9223372036854775807) = true := decide_eq_true c10
         try have c10b2 : (9223372036854775807 < (t148 ++ (⟨#[32]⟩ : ByteArray)).size + t149.size) = False := eq_false (Nat.not_lt.2 c10)
         by_cases c11 : ((t148 ++ (⟨#[32]⟩ : ByteArray)) ++ t149).size + 1 ≤ 9223372036854775807
         ·rw [if_pos c11] at H
          have c11b0 := eq_true c11
          have c11z := c11
          (try simp only [ByteArray.size_append, sz1l6_, sz3l6_, sz5l6_, sz7l6_] at c11z)
          try have c11b3 := eq_false (Nat.not_lt.2 c11z)
          have c11b1 : decide (((t148 ++ (⟨#[32]⟩ : ByteArray)) ++ t149).size + 1 ≤ 9223372036854775807) = true := decide_eq_true c11
          try have c11b2 : (9223372036854775807 < ((t148 ++ (⟨#[32]⟩ : ByteArray)) ++ t149).size + 1) = False := eq_false (Nat.not_lt.2 c11)
          replace H := Option.bind_eq_some_iff.mp H
          obtain ⟨t150, A120, H⟩ := H
          have A12 := Aside0.mk A120
          clear A120
          by_cases c13 : (((t148 ++ (⟨#[32]⟩ : ByteArray)) ++ t149) ++ (⟨#[32]⟩ : ByteArray)).size + t150.size ≤ 9223372036854775807
          ·rw [if_pos c13] at H
           have c13b0 := eq_true c13
           have c13z := c13
           (try simp only [ByteArray.size_append, sz1l6_, sz3l6_, sz5l6_, sz7l6_] at c13z)
           try have c13b3 := eq_false (Nat.not_lt.2 c13z)
           have c13b1 : decide ((((t148 ++ (⟨#[32]⟩ : ByteArray)) ++ t149) ++ (⟨#[32]⟩ : ByteArray)).size + t150.size ≤ 9223372036854775807) = true := decide_eq_true c13
           try have c13b2 : (9223372036854775807 < (((t148 ++ (⟨#[32]⟩ : ByteArray)) ++ t149) ++ (⟨#[32]⟩ : ByteArray)).size + t150.size) = False := eq_false (Nat.not_lt.2 c13)
           by_cases c14 : ((((t148 ++ (⟨#[32]⟩ : ByteArray)) ++ t149) ++ (⟨#[32]⟩ : ByteArray)) ++ t150).size + 1 ≤ 9223372036854775807
           ·rw [if_pos c14] at H
            have c14b0 := eq_true c14
            have c14z := c14
            (try simp only [ByteArray.size_append, sz1l6_, sz3l6_, sz5l6_, sz7l6_] at c14z)
            try have c14b3 := eq_false (Nat.not_lt.2 c14z)
            have c14b1 : decide (((((t148 ++ (⟨#[32]⟩ : ByteArray)) ++ t149) ++ (⟨#[32]⟩ : ByteArray)) ++ t150).size + 1 ≤ 9223372036854775807) = true := decide_eq_true c14
            try have c14b2 : (9223372036854775807 < ((((t148 ++ (⟨#[32]⟩ : ByteArray)) ++ t149) ++ (⟨#[32]⟩ : ByteArray)) ++ t150).size + 1) = False := eq_false (Nat.not_lt.2 c14)
            replace H := Option.bind_eq_some_iff.mp H
            obtain ⟨t151, A150, H⟩ := H
            have A15 := Aside0.mk A150
            clear A150
            by_cases c16 : (((((t148 ++ (⟨#[32]⟩ : ByteArray)) ++ t149) ++ (⟨#[32]⟩ : ByteArray)) ++ t150) ++ (⟨#[58]⟩ : ByteArray)).size + t151.size ≤ 9223372036854775807
            ·rw [if_pos c16] at H
             have c16b0 := eq_true c16
             have c16z := c16
             (try simp only [ByteArray.size_append, sz1l6_, sz3l6_, sz5l6_, sz7l6_] at c16z)
             try have c16b3 := eq_false (Nat.not_lt.2 c16z)
             have c16b1 : decide ((((((t148 ++ (⟨#[32]⟩ : ByteArray)) ++ t149) ++ (⟨#[32]⟩ : ByteArray)) ++ t150) ++ (⟨#[58]⟩ : ByteArray)).size + t151.size ≤ 9223372036854775807) = true := decide_eq_true c16
             try have c16b2 : (9223372036854775807 < (((((t148 ++ (⟨#[32]⟩ : ByteArray)) ++ t149) ++ (⟨#[32]⟩ : ByteArray)) ++ t150) ++ (⟨#[58]⟩ : ByteArray)).size + t151.size) = False := eq_false (Nat.not_lt.2 c16)
             by_cases c17 : ((((((t148 ++ (⟨#[32]⟩ : ByteArray)) ++ t149) ++ (⟨#[32]⟩ : ByteArray)) ++ t150) ++ (⟨#[58]⟩ : ByteArray)) ++ t151).size + 1 ≤ 9223372036854775807
             ·rw [if_pos c17] at H
              have c17b0 := eq_true c17
              have c17z := c17
              (try simp only [ByteArray.size_append, sz1l6_, sz3l6_, sz5l6_, sz7l6_] at c17z)
              try have c17b3 := eq_false (Nat.not_lt.2 c17z)
              have c17b1 : decide (((((((t148 ++ (⟨#[32]⟩ : ByteArray)) ++ t149) ++ (⟨#[32]⟩ : ByteArray)) ++ t150) ++ (⟨#[58]⟩ : ByteArray)) ++ t151).size + 1 ≤ 9223372036854775807) = true := decide_eq_true c17
              try have c17b2 : (9223372036854775807 < ((((((t148 ++ (⟨#[32]⟩ : ByteArray)) ++ t149) ++ (⟨#[32]⟩ : ByteArray)) ++ t150) ++ (⟨#[58]⟩ : ByteArray)) ++ t151).size + 1) = False := eq_false (Nat.not_lt.2 c17)
              replace H := Option.bind_eq_some_iff.mp H
              obtain ⟨t152, A180, H⟩ := H
              have A18 := Aside0.mk A180
              clear A180
              by_cases c19 : (((((((t148 ++ (⟨#[32]⟩ : ByteArray)) ++ t149) ++ (⟨#[32]⟩ : ByteArray)) ++ t150) ++ (⟨#[58]⟩ : ByteArray)) ++ t151) ++ (⟨#[32]⟩ : ByteArray)).size + t152.size ≤ 9223372036854775807
              ·rw [if_pos c19] at H
               have c19b0 := eq_true c19
               have c19z := c19
               (try simp only [ByteArray.size_append, sz1l6_, sz3l6_, sz5l6_, sz7l6_] at c19z)
               try have c19b3 := eq_false (Nat.not_lt.2 c19z)
               have c19b1 : decide ((((((((t148 ++ (⟨#[32]⟩ : ByteArray)) ++ t149) ++ (⟨#[32]⟩ : ByteArray)) ++ t150) ++ (⟨#[58]⟩ : ByteArray)) ++ t151) ++ (⟨#[32]⟩ : ByteArray)).size + t152.size ≤ 9223372036854775807) = true := decide_eq_true c19
               try have c19b2 : (9223372036854775807 < (((((((t148 ++ (⟨#[32]⟩ : ByteArray)) ++ t149) ++ (⟨#[32]⟩ : ByteArray)) ++ t150) ++ (⟨#[58]⟩ : ByteArray)) ++ t151) ++ (⟨#[32]⟩ : ByteArray)).size + t152.size) = False := eq_false (Nat.not_lt.2 c19)
               by_cases c20 : ((((((((t148 ++ (⟨#[32]⟩ : ByteArray)) ++ t149) ++ (⟨#[32]⟩ : ByteArray)) ++ t150) ++ (⟨#[58]⟩ : ByteArray)) ++ t151) ++ (⟨#[32]⟩ : ByteArray)) ++ t152).size + 1 ≤ 9223372036854775807
               ·rw [if_pos c20] at H
                have c20b0 := eq_true c20
                have c20z := c20
                (try simp only [ByteArray.size_append, sz1l6_, sz3l6_, sz5l6_, sz7l6_] at c20z)
                try have c20b3 := eq_false (Nat.not_lt.2 c20z)
                have c20b1 : decide (((((((((t148 ++ (⟨#[32]⟩ : ByteArray)) ++ t149) ++ (⟨#[32]⟩ : ByteArray)) ++ t150) ++ (⟨#[58]⟩ : ByteArray)) ++ t151) ++ (⟨#[32]⟩ : ByteArray)) ++ t152).size + 1 ≤ 9223372036854775807) = true := decide_eq_true c20
                try have c20b2 : (9223372036854775807 < ((((((((t148 ++ (⟨#[32]⟩ : ByteArray)) ++ t149) ++ (⟨#[32]⟩ : ByteArray)) ++ t150) ++ (⟨#[58]⟩ : ByteArray)) ++ t151) ++ (⟨#[32]⟩ : ByteArray)) ++ t152).size + 1) = False := eq_false (Nat.not_lt.2 c20)
                replace H := Option.bind_eq_some_iff.mp H
                obtain ⟨t153, A210, H⟩ := H
                have A21 := Aside0.mk A210
                clear A210
                by_cases c22 : (((((((((t148 ++ (⟨#[32]⟩ : ByteArray)) ++ t149) ++ (⟨#[32]⟩ : ByteArray)) ++ t150) ++ (⟨#[58]⟩ : ByteArray)) ++ t151) ++ (⟨#[32]⟩ : ByteArray)) ++ t152) ++ (⟨#[32]⟩ : ByteArray)).size + t153.size ≤ 9223372036854775807
                ·rw [if_pos c22] at H
                 have c22b0 := eq_true c22
                 have c22z := c22
                 (try simp only [ByteArray.size_append, sz1l6_, sz3l6_, sz5l6_, sz7l6_] at c22z)
                 try have c22b3 := eq_false (Nat.not_lt.2 c22z)
                 have c22b1 : decide ((((((((((t148 ++ (⟨#[32]⟩ : ByteArray)) ++ t149) ++ (⟨#[32]⟩ : ByteArray)) ++ t150) ++ (⟨#[58]⟩ : ByteArray)) ++ t151) ++ (⟨#[32]⟩ : ByteArray)) ++ t152) ++ (⟨#[32]⟩ : ByteArray)).size + t153.size ≤ 9223372036854775807) = true := decide_eq_true c22
                 try have c22b2 : (9223372036854775807 < (((((((((t148 ++ (⟨#[32]⟩ : ByteArray)) ++ t149) ++ (⟨#[32]⟩ : ByteArray)) ++ t150) ++ (⟨#[58]⟩ : ByteArray)) ++ t151) ++ (⟨#[32]⟩ : ByteArray)) ++ t152) ++ (⟨#[32]⟩ : ByteArray)).size + t153.size) = False := eq_false (Nat.not_lt.2 c22)
                 by_cases c23 : ((((((((((t148 ++ (⟨#[32]⟩ : ByteArray)) ++ t149) ++ (⟨#[32]⟩ : ByteArray)) ++ t150) ++ (⟨#[58]⟩ : ByteArray)) ++ t151) ++ (⟨#[32]⟩ : ByteArray)) ++ t152) ++ (⟨#[32]⟩ : ByteArray)) ++ t153).size + 1 ≤ 9223372036854775807
                 ·rw [if_pos c23] at H
                  have c23b0 := eq_true c23
                  have c23z := c23
                  (try simp only [ByteArray.size_append, sz1l6_, sz3l6_, sz5l6_, sz7l6_] at c23z)
                  try have c23b3 := eq_false (Nat.not_lt.2 c23z)
                  have c23b1 : decide (((((((((((t148 ++ (⟨#[32]⟩ : ByteArray)) ++ t149) ++ (⟨#[32]⟩ : ByteArray)) ++ t150) ++ (⟨#[58]⟩ : ByteArray)) ++ t151) ++ (⟨#[32]⟩ : ByteArray)) ++ t152) ++ (⟨#[32]⟩ : ByteArray)) ++ t153).size + 1 ≤ 9223372036854775807) = true := decide_eq_true c23
                  try have c23b2 : (9223372036854775807 < ((((((((((t148 ++ (⟨#[32]⟩ : ByteArray)) ++ t149) ++ (⟨#[32]⟩ : ByteArray)) ++ t150) ++ (⟨#[58]⟩ : ByteArray)) ++ t151) ++ (⟨#[32]⟩ : ByteArray)) ++ t152) ++ (⟨#[32]⟩ : ByteArray)) ++ t153).size + 1) = False := eq_false (Nat.not_lt.2 c23)
                  by_cases c24 : (((((((((((t148 ++ (⟨#[32]⟩ : ByteArray)) ++ t149) ++ (⟨#[32]⟩ : ByteArray)) ++ t150) ++ (⟨#[58]⟩ : ByteArray)) ++ t151) ++ (⟨#[32]⟩ : ByteArray)) ++ t152) ++ (⟨#[32]⟩ : ByteArray)) ++ t153) ++ (⟨#[32]⟩ : ByteArray)).size + ((rd_T62 l0 x9_1).f6).size ≤ 9223372036854775807
                  ·rw [if_pos c24] at H
                   have c24b0 := eq_true c24
                   have c24z := c24
                   (try simp only [ByteArray.size_append, sz1l6_, sz3l6_, sz5l6_, sz7l6_] at c24z)
                   try have c24b3 := eq_false (Nat.not_lt.2 c24z)
                   have c24b1 : decide ((((((((((((t148 ++ (⟨#[32]⟩ : ByteArray)) ++ t149) ++ (⟨#[32]⟩ : ByteArray)) ++ t150) ++ (⟨#[58]⟩ : ByteArray)) ++ t151) ++ (⟨#[32]⟩ : ByteArray)) ++ t152) ++ (⟨#[32]⟩ : ByteArray)) ++ t153) ++ (⟨#[32]⟩ : ByteArray)).size + ((rd_T62 l0 x9_1).f6).size ≤ 9223372036854775807) = true := decide_eq_true c24
                   try have c24b2 : (9223372036854775807 < (((((((((((t148 ++ (⟨#[32]⟩ : ByteArray)) ++ t149) ++ (⟨#[32]⟩ : ByteArray)) ++ t150) ++ (⟨#[58]⟩ : ByteArray)) ++ t151) ++ (⟨#[32]⟩ : ByteArray)) ++ t152) ++ (⟨#[32]⟩ : ByteArray)) ++ t153) ++ (⟨#[32]⟩ : ByteArray)).size + ((rd_T62 l0 x9_1).f6).size) = False := eq_false (Nat.not_lt.2 c24)
                   by_cases c25 : x4_1.size + ((((((((((((t148 ++ (⟨#[32]⟩ : ByteArray)) ++ t149) ++ (⟨#[32]⟩ : ByteArray)) ++ t150) ++ (⟨#[58]⟩ : ByteArray)) ++ t151) ++ (⟨#[32]⟩ : ByteArray)) ++ t152) ++ (⟨#[32]⟩ : ByteArray)) ++ t153) ++ (⟨#[32]⟩ : ByteArray)) ++ ((rd_T62 l0 x9_1).f6)).size ≤ 9223372036854775807
                   ·rw [if_pos c25] at H
                    have c25b0 := eq_true c25
                    have c25z := c25
                    (try simp only [ByteArray.size_append, sz1l6_, sz3l6_, sz5l6_, sz7l6_] at c25z)
                    try have c25b3 := eq_false (Nat.not_lt.2 c25z)
                    have c25b1 : decide (x4_1.size + ((((((((((((t148 ++ (⟨#[32]⟩ : ByteArray)) ++ t149) ++ (⟨#[32]⟩ : ByteArray)) ++ t150) ++ (⟨#[58]⟩ : ByteArray)) ++ t151) ++ (⟨#[32]⟩ : ByteArray)) ++ t152) ++ (⟨#[32]⟩ : ByteArray)) ++ t153) ++ (⟨#[32]⟩ : ByteArray)) ++ ((rd_T62 l0 x9_1).f6)).size ≤ 9223372036854775807) = true := decide_eq_true c25
                    try have c25b2 : (9223372036854775807 < x4_1.size + ((((((((((((t148 ++ (⟨#[32]⟩ : ByteArray)) ++ t149) ++ (⟨#[32]⟩ : ByteArray)) ++ t150) ++ (⟨#[58]⟩ : ByteArray)) ++ t151) ++ (⟨#[32]⟩ : ByteArray)) ++ t152) ++ (⟨#[32]⟩ : ByteArray)) ++ t153) ++ (⟨#[32]⟩ : ByteArray)) ++ ((rd_T62 l0 x9_1).f6)).size) = False := eq_false (Nat.not_lt.2 c25)
                    by_cases c26 : ((rd_T62 l0 x9_1).f7).toList = ([] : List UInt8)
                    ·rw [if_pos c26] at H
                     have c26b0 : (((rd_T62 l0 x9_1).f7).toList == ([] : List UInt8)) = true := beq_iff_eq.mpr c26
                     have c26b1 : (((rd_T62 l0 x9_1).f7).toList != ([] : List UInt8)) = false := bne_eq_false_iff_eq.mpr c26
                     clear c26
                     by_cases c27 : 3 + ((rd_T62 l0 x9_1).f8).size ≤ 9223372036854775807
                     ·rw [if_pos c27] at H
                      have c27b0 := eq_true c27
                      have c27z := c27
                      (try simp only [ByteArray.size_append, sz1l6_, sz3l6_, sz5l6_, sz7l6_] at c27z)
                      try have c27b3 := eq_false (Nat.not_lt.2 c27z)
                      have c27b1 : decide (3 + ((rd_T62 l0 x9_1).f8).size ≤ 9223372036854775807) = true := decide_eq_true c27
                      try have c27b2 : (9223372036854775807 < 3 + ((rd_T62 l0 x9_1).f8).size) = False := eq_false (Nat.not_lt.2 c27)
                      by_cases c28 : ((⟨#[32, 45, 32]⟩ : ByteArray) ++ ((rd_T62 l0 x9_1).f8)).size + 1 ≤ 9223372036854775807
                      ·rw [if_pos c28] at H
                       have c28b0 := eq_true c28
                       have c28z := c28
                       (try simp only [ByteArray.size_append, sz1l6_, sz3l6_, sz5l6_, sz7l6_] at c28z)
                       try have c28b3 := eq_false (Nat.not_lt.2 c28z)
                       have c28b1 : decide (((⟨#[32, 45, 32]⟩ : ByteArray) ++ ((rd_T62 l0 x9_1).f8)).size + 1 ≤ 9223372036854775807) = true := decide_eq_true c28
                       try have c28b2 : (9223372036854775807 < ((⟨#[32, 45, 32]⟩ : ByteArray) ++ ((rd_T62 l0 x9_1).f8)).size + 1) = False := eq_false (Nat.not_lt.2 c28)
                       replace H := Option.bind_eq_some_iff.mp H
                       obtain ⟨t154, A290, H⟩ := H
                       have A29 := Aside0.mk A290
                       clear A290
                       by_cases c30 : (((⟨#[32, 45, 32]⟩ : ByteArray) ++ ((rd_T62 l0 x9_1).f8)) ++ (⟨#[32]⟩ : ByteArray)).size + t154.size ≤ 9223372036854775807
                       ·rw [if_pos c30] at H
                        have c30b0 := eq_true c30
                        have c30z := c30
                        (try simp only [ByteArray.size_append, sz1l6_, sz3l6_, sz5l6_, sz7l6_] at c30z)
                        try have c30b3 := eq_false (Nat.not_lt.2 c30z)
                        have c30b1 : decide ((((⟨#[32, 45, 32]⟩ : ByteArray) ++ ((rd_T62 l0 x9_1).f8)) ++ (⟨#[32]⟩ : ByteArray)).size + t154.size ≤ 9223372036854775807) = true := decide_eq_true c30
                        try have c30b2 : (9223372036854775807 < (((⟨#[32, 45, 32]⟩ : ByteArray) ++ ((rd_T62 l0 x9_1).f8)) ++ (⟨#[32]⟩ : ByteArray)).size + t154.size) = False := eq_false (Nat.not_lt.2 c30)
                        by_cases c31 : ((((⟨#[32, 45, 32]⟩ : ByteArray) ++ ((rd_T62 l0 x9_1).f8)) ++ (⟨#[32]⟩ : ByteArray)) ++ t154).size + 1 ≤ 9223372036854775807
                        ·rw [if_pos c31] at H
                         have c31b0 := eq_true c31
                         have c31z := c31
                         (try simp only [ByteArray.size_append, sz1l6_, sz3l6_, sz5l6_, sz7l6_] at c31z)
                         try have c31b3 := eq_false (Nat.not_lt.2 c31z)
                         have c31b1 : decide (((((⟨#[32, 45, 32]⟩ : ByteArray) ++ ((rd_T62 l0 x9_1).f8)) ++ (⟨#[32]⟩ : ByteArray)) ++ t154).size + 1 ≤ 9223372036854775807) = true := decide_eq_true c31
                         try have c31b2 : (9223372036854775807 < ((((⟨#[32, 45, 32]⟩ : ByteArray) ++ ((rd_T62 l0 x9_1).f8)) ++ (⟨#[32]⟩ : ByteArray)) ++ t154).size + 1) = False := eq_false (Nat.not_lt.2 c31)
                         by_cases c32 : (((((⟨#[32, 45, 32]⟩ : ByteArray) ++ ((rd_T62 l0 x9_1).f8)) ++ (⟨#[32]⟩ : ByteArray)) ++ t154) ++ (⟨#[32]⟩ : ByteArray)).size + ((rd_T62 l0 x9_1).f10).size ≤ 9223372036854775807
                         ·rw [if_pos c32] at H
                          have c32b0 := eq_true c32
                          have c32z := c32
                          (try simp only [ByteArray.size_append, sz1l6_, sz3l6_, sz5l6_, sz7l6_] at c32z)
                          try have c32b3 := eq_false (Nat.not_lt.2 c32z)
                          have c32b1 : decide ((((((⟨#[32, 45, 32]⟩ : ByteArray) ++ ((rd_T62 l0 x9_1).f8)) ++ (⟨#[32]⟩ : ByteArray)) ++ t154) ++ (⟨#[32]⟩ : ByteArray)).size + ((rd_T62 l0 x9_1).f10).size ≤ 9223372036854775807) = true := decide_eq_true c32
                          try have c32b2 : (9223372036854775807 < (((((⟨#[32, 45, 32]⟩ : ByteArray) ++ ((rd_T62 l0 x9_1).f8)) ++ (⟨#[32]⟩ : ByteArray)) ++ t154) ++ (⟨#[32]⟩ : ByteArray)).size + ((rd_T62 l0 x9_1).f10).size) = False := eq_false (Nat.not_lt.2 c32)
                          by_cases c33 : ((((((⟨#[32, 45, 32]⟩ : ByteArray) ++ ((rd_T62 l0 x9_1).f8)) ++ (⟨#[32]⟩ : ByteArray)) ++ t154) ++ (⟨#[32]⟩ : ByteArray)) ++ ((rd_T62 l0 x9_1).f10)).size + 1 ≤ 9223372036854775807
                          ·rw [if_pos c33] at H
                           have c33b0 := eq_true c33
                           have c33z := c33
                           (try simp only [ByteArray.size_append, sz1l6_, sz3l6_, sz5l6_, sz7l6_] at c33z)
                           try have c33b3 := eq_false (Nat.not_lt.2 c33z)
                           have c33b1 : decide (((((((⟨#[32, 45, 32]⟩ : ByteArray) ++ ((rd_T62 l0 x9_1).f8)) ++ (⟨#[32]⟩ : ByteArray)) ++ t154) ++ (⟨#[32]⟩ : ByteArray)) ++ ((rd_T62 l0 x9_1).f10)).size + 1 ≤ 9223372036854775807) = true := decide_eq_true c33
                           try have c33b2 : (9223372036854775807 < ((((((⟨#[32, 45, 32]⟩ : ByteArray) ++ ((rd_T62 l0 x9_1).f8)) ++ (⟨#[32]⟩ : ByteArray)) ++ t154) ++ (⟨#[32]⟩ : ByteArray)) ++ ((rd_T62 l0 x9_1).f10)).size + 1) = False := eq_false (Nat.not_lt.2 c33)
                           by_cases c34 : (x4_1 ++ ((((((((((((t148 ++ (⟨#[32]⟩ : ByteArray)) ++ t149) ++ (⟨#[32]⟩ : ByteArray)) ++ t150) ++ (⟨#[58]⟩ : ByteArray)) ++ t151) ++ (⟨#[32]⟩ : ByteArray)) ++ t152) ++ (⟨#[32]⟩ : ByteArray)) ++ t153) ++ (⟨#[32]⟩ : ByteArray)) ++ ((rd_T62 l0 x9_1).f6))).size + (((((((⟨#[32, 45, 32]⟩ : ByteArray) ++ ((rd_T62 l0 x9_1).f8)) ++ (⟨#[32]⟩ : ByteArray)) ++ t154) ++ (⟨#[32]⟩ : ByteArray)) ++ ((rd_T62 l0 x9_1).f10)) ++ (⟨#[10]⟩ : ByteArray)).size ≤ 9223372036854775807
                           ·rw [if_pos c34] at H
                            have c34b0 := eq_true c34
                            have c34z := c34
                            (try simp only [ByteArray.size_append, sz1l6_, sz3l6_, sz5l6_, sz7l6_] at c34z)
                            try have c34b3 := eq_false (Nat.not_lt.2 c34z)
                            have c34b1 : decide ((x4_1 ++ ((((((((((((t148 ++ (⟨#[32]⟩ : ByteArray)) ++ t149) ++ (⟨#[32]⟩ : ByteArray)) ++ t150) ++ (⟨#[58]⟩ : ByteArray)) ++ t151) ++ (⟨#[32]⟩ : ByteArray)) ++ t152) ++ (⟨#[32]⟩ : ByteArray)) ++ t153) ++ (⟨#[32]⟩ : ByteArray)) ++ ((rd_T62 l0 x9_1).f6))).size + (((((((⟨#[32, 45, 32]⟩ : ByteArray) ++ ((rd_T62 l0 x9_1).f8)) ++ (⟨#[32]⟩ : ByteArray)) ++ t154) ++ (⟨#[32]⟩ : ByteArray)) ++ ((rd_T62 l0 x9_1).f10)) ++ (⟨#[10]⟩ : ByteArray)).size ≤ 9223372036854775807) = true := decide_eq_true c34
                            try have c34b2 : (9223372036854775807 < (x4_1 ++ ((((((((((((t148 ++ (⟨#[32]⟩ : ByteArray)) ++ t149) ++ (⟨#[32]⟩ : ByteArray)) ++ t150) ++ (⟨#[58]⟩ : ByteArray)) ++ t151) ++ (⟨#[32]⟩ : ByteArray)) ++ t152) ++ (⟨#[32]⟩ : ByteArray)) ++ t153) ++ (⟨#[32]⟩ : ByteArray)) ++ ((rd_T62 l0 x9_1).f6))).size + (((((((⟨#[32, 45, 32]⟩ : ByteArray) ++ ((rd_T62 l0 x9_1).f8)) ++ (⟨#[32]⟩ : ByteArray)) ++ t154) ++ (⟨#[32]⟩ : ByteArray)) ++ ((rd_T62 l0 x9_1).f10)) ++ (⟨#[10]⟩ : ByteArray)).size) = False := eq_false (Nat.not_lt.2 c34)
                            have H' := Aside0.mk H
                            clear H
                            have p145 : 0 ≤ (x9_1 : Int) := of_decide_eq_true (by first | (with_reducible assumption) | assumption)
                            have q145 : x9_1 < (l0.length : Int) := of_decide_eq_true (by first | (with_reducible assumption) | assumption)
                            obtain ⟨ad145, e145, hx145_0, hx145_1, hx145_2, hx145_3, hx145_4, hx145_5, hx145_6, hx145_7, hx145_8, hx145_9, hx145_10⟩ := at_T62 HR0.out x9_1 p145 q145
                            cases e145
                            replace hx145_0 := (HB.out.cell (World.block_lt_of_cell? w _ hx145_0)).trans hx145_0
                            replace hx145_1 := (HB.out.cell (World.block_lt_of_cell? w _ hx145_1)).trans hx145_1
                            replace hx145_2 := (HB.out.cell (World.block_lt_of_cell? w _ hx145_2)).trans hx145_2
                            replace hx145_3 := (HB.out.cell (World.block_lt_of_cell? w _ hx145_3)).trans hx145_3
                            replace hx145_4 := (HB.out.cell (World.block_lt_of_cell? w _ hx145_4)).trans hx145_4
                            replace hx145_5 := (HB.out.cell (World.block_lt_of_cell? w _ hx145_5)).trans hx145_5
                            replace hx145_6 := (HB.out.cell (World.block_lt_of_cell? w _ hx145_6)).trans hx145_6
                            replace hx145_7 := (HB.out.cell (World.block_lt_of_cell? w _ hx145_7)).trans hx145_7
                            replace hx145_8 := (HB.out.cell (World.block_lt_of_cell? w _ hx145_8)).trans hx145_8
                            replace hx145_9 := (HB.out.cell (World.block_lt_of_cell? w _ hx145_9)).trans hx145_9
                            replace hx145_10 := (HB.out.cell (World.block_lt_of_cell? w _ hx145_10)).trans hx145_10
                            replace p145 := eq_true p145
                            replace q145 := eq_true q145
                            try go_wp2_with (first | ((with_reducible refine gate_dst (N := 6) rfl ?_); refine box_event ?hg (N := 6) ?hd (cs := #[.int .i64 0, .int .i64 0, .int .i64 0, .int .i64 0, .string (⟨#[]⟩ : ByteArray), .string (⟨#[]⟩ : ByteArray), .string (⟨#[]⟩ : ByteArray), .string (⟨#[]⟩ : ByteArray), .string (⟨#[]⟩ : ByteArray), .string (⟨#[]⟩ : ByteArray), .string (⟨#[]⟩ : ByteArray)]) (t := 62) ?hr ?_; (case hd => rfl); (case hg => rfl); (case hr => first | (go_simp; done) | (go_simp; rfl)); intro gb146 hg w35 hbox hb; have n0_ := Aside0.mk (below_step belH hb); have n1_ := Aside0.mk (hbox); have n2_ := Aside0.mk ((by rw [hg]; exact (below_size belH) : w.heap.size ≤ gb146)); have n3_ := Aside0.mk ((by rw [hg]; exact (below_size belH) : w.heap.size ≤ gb146)); clear HB; have HB := n0_; have BK146 := n1_; have GW146 := n2_; have GE146 := n3_; clear n0_ n1_ n2_ n3_; clear hb hbox hg; obtain ⟨hcz36_0, hcz36_1, hcz36_2, hcz36_3, hcz36_4, hcz36_5, hcz36_6, hcz36_7, hcz36_8, hcz36_9, hcz36_10, hfz36_0, hfz36_1, hfz36_2, hfz36_3, hfz36_4, hfz36_5, hfz36_6, hfz36_7, hfz36_8, hfz36_9, hfz36_10⟩ := rows11 (w := w35) BK146) | ((with_reducible refine gate_callee (f := 31) rfl ?_); refine goesL_ (some 14) rfl rfl Tryd.func31 (by kernel_rfl) rfl #[.agg #[.int .i64 ((rd_T62 l0 x9_1).f0), .int .i64 ((rd_T62 l0 x9_1).f1), .int .i64 ((rd_T62 l0 x9_1).f2), .int .i64 ((rd_T62 l0 x9_1).f3), .string ((rd_T62 l0 x9_1).f4), .string ((rd_T62 l0 x9_1).f5), .string ((rd_T62 l0 x9_1).f6), .string ((rd_T62 l0 x9_1).f7), .string ((rd_T62 l0 x9_1).f8), .string ((rd_T62 l0 x9_1).f9), .string ((rd_T62 l0 x9_1).f10)]] rfl (by (try simp only [List.map_toArray, List.map_cons, List.map_nil]); first | done | rfl | (simp only [List.length_drop, List.length_take]; rfl)) ?_; (with_reducible refine (spec_mountValid.calls k1 ((rd_T62 l0 x9_1).f0) ((rd_T62 l0 x9_1).f1) ((rd_T62 l0 x9_1).f2) ((rd_T62 l0 x9_1).f3) ((rd_T62 l0 x9_1).f4) ((rd_T62 l0 x9_1).f5) ((rd_T62 l0 x9_1).f6) ((rd_T62 l0 x9_1).f7) ((rd_T62 l0 x9_1).f8) ((rd_T62 l0 x9_1).f9) ((rd_T62 l0 x9_1).f10) true _ A5.out).mono ?_); rintro e w37 ⟨rfl, hb⟩; refine ⟨_, rfl, ?_⟩; have n0_ := Aside0.mk (blk_below (g := gb146) (o := .cells #[.int .i64 ((rd_T62 l0 x9_1).f0), .int .i64 ((rd_T62 l0 x9_1).f1), .int .i64 ((rd_T62 l0 x9_1).f2), .int .i64 ((rd_T62 l0 x9_1).f3), .string ((rd_T62 l0 x9_1).f4), .string ((rd_T62 l0 x9_1).f5), .string ((rd_T62 l0 x9_1).f6), .string ((rd_T62 l0 x9_1).f7), .string ((rd_T62 l0 x9_1).f8), .string ((rd_T62 l0 x9_1).f9), .string ((rd_T62 l0 x9_1).f10)] 62 (0, 0)) (by refine bY ?_; refine blk_put (cs := #[.int .i64 ((rd_T62 l0 x9_1).f0), .int .i64 ((rd_T62 l0 x9_1).f1), .int .i64 ((rd_T62 l0 x9_1).f2), .int .i64 ((rd_T62 l0 x9_1).f3), .string ((rd_T62 l0 x9_1).f4), .string ((rd_T62 l0 x9_1).f5), .string ((rd_T62 l0 x9_1).f6), .string ((rd_T62 l0 x9_1).f7), .string ((rd_T62 l0 x9_1).f8), .string ((rd_T62 l0 x9_1).f9), .string (⟨#[]⟩ : ByteArray)]) ?_ 10 _ rfl; refine bY ?_; refine blk_put (cs := #[.int .i64 ((rd_T62 l0 x9_1).f0), .int .i64 ((rd_T62 l0 x9_1).f1), .int .i64 ((rd_T62 l0 x9_1).f2), .int .i64 ((rd_T62 l0 x9_1).f3), .string ((rd_T62 l0 x9_1).f4), .string ((rd_T62 l0 x9_1).f5), .string ((rd_T62 l0 x9_1).f6), .string ((rd_T62 l0 x9_1).f7), .string ((rd_T62 l0 x9_1).f8), .string (⟨#[]⟩ : ByteArray), .string (⟨#[]⟩ : ByteArray)]) ?_ 9 _ rfl; refine bY ?_; refine blk_put (cs := #[.int .i64 ((rd_T62 l0 x9_1).f0), .int .i64 ((rd_T62 l0 x9_1).f1), .int .i64 ((rd_T62 l0 x9_1).f2), .int .i64 ((rd_T62 l0 x9_1).f3), .string ((rd_T62 l0 x9_1).f4), .string ((rd_T62 l0 x9_1).f5), .string ((rd_T62 l0 x9_1).f6), .string ((rd_T62 l0 x9_1).f7), .string (⟨#[]⟩ : ByteArray), .string (⟨#[]⟩ : ByteArray), .string (⟨#[]⟩ : ByteArray)]) ?_ 8 _ rfl; refine bY ?_; refine blk_put (cs := #[.int .i64 ((rd_T62 l0 x9_1).f0), .int .i64 ((rd_T62 l0 x9_1).f1), .int .i64 ((rd_T62 l0 x9_1).f2), .int .i64 ((rd_T62 l0 x9_1).f3), .string ((rd_T62 l0 x9_1).f4), .string ((rd_T62 l0 x9_1).f5), .string ((rd_T62 l0 x9_1).f6), .string (⟨#[]⟩ : ByteArray), .string (⟨#[]⟩ : ByteArray), .string (⟨#[]⟩ : ByteArray), .string (⟨#[]⟩ : ByteArray)]) ?_ 7 _ rfl; refine bY ?_; refine blk_put (cs := #[.int .i64 ((rd_T62 l0 x9_1).f0), .int .i64 ((rd_T62 l0 x9_1).f1), .int .i64 ((rd_T62 l0 x9_1).f2), .int .i64 ((rd_T62 l0 x9_1).f3), .string ((rd_T62 l0 x9_1).f4), .string ((rd_T62 l0 x9_1).f5), .string (⟨#[]⟩ : ByteArray), .string (⟨#[]⟩ : ByteArray), .string (⟨#[]⟩ : ByteArray), .string (⟨#[]⟩ : ByteArray), .string (⟨#[]⟩ : ByteArray)]) ?_ 6 _ rfl; refine bY ?_; refine blk_put (cs := #[.int .i64 ((rd_T62 l0 x9_1).f0), .int .i64 ((rd_T62 l0 x9_1).f1), .int .i64 ((rd_T62 l0 x9_1).f2), .int .i64 ((rd_T62 l0 x9_1).f3), .string ((rd_T62 l0 x9_1).f4), .string (⟨#[]⟩ : ByteArray), .string (⟨#[]⟩ : ByteArray), .string (⟨#[]⟩ : ByteArray), .string (⟨#[]⟩ : ByteArray), .string (⟨#[]⟩ : ByteArray), .string (⟨#[]⟩ : ByteArray)]) ?_ 5 _ rfl; refine bY ?_; refine blk_put (cs := #[.int .i64 ((rd_T62 l0 x9_1).f0), .int .i64 ((rd_T62 l0 x9_1).f1), .int .i64 ((rd_T62 l0 x9_1).f2), .int .i64 ((rd_T62 l0 x9_1).f3), .string (⟨#[]⟩ : ByteArray), .string (⟨#[]⟩ : ByteArray), .string (⟨#[]⟩ : ByteArray), .string (⟨#[]⟩ : ByteArray), .string (⟨#[]⟩ : ByteArray), .string (⟨#[]⟩ : ByteArray), .string (⟨#[]⟩ : ByteArray)]) ?_ 4 _ rfl; refine bY ?_; refine blk_put (cs := #[.int .i64 ((rd_T62 l0 x9_1).f0), .int .i64 ((rd_T62 l0 x9_1).f1), .int .i64 ((rd_T62 l0 x9_1).f2), .int .i64 0, .string (⟨#[]⟩ : ByteArray), .string (⟨#[]⟩ : ByteArray), .string (⟨#[]⟩ : ByteArray), .string (⟨#[]⟩ : ByteArray), .string (⟨#[]⟩ : ByteArray), .string (⟨#[]⟩ : ByteArray), .string (⟨#[]⟩ : ByteArray)]) ?_ 3 _ rfl; refine bY ?_; refine blk_put (cs := #[.int .i64 ((rd_T62 l0 x9_1).f0), .int .i64 ((rd_T62 l0 x9_1).f1), .int .i64 0, .int .i64 0, .string (⟨#[]⟩ : ByteArray), .string (⟨#[]⟩ : ByteArray), .string (⟨#[]⟩ : ByteArray), .string (⟨#[]⟩ : ByteArray), .string (⟨#[]⟩ : ByteArray), .string (⟨#[]⟩ : ByteArray), .string (⟨#[]⟩ : ByteArray)]) ?_ 2 _ rfl; refine bY ?_; refine blk_put (cs := #[.int .i64 ((rd_T62 l0 x9_1).f0), .int .i64 0, .int .i64 0, .int .i64 0, .string (⟨#[]⟩ : ByteArray), .string (⟨#[]⟩ : ByteArray), .string (⟨#[]⟩ : ByteArray), .string (⟨#[]⟩ : ByteArray), .string (⟨#[]⟩ : ByteArray), .string (⟨#[]⟩ : ByteArray), .string (⟨#[]⟩ : ByteArray)]) ?_ 1 _ rfl; refine bY ?_; refine blk_put (cs := #[.int .i64 0, .int .i64 0, .int .i64 0, .int .i64 0, .string (⟨#[]⟩ : ByteArray), .string (⟨#[]⟩ : ByteArray), .string (⟨#[]⟩ : ByteArray), .string (⟨#[]⟩ : ByteArray), .string (⟨#[]⟩ : ByteArray), .string (⟨#[]⟩ : ByteArray), .string (⟨#[]⟩ : ByteArray)]) ?_ 0 _ rfl; refine bY ?_; exact BK146.out) hb); have n1_ := Aside0.mk (below_step belS hb); clear BK146; clear HB; have BK146 := n0_; have HB := n1_; clear n0_ n1_; (try clear hb); (try clear hb2); (try clear hk); (try clear hi)))
                            have n0_ := Aside0.mk (blk_drew BK146.out)
                            have n1_ := Aside0.mk (below_drew1 HB.out)
                            clear BK146
                            clear HB
                            have BK146 := n0_
                            have HB := n1_
                            clear n0_ n1_
                            refine start_ (n := 35) (S := fun w' => w'.cell? ⟨gb146, 0, none⟩ = some (.int .i64 ((rd_T62 l0 x9_1).f0)) ∧ w'.cell? ⟨gb146, 1, none⟩ = some (.int .i64 ((rd_T62 l0 x9_1).f1)) ∧ w'.cell? ⟨gb146, 2, none⟩ = some (.int .i64 ((rd_T62 l0 x9_1).f2)) ∧ w'.cell? ⟨gb146, 3, none⟩ = some (.int .i64 ((rd_T62 l0 x9_1).f3)) ∧ w'.cell? ⟨gb146, 4, none⟩ = some (.string ((rd_T62 l0 x9_1).f4)) ∧ w'.cell? ⟨gb146, 5, none⟩ = some (.string ((rd_T62 l0 x9_1).f5)) ∧ w'.cell? ⟨gb146, 6, none⟩ = some (.string ((rd_T62 l0 x9_1).f6)) ∧ w'.cell? ⟨gb146, 7, none⟩ = some (.string ((rd_T62 l0 x9_1).f7)) ∧ w'.cell? ⟨gb146, 8, none⟩ = some (.string ((rd_T62 l0 x9_1).f8)) ∧ w'.cell? ⟨gb146, 9, none⟩ = some (.string ((rd_T62 l0 x9_1).f9)) ∧ w'.cell? ⟨gb146, 10, none⟩ = some (.string ((rd_T62 l0 x9_1).f10))) (ds := []) (tfA 0 35) (by kernel_rfl) rfl rfl ⟨(blk_cell BK146.out 0).trans rfl, (blk_cell BK146.out 1).trans rfl, (blk_cell BK146.out 2).trans rfl, (blk_cell BK146.out 3).trans rfl, (blk_cell BK146.out 4).trans rfl, (blk_cell BK146.out 5).trans rfl, (blk_cell BK146.out 6).trans rfl, (blk_cell BK146.out 7).trans rfl, (blk_cell BK146.out 8).trans rfl, (blk_cell BK146.out 9).trans rfl, (blk_cell BK146.out 10).trans rfl⟩ (fun hHeld => ?_); refine with_tabW spec_MountsPrint.tab7 spec_MountsPrint.bits7 (fun HT_ HW_ => ?_)
                            generalize w37.drew = w38 at BK146 HB hHeld ⊢
                            refine pure_ (i := 0) (N := some 16) (v := ?_) (a' := ?_) (tfA 1 34) rfl rfl (any_of HT_.out (by kernel_rfl)) (fun _ _ _ h => h) (Or.inl ⟨by rfl, ?_⟩) ?_ ?_
                            rotate_left
                            ·intro w'
                             go_simp
                             first | with_reducible rfl | (rw [if_neg (by omega)])
                            rotate_left
                            ·simp only [Act.put, sA, s0, s1, i64_w, i32_w]
                             rfl
                            refine pure_ (i := 1) (N := some 17) (v := ?_) (a' := ?_) (tfA 2 33) rfl rfl (any_of HT_.out (by kernel_rfl)) (fun _ _ _ h => h) (Or.inl ⟨by rfl, ?_⟩) ?_ ?_
                            rotate_left
                            ·intro w'
                             go_simp
                             first | with_reducible rfl | (rw [if_neg (by omega)])
                            rotate_left
                            ·simp only [Act.put, sA, s0, s1, i64_w, i32_w]
                             rfl
                            refine pure_ (i := 5) (N := some 21) (v := ?_) (a' := ?_) (bnA 35 35) rfl rfl (any_of HT_.out (by kernel_rfl)) (fun _ _ _ h => h) (Or.inl ⟨by rfl, ?_⟩) ?_ ?_
                            rotate_left
                            ·intro w'
                             go_simp
                             first | with_reducible rfl | (rw [if_neg (by omega)])
                            rotate_left
                            ·simp only [Act.put, sA, s0, s1, i64_w, i32_w]
                             rfl
                            refine pure_ (i := 10) (N := some 26) (v := ?_) (a' := ?_) (bnA 35 1059) rfl rfl (any_of HT_.out (by kernel_rfl)) (fun _ _ _ h => h) (Or.inl ⟨by rfl, ?_⟩) ?_ ?_
                            rotate_left
                            ·intro w'
                             go_simp
                             first | with_reducible rfl | (rw [if_neg (by omega)])
                            rotate_left
                            ·simp only [Act.put, sA, s0, s1, i64_w, i32_w]
                             rfl
                            refine pure_ (i := 15) (N := some 31) (v := ?_) (a' := ?_) (bnA 35 33827) rfl rfl (any_of HT_.out (by kernel_rfl)) (fun _ _ _ h => h) (Or.inl ⟨by rfl, ?_⟩) ?_ ?_
                            rotate_left
                            ·intro w'
                             go_simp
                             first | with_reducible rfl | (rw [if_neg (by omega)])
                            rotate_left
                            ·simp only [Act.put, sA, s0, s1, i64_w, i32_w]
                             rfl
                            refine pure_ (i := 20) (N := some 36) (v := ?_) (a' := ?_) (bnA 35 1082403) rfl rfl (any_of HT_.out (by kernel_rfl)) (fun _ _ _ h => h) (Or.inl ⟨by rfl, ?_⟩) ?_ ?_
                            rotate_left
                            ·intro w'
                             go_simp
                             first | with_reducible rfl | (rw [if_neg (by omega)])
                            rotate_left
                            ·simp only [Act.put, sA, s0, s1, i64_w, i32_w]
                             rfl
                            refine pure_ (i := 25) (N := some 41) (v := ?_) (a' := ?_) (bnA 35 34636835) rfl rfl (any_of HT_.out (by kernel_rfl)) (fun _ _ _ h => h) (Or.inl ⟨by rfl, ?_⟩) ?_ ?_
                            rotate_left
                            ·intro w'
                             go_simp
                             first | with_reducible rfl | (rw [if_neg (by omega)])
                            rotate_left
                            ·simp only [Act.put, sA, s0, s1, i64_w, i32_w]
                             rfl
                            refine pure_ (i := 30) (N := some 46) (v := ?_) (a' := ?_) (bnA 35 1108378659) rfl rfl (any_of HT_.out (by kernel_rfl)) (fun _ _ _ h => h) (Or.inl ⟨by rfl, ?_⟩) ?_ ?_
                            rotate_left
                            ·intro w'
                             go_simp
                             first | with_reducible rfl | (rw [if_neg (by omega)])
                            rotate_left
                            ·simp only [Act.put, sA, s0, s1, i64_w, i32_w]
                             rfl
                            refine take_ (i := 2) (N := some 18) (v := ?_) (a' := ?_) (bnA 35 1108378663) rfl rfl (take_ofW HT_.out HW_.out (by kernel_rfl)) (fun _ _ _ h => h) (Or.inl ⟨by rfl, ?_⟩) hHeld ?_ ?_
                            rotate_left
                            ·rintro w' ⟨s0, s1, s2, s3, s4, s5, s6, s7, s8, s9, s10⟩
                             go_simp
                             first | with_reducible rfl | (rw [if_neg (by omega)])
                            rotate_left
                            ·simp only [Act.put, sA, s0, s1, i64_w, i32_w]
                             rfl
                            refine take_ (i := 6) (N := some 22) (v := ?_) (a' := ?_) (bnA 35 1108378727) rfl rfl (take_ofW HT_.out HW_.out (by kernel_rfl)) (fun _ _ _ h => h) (Or.inl ⟨by rfl, ?_⟩) hHeld ?_ ?_
                            rotate_left
                            ·rintro w' ⟨s0, s1, s2, s3, s4, s5, s6, s7, s8, s9, s10⟩
                             go_simp
                             first | with_reducible rfl | (rw [if_neg (by omega)])
                            rotate_left
                            ·simp only [Act.put, sA, s0, s1, i64_w, i32_w]
                             rfl
                            refine take_ (i := 11) (N := some 27) (v := ?_) (a' := ?_) (bnA 35 1108380775) rfl rfl (take_ofW HT_.out HW_.out (by kernel_rfl)) (fun _ _ _ h => h) (Or.inl ⟨by rfl, ?_⟩) hHeld ?_ ?_
                            rotate_left
                            ·rintro w' ⟨s0, s1, s2, s3, s4, s5, s6, s7, s8, s9, s10⟩
                             go_simp
                             first | with_reducible rfl | (rw [if_neg (by omega)])
                            rotate_left
                            ·simp only [Act.put, sA, s0, s1, i64_w, i32_w]
                             rfl
                            refine take_ (i := 16) (N := some 32) (v := ?_) (a' := ?_) (bnA 35 1108446311) rfl rfl (take_ofW HT_.out HW_.out (by kernel_rfl)) (fun _ _ _ h => h) (Or.inl ⟨by rfl, ?_⟩) hHeld ?_ ?_
                            rotate_left
                            ·rintro w' ⟨s0, s1, s2, s3, s4, s5, s6, s7, s8, s9, s10⟩
                             go_simp
                             first | with_reducible rfl | (rw [if_neg (by omega)])
                            rotate_left
                            ·simp only [Act.put, sA, s0, s1, i64_w, i32_w]
                             rfl
                            refine take_ (i := 21) (N := some 37) (v := ?_) (a' := ?_) (bnA 35 1110543463) rfl rfl (take_ofW HT_.out HW_.out (by kernel_rfl)) (fun _ _ _ h => h) (Or.inl ⟨by rfl, ?_⟩) hHeld ?_ ?_
                            rotate_left
                            ·rintro w' ⟨s0, s1, s2, s3, s4, s5, s6, s7, s8, s9, s10⟩
                             go_simp
                             first | with_reducible rfl | (rw [if_neg (by omega)])
                            rotate_left
                            ·simp only [Act.put, sA, s0, s1, i64_w, i32_w]
                             rfl
                            refine take_ (i := 26) (N := some 42) (v := ?_) (a' := ?_) (bnA 35 1177652327) rfl rfl (take_ofW HT_.out HW_.out (by kernel_rfl)) (fun _ _ _ h => h) (Or.inl ⟨by rfl, ?_⟩) hHeld ?_ ?_
                            rotate_left
                            ·rintro w' ⟨s0, s1, s2, s3, s4, s5, s6, s7, s8, s9, s10⟩
                             go_simp
                             first | with_reducible rfl | (rw [if_neg (by omega)])
                            rotate_left
                            ·simp only [Act.put, sA, s0, s1, i64_w, i32_w]
                             rfl
                            refine take_ (i := 31) (N := some 47) (v := ?_) (a' := ?_) (bnA 35 3325135975) rfl rfl (take_ofW HT_.out HW_.out (by kernel_rfl)) (fun _ _ _ h => h) (Or.inl ⟨by rfl, ?_⟩) hHeld ?_ ?_
                            rotate_left
                            ·rintro w' ⟨s0, s1, s2, s3, s4, s5, s6, s7, s8, s9, s10⟩
                             go_simp
                             first | with_reducible rfl | (rw [if_neg (by omega)])
                            rotate_left
                            ·simp only [Act.put, sA, s0, s1, i64_w, i32_w]
                             rfl
                            refine one_ (i := 3) (N := some 19) (bnA 35 3325135983) rfl rfl (one_of HT_.out (by kernel_rfl)) (by decide) (fun K hK => ?_)
                            refine goes_ Tryd.func32 (by kernel_rfl) rfl #[.int .i64 ((rd_T62 l0 x9_1).f0)] (by rfl) rfl rfl (by (try simp only [List.map_toArray, List.map_cons, List.map_nil]); first | done | rfl | (simp only [List.length_drop, List.length_take]; rfl)) ?_
                            with_reducible refine (spec_natural.calls k1 ((rd_T62 l0 x9_1).f0) t148 _ A7.out).mono ?_
                            rintro e w39 ⟨rfl, hb⟩
                            refine ⟨_, rfl, ?_⟩
                            have n0_ := Aside0.mk (blk_below (g := gb146) (o := .cells #[.int .i64 ((rd_T62 l0 x9_1).f0), .int .i64 ((rd_T62 l0 x9_1).f1), .int .i64 ((rd_T62 l0 x9_1).f2), .int .i64 ((rd_T62 l0 x9_1).f3), .string ((rd_T62 l0 x9_1).f4), .string ((rd_T62 l0 x9_1).f5), .string ((rd_T62 l0 x9_1).f6), .string ((rd_T62 l0 x9_1).f7), .string ((rd_T62 l0 x9_1).f8), .string ((rd_T62 l0 x9_1).f9), .string ((rd_T62 l0 x9_1).f10)] 62 (0, 0)) (by refine bY ?_; exact BK146.out) hb)
                            have n1_ := Aside0.mk (below_step belS hb)
                            clear BK146
                            clear HB
                            have BK146 := n0_
                            have HB := n1_
                            clear n0_ n1_
                            (try clear hb)
                            (try clear hb2)
                            (try clear hk)
                            (try clear hi)
                            refine hK.out _ _ ⟨(blk_cell BK146.out 0).trans rfl, (blk_cell BK146.out 1).trans rfl, (blk_cell BK146.out 2).trans rfl, (blk_cell BK146.out 3).trans rfl, (blk_cell BK146.out 4).trans rfl, (blk_cell BK146.out 5).trans rfl, (blk_cell BK146.out 6).trans rfl, (blk_cell BK146.out 7).trans rfl, (blk_cell BK146.out 8).trans rfl, (blk_cell BK146.out 9).trans rfl, (blk_cell BK146.out 10).trans rfl⟩ (fun hHeld => ?_)
                            clear hK K
                            refine norm_ (a' := ?_) ?_ ?_
                            rotate_left
                            ·show Act.put _ (some 19) _ = _
                             simp only [Act.put, sA, s0, s1, i64_w, i32_w]
                             rfl
                            refine pure_ (i := 4) (N := some 20) (v := ?_) (a' := ?_) (bnA 35 3325135999) rfl rfl (any_of HT_.out (by kernel_rfl)) (fun _ _ _ h => h) (Or.inl ⟨by rfl, ?_⟩) ?_ ?_
                            rotate_left
                            ·intro w'
                             go_simp
                             first | with_reducible rfl | (rw [if_neg (by omega)])
                            rotate_left
                            ·simp only [Act.put, sA, s0, s1, i64_w, i32_w]
                             rfl
                            refine one_ (i := 7) (N := some 23) (bnA 35 3325136127) rfl rfl (one_of HT_.out (by kernel_rfl)) (by decide) (fun K hK => ?_)
                            refine goes_ Tryd.func32 (by kernel_rfl) rfl #[.int .i64 ((rd_T62 l0 x9_1).f1)] (by rfl) rfl rfl (by (try simp only [List.map_toArray, List.map_cons, List.map_nil]); first | done | rfl | (simp only [List.length_drop, List.length_take]; rfl)) ?_
                            with_reducible refine (spec_natural.calls k1 ((rd_T62 l0 x9_1).f1) t149 _ A9.out).mono ?_
                            rintro e w40 ⟨rfl, hb⟩
                            refine ⟨_, rfl, ?_⟩
                            have n0_ := Aside0.mk (blk_below (g := gb146) (o := .cells #[.int .i64 ((rd_T62 l0 x9_1).f0), .int .i64 ((rd_T62 l0 x9_1).f1), .int .i64 ((rd_T62 l0 x9_1).f2), .int .i64 ((rd_T62 l0 x9_1).f3), .string ((rd_T62 l0 x9_1).f4), .string ((rd_T62 l0 x9_1).f5), .string ((rd_T62 l0 x9_1).f6), .string ((rd_T62 l0 x9_1).f7), .string ((rd_T62 l0 x9_1).f8), .string ((rd_T62 l0 x9_1).f9), .string ((rd_T62 l0 x9_1).f10)] 62 (0, 0)) (by refine bY ?_; exact BK146.out) hb)
                            have n1_ := Aside0.mk (below_step belS hb)
                            clear BK146
                            clear HB
                            have BK146 := n0_
                            have HB := n1_
                            clear n0_ n1_
                            (try clear hb)
                            (try clear hb2)
                            (try clear hk)
                            (try clear hi)
                            refine hK.out _ _ ⟨(blk_cell BK146.out 0).trans rfl, (blk_cell BK146.out 1).trans rfl, (blk_cell BK146.out 2).trans rfl, (blk_cell BK146.out 3).trans rfl, (blk_cell BK146.out 4).trans rfl, (blk_cell BK146.out 5).trans rfl, (blk_cell BK146.out 6).trans rfl, (blk_cell BK146.out 7).trans rfl, (blk_cell BK146.out 8).trans rfl, (blk_cell BK146.out 9).trans rfl, (blk_cell BK146.out 10).trans rfl⟩ (fun hHeld => ?_)
                            clear hK K
                            refine norm_ (a' := ?_) ?_ ?_
                            rotate_left
                            ·show Act.put _ (some 23) _ = _
                             simp only [Act.put, sA, s0, s1, i64_w, i32_w]
                             rfl
                            refine pure_ (i := 8) (N := some 24) (v := ?_) (a' := ?_) (bnA 35 3325136383) rfl rfl (any_of HT_.out (by kernel_rfl)) (fun _ _ _ h => h) (Or.inl ⟨by rfl, ?_⟩) ?_ ?_
                            rotate_left
                            ·intro w'
                             go_simp
                             first | with_reducible rfl | (rw [if_neg (by omega)])
                            rotate_left
                            ·simp only [Act.put, sA, s0, s1, i64_w, i32_w]
                             rfl
                            refine pure_ (i := 9) (N := some 25) (v := ?_) (a' := ?_) (bnA 35 3325136895) rfl rfl (any_of HT_.out (by kernel_rfl)) (fun _ _ _ h => h) (Or.inl ⟨by rfl, ?_⟩) ?_ ?_
                            rotate_left
                            ·intro w'
                             go_simp
                             first | with_reducible rfl | (rw [if_neg (by omega)])
                            rotate_left
                            ·simp only [Act.put, sA, s0, s1, i64_w, i32_w]
                             rfl
                            refine one_ (i := 12) (N := some 28) (bnA 35 3325140991) rfl rfl (one_of HT_.out (by kernel_rfl)) (by decide) (fun K hK => ?_)
                            refine goes_ Tryd.func32 (by kernel_rfl) rfl #[.int .i64 ((rd_T62 l0 x9_1).f2)] (by rfl) rfl rfl (by (try simp only [List.map_toArray, List.map_cons, List.map_nil]); first | done | rfl | (simp only [List.length_drop, List.length_take]; rfl)) ?_
                            with_reducible refine (spec_natural.calls k1 ((rd_T62 l0 x9_1).f2) t150 _ A12.out).mono ?_
                            rintro e w41 ⟨rfl, hb⟩
                            refine ⟨_, rfl, ?_⟩
                            have n0_ := Aside0.mk (blk_below (g := gb146) (o := .cells #[.int .i64 ((rd_T62 l0 x9_1).f0), .int .i64 ((rd_T62 l0 x9_1).f1), .int .i64 ((rd_T62 l0 x9_1).f2), .int .i64 ((rd_T62 l0 x9_1).f3), .string ((rd_T62 l0 x9_1).f4), .string ((rd_T62 l0 x9_1).f5), .string ((rd_T62 l0 x9_1).f6), .string ((rd_T62 l0 x9_1).f7), .string ((rd_T62 l0 x9_1).f8), .string ((rd_T62 l0 x9_1).f9), .string ((rd_T62 l0 x9_1).f10)] 62 (0, 0)) (by refine bY ?_; exact BK146.out) hb)
                            have n1_ := Aside0.mk (below_step belS hb)
                            clear BK146
                            clear HB
                            have BK146 := n0_
                            have HB := n1_
                            clear n0_ n1_
                            (try clear hb)
                            (try clear hb2)
                            (try clear hk)
                            (try clear hi)
                            refine hK.out _ _ ⟨(blk_cell BK146.out 0).trans rfl, (blk_cell BK146.out 1).trans rfl, (blk_cell BK146.out 2).trans rfl, (blk_cell BK146.out 3).trans rfl, (blk_cell BK146.out 4).trans rfl, (blk_cell BK146.out 5).trans rfl, (blk_cell BK146.out 6).trans rfl, (blk_cell BK146.out 7).trans rfl, (blk_cell BK146.out 8).trans rfl, (blk_cell BK146.out 9).trans rfl, (blk_cell BK146.out 10).trans rfl⟩ (fun hHeld => ?_)
                            clear hK K
                            refine norm_ (a' := ?_) ?_ ?_
                            rotate_left
                            ·show Act.put _ (some 28) _ = _
                             simp only [Act.put, sA, s0, s1, i64_w, i32_w]
                             rfl
                            refine pure_ (i := 13) (N := some 29) (v := ?_) (a' := ?_) (bnA 35 3325149183) rfl rfl (any_of HT_.out (by kernel_rfl)) (fun _ _ _ h => h) (Or.inl ⟨by rfl, ?_⟩) ?_ ?_
                            rotate_left
                            ·intro w'
                             go_simp
                             first | with_reducible rfl | (rw [if_neg (by omega)])
                            rotate_left
                            ·simp only [Act.put, sA, s0, s1, i64_w, i32_w]
                             rfl
                            refine pure_ (i := 14) (N := some 30) (v := ?_) (a' := ?_) (bnA 35 3325165567) rfl rfl (any_of HT_.out (by kernel_rfl)) (fun _ _ _ h => h) (Or.inl ⟨by rfl, ?_⟩) ?_ ?_
                            rotate_left
                            ·intro w'
                             go_simp
                             first | with_reducible rfl | (rw [if_neg (by omega)])
                            rotate_left
                            ·simp only [Act.put, sA, s0, s1, i64_w, i32_w]
                             rfl
                            refine one_ (i := 17) (N := some 33) (bnA 35 3325296639) rfl rfl (one_of HT_.out (by kernel_rfl)) (by decide) (fun K hK => ?_)
                            refine goes_ Tryd.func32 (by kernel_rfl) rfl #[.int .i64 ((rd_T62 l0 x9_1).f3)] (by rfl) rfl rfl (by (try simp only [List.map_toArray, List.map_cons, List.map_nil]); first | done | rfl | (simp only [List.length_drop, List.length_take]; rfl)) ?_
                            with_reducible refine (spec_natural.calls k1 ((rd_T62 l0 x9_1).f3) t151 _ A15.out).mono ?_
                            rintro e w42 ⟨rfl, hb⟩
                            refine ⟨_, rfl, ?_⟩
                            have n0_ := Aside0.mk (blk_below (g := gb146) (o := .cells #[.int .i64 ((rd_T62 l0 x9_1).f0), .int .i64 ((rd_T62 l0 x9_1).f1), .int .i64 ((rd_T62 l0 x9_1).f2), .int .i64 ((rd_T62 l0 x9_1).f3), .string ((rd_T62 l0 x9_1).f4), .string ((rd_T62 l0 x9_1).f5), .string ((rd_T62 l0 x9_1).f6), .string ((rd_T62 l0 x9_1).f7), .string ((rd_T62 l0 x9_1).f8), .string ((rd_T62 l0 x9_1).f9), .string ((rd_T62 l0 x9_1).f10)] 62 (0, 0)) (by refine bY ?_; exact BK146.out) hb)
                            have n1_ := Aside0.mk (below_step belS hb)
                            clear BK146
                            clear HB
                            have BK146 := n0_
                            have HB := n1_
                            clear n0_ n1_
                            (try clear hb)
                            (try clear hb2)
                            (try clear hk)
                            (try clear hi)
                            refine hK.out _ _ ⟨(blk_cell BK146.out 0).trans rfl, (blk_cell BK146.out 1).trans rfl, (blk_cell BK146.out 2).trans rfl, (blk_cell BK146.out 3).trans rfl, (blk_cell BK146.out 4).trans rfl, (blk_cell BK146.out 5).trans rfl, (blk_cell BK146.out 6).trans rfl, (blk_cell BK146.out 7).trans rfl, (blk_cell BK146.out 8).trans rfl, (blk_cell BK146.out 9).trans rfl, (blk_cell BK146.out 10).trans rfl⟩ (fun hHeld => ?_)
                            clear hK K
                            refine norm_ (a' := ?_) ?_ ?_
                            rotate_left
                            ·show Act.put _ (some 33) _ = _
                             simp only [Act.put, sA, s0, s1, i64_w, i32_w]
                             rfl
                            refine pure_ (i := 18) (N := some 34) (v := ?_) (a' := ?_) (bnA 35 3325558783) rfl rfl (any_of HT_.out (by kernel_rfl)) (fun _ _ _ h => h) (Or.inl ⟨by rfl, ?_⟩) ?_ ?_
                            rotate_left
                            ·intro w'
                             go_simp
                             first | with_reducible rfl | (rw [if_neg (by omega)])
                            rotate_left
                            ·simp only [Act.put, sA, s0, s1, i64_w, i32_w]
                             rfl
                            refine pure_ (i := 19) (N := some 35) (v := ?_) (a' := ?_) (bnA 35 3326083071) rfl rfl (any_of HT_.out (by kernel_rfl)) (fun _ _ _ h => h) (Or.inl ⟨by rfl, ?_⟩) ?_ ?_
                            rotate_left
                            ·intro w'
                             go_simp
                             first | with_reducible rfl | (rw [if_neg (by omega)])
                            rotate_left
                            ·simp only [Act.put, sA, s0, s1, i64_w, i32_w]
                             rfl
                            refine one_ (i := 22) (N := some 38) (bnA 35 3330277375) rfl rfl (one_of HT_.out (by kernel_rfl)) (by decide) (fun K hK => ?_)
                            refine goes_ Tryd.func33 (by kernel_rfl) rfl #[.string ((rd_T62 l0 x9_1).f4)] (by rfl) rfl rfl (by (try simp only [List.map_toArray, List.map_cons, List.map_nil]); first | done | rfl | (simp only [List.length_drop, List.length_take]; rfl)) ?_
                            with_reducible refine (spec_octal.calls k1 ((rd_T62 l0 x9_1).f4) t152 _ A18.out).mono ?_
                            rintro e w43 ⟨rfl, hb⟩
                            refine ⟨_, rfl, ?_⟩
                            have n0_ := Aside0.mk (blk_below (g := gb146) (o := .cells #[.int .i64 ((rd_T62 l0 x9_1).f0), .int .i64 ((rd_T62 l0 x9_1).f1), .int .i64 ((rd_T62 l0 x9_1).f2), .int .i64 ((rd_T62 l0 x9_1).f3), .string ((rd_T62 l0 x9_1).f4), .string ((rd_T62 l0 x9_1).f5), .string ((rd_T62 l0 x9_1).f6), .string ((rd_T62 l0 x9_1).f7), .string ((rd_T62 l0 x9_1).f8), .string ((rd_T62 l0 x9_1).f9), .string ((rd_T62 l0 x9_1).f10)] 62 (0, 0)) (by refine bY ?_; exact BK146.out) hb)
                            have n1_ := Aside0.mk (below_step belS hb)
                            clear BK146
                            clear HB
                            have BK146 := n0_
                            have HB := n1_
                            clear n0_ n1_
                            (try clear hb)
                            (try clear hb2)
                            (try clear hk)
                            (try clear hi)
                            refine hK.out _ _ ⟨(blk_cell BK146.out 0).trans rfl, (blk_cell BK146.out 1).trans rfl, (blk_cell BK146.out 2).trans rfl, (blk_cell BK146.out 3).trans rfl, (blk_cell BK146.out 4).trans rfl, (blk_cell BK146.out 5).trans rfl, (blk_cell BK146.out 6).trans rfl, (blk_cell BK146.out 7).trans rfl, (blk_cell BK146.out 8).trans rfl, (blk_cell BK146.out 9).trans rfl, (blk_cell BK146.out 10).trans rfl⟩ (fun hHeld => ?_)
                            clear hK K
                            refine norm_ (a' := ?_) ?_ ?_
                            rotate_left
                            ·show Act.put _ (some 38) _ = _
                             simp only [Act.put, sA, s0, s1, i64_w, i32_w]
                             rfl
                            refine pure_ (i := 23) (N := some 39) (v := ?_) (a' := ?_) (bnA 35 3338665983) rfl rfl (any_of HT_.out (by kernel_rfl)) (fun _ _ _ h => h) (Or.inl ⟨by rfl, ?_⟩) ?_ ?_
                            rotate_left
                            ·intro w'
                             go_simp
                             first | with_reducible rfl | (rw [if_neg (by omega)])
                            rotate_left
                            ·simp only [Act.put, sA, s0, s1, i64_w, i32_w]
                             rfl
                            refine pure_ (i := 24) (N := some 40) (v := ?_) (a' := ?_) (bnA 35 3355443199) rfl rfl (any_of HT_.out (by kernel_rfl)) (fun _ _ _ h => h) (Or.inl ⟨by rfl, ?_⟩) ?_ ?_
                            rotate_left
                            ·intro w'
                             go_simp
                             first | with_reducible rfl | (rw [if_neg (by omega)])
                            rotate_left
                            ·simp only [Act.put, sA, s0, s1, i64_w, i32_w]
                             rfl
                            refine one_ (i := 27) (N := some 43) (bnA 35 3489660927) rfl rfl (one_of HT_.out (by kernel_rfl)) (by decide) (fun K hK => ?_)
                            refine goes_ Tryd.func33 (by kernel_rfl) rfl #[.string ((rd_T62 l0 x9_1).f5)] (by rfl) rfl rfl (by (try simp only [List.map_toArray, List.map_cons, List.map_nil]); first | done | rfl | (simp only [List.length_drop, List.length_take]; rfl)) ?_
                            with_reducible refine (spec_octal.calls k1 ((rd_T62 l0 x9_1).f5) t153 _ A21.out).mono ?_
                            rintro e w44 ⟨rfl, hb⟩
                            refine ⟨_, rfl, ?_⟩
                            have n0_ := Aside0.mk (blk_below (g := gb146) (o := .cells #[.int .i64 ((rd_T62 l0 x9_1).f0), .int .i64 ((rd_T62 l0 x9_1).f1), .int .i64 ((rd_T62 l0 x9_1).f2), .int .i64 ((rd_T62 l0 x9_1).f3), .string ((rd_T62 l0 x9_1).f4), .string ((rd_T62 l0 x9_1).f5), .string ((rd_T62 l0 x9_1).f6), .string ((rd_T62 l0 x9_1).f7), .string ((rd_T62 l0 x9_1).f8), .string ((rd_T62 l0 x9_1).f9), .string ((rd_T62 l0 x9_1).f10)] 62 (0, 0)) (by refine bY ?_; exact BK146.out) hb)
                            have n1_ := Aside0.mk (below_step belS hb)
                            clear BK146
                            clear HB
                            have BK146 := n0_
                            have HB := n1_
                            clear n0_ n1_
                            (try clear hb)
                            (try clear hb2)
                            (try clear hk)
                            (try clear hi)
                            refine hK.out _ _ ⟨(blk_cell BK146.out 0).trans rfl, (blk_cell BK146.out 1).trans rfl, (blk_cell BK146.out 2).trans rfl, (blk_cell BK146.out 3).trans rfl, (blk_cell BK146.out 4).trans rfl, (blk_cell BK146.out 5).trans rfl, (blk_cell BK146.out 6).trans rfl, (blk_cell BK146.out 7).trans rfl, (blk_cell BK146.out 8).trans rfl, (blk_cell BK146.out 9).trans rfl, (blk_cell BK146.out 10).trans rfl⟩ (fun hHeld => ?_)
                            clear hK K
                            refine norm_ (a' := ?_) ?_ ?_
                            rotate_left
                            ·show Act.put _ (some 43) _ = _
                             simp only [Act.put, sA, s0, s1, i64_w, i32_w]
                             rfl
                            refine pure_ (i := 28) (N := some 44) (v := ?_) (a' := ?_) (bnA 35 3758096383) rfl rfl (any_of HT_.out (by kernel_rfl)) (fun _ _ _ h => h) (Or.inl ⟨by rfl, ?_⟩) ?_ ?_
                            rotate_left
                            ·intro w'
                             go_simp
                             first | with_reducible rfl | (rw [if_neg (by omega)])
                            rotate_left
                            ·simp only [Act.put, sA, s0, s1, i64_w, i32_w]
                             rfl
                            refine pure_ (i := 29) (N := some 45) (v := ?_) (a' := ?_) (tfA 32 3) rfl rfl (any_of HT_.out (by kernel_rfl)) (fun _ _ _ h => h) (Or.inl ⟨by rfl, ?_⟩) ?_ ?_
                            rotate_left
                            ·intro w'
                             go_simp
                             first | with_reducible rfl | (rw [if_neg (by omega)])
                            rotate_left
                            ·simp only [Act.put, sA, s0, s1, i64_w, i32_w]
                             rfl
                            refine pure_ (i := 32) (N := some 48) (v := ?_) (a' := ?_) (tfA 33 2) rfl rfl (any_of HT_.out (by kernel_rfl)) (fun _ _ _ h => h) (Or.inl ⟨by rfl, ?_⟩) ?_ ?_
                            rotate_left
                            ·intro w'
                             go_simp
                             first | with_reducible rfl | (rw [if_neg (by omega)])
                            rotate_left
                            ·simp only [Act.put, sA, s0, s1, i64_w, i32_w]
                             rfl
                            refine pure_ (i := 33) (N := some 49) (v := ?_) (a' := ?_) (tfA 34 1) rfl rfl (any_of HT_.out (by kernel_rfl)) (fun _ _ _ h => h) (Or.inl ⟨by rfl, ?_⟩) ?_ ?_
                            rotate_left
                            ·intro w'
                             go_simp
                             first | with_reducible rfl | (rw [if_neg (by omega)])
                            rotate_left
                            ·simp only [Act.put, sA, s0, s1, i64_w, i32_w]
                             rfl
                            refine pure_ (i := 34) (N := some 4) (v := ?_) (a' := ?_) (tfA 35 0) rfl rfl (any_of HT_.out (by kernel_rfl)) (fun _ _ _ h => h) (Or.inl ⟨by rfl, ?_⟩) ?_ ?_
                            rotate_left
                            ·intro w'
                             go_simp
                             first | with_reducible rfl | (rw [if_neg (by omega)])
                            rotate_left
                            ·simp only [Act.put, sA, s0, s1, i64_w, i32_w]
                             rfl
                            refine done_ (done_of HT_.out (by kernel_rfl)) ?_
                            obtain ⟨hcz45_0, hcz45_1, hcz45_2, hcz45_3, hcz45_4, hcz45_5, hcz45_6, hcz45_7, hcz45_8, hcz45_9, hcz45_10, hfz45_0, hfz45_1, hfz45_2, hfz45_3, hfz45_4, hfz45_5, hfz45_6, hfz45_7, hfz45_8, hfz45_9, hfz45_10⟩ := rows11 (w := w44) BK146
                            try go_wp2
                            have n0_ := Aside0.mk (blk_drew BK146.out)
                            have n1_ := Aside0.mk (below_drew1 HB.out)
                            clear BK146
                            clear HB
                            have BK146 := n0_
                            have HB := n1_
                            clear n0_ n1_
                            refine start_ (n := 16) (S := fun w' => w'.cell? ⟨gb146, 0, none⟩ = some (.int .i64 ((rd_T62 l0 x9_1).f0)) ∧ w'.cell? ⟨gb146, 1, none⟩ = some (.int .i64 ((rd_T62 l0 x9_1).f1)) ∧ w'.cell? ⟨gb146, 2, none⟩ = some (.int .i64 ((rd_T62 l0 x9_1).f2)) ∧ w'.cell? ⟨gb146, 3, none⟩ = some (.int .i64 ((rd_T62 l0 x9_1).f3)) ∧ w'.cell? ⟨gb146, 4, none⟩ = some (.string ((rd_T62 l0 x9_1).f4)) ∧ w'.cell? ⟨gb146, 5, none⟩ = some (.string ((rd_T62 l0 x9_1).f5)) ∧ w'.cell? ⟨gb146, 6, none⟩ = some (.string ((rd_T62 l0 x9_1).f6)) ∧ w'.cell? ⟨gb146, 7, none⟩ = some (.string ((rd_T62 l0 x9_1).f7)) ∧ w'.cell? ⟨gb146, 8, none⟩ = some (.string ((rd_T62 l0 x9_1).f8)) ∧ w'.cell? ⟨gb146, 9, none⟩ = some (.string ((rd_T62 l0 x9_1).f9)) ∧ w'.cell? ⟨gb146, 10, none⟩ = some (.string ((rd_T62 l0 x9_1).f10))) (ds := []) (tfA 0 16) (by kernel_rfl) rfl rfl ⟨(blk_cell BK146.out 0).trans rfl, (blk_cell BK146.out 1).trans rfl, (blk_cell BK146.out 2).trans rfl, (blk_cell BK146.out 3).trans rfl, (blk_cell BK146.out 4).trans rfl, (blk_cell BK146.out 5).trans rfl, (blk_cell BK146.out 6).trans rfl, (blk_cell BK146.out 7).trans rfl, (blk_cell BK146.out 8).trans rfl, (blk_cell BK146.out 9).trans rfl, (blk_cell BK146.out 10).trans rfl⟩ (fun hHeld => ?_); refine with_tabW spec_MountsPrint.tab10 spec_MountsPrint.bits10 (fun HT_ HW_ => ?_)
                            generalize w44.drew = w46 at BK146 HB hHeld ⊢
                            refine pure_ (i := 0) (N := some 58) (v := ?_) (a' := ?_) (tfA 1 15) rfl rfl (any_of HT_.out (by kernel_rfl)) (fun _ _ _ h => h) (Or.inl ⟨by rfl, ?_⟩) ?_ ?_
                            rotate_left
                            ·intro w'
                             go_simp
                             first | with_reducible rfl | (rw [if_neg (by omega)])
                            rotate_left
                            ·simp only [Act.put, sA, s0, s1, i64_w, i32_w]
                             rfl
                            refine pure_ (i := 1) (N := some 59) (v := ?_) (a' := ?_) (tfA 2 14) rfl rfl (any_of HT_.out (by kernel_rfl)) (fun _ _ _ h => h) (Or.inl ⟨by rfl, ?_⟩) ?_ ?_
                            rotate_left
                            ·intro w'
                             go_simp
                             first | with_reducible rfl | (rw [if_neg (by omega)])
                            rotate_left
                            ·simp only [Act.put, sA, s0, s1, i64_w, i32_w]
                             rfl
                            refine pure_ (i := 5) (N := some 63) (v := ?_) (a' := ?_) (bnA 16 35) rfl rfl (any_of HT_.out (by kernel_rfl)) (fun _ _ _ h => h) (Or.inl ⟨by rfl, ?_⟩) ?_ ?_
                            rotate_left
                            ·intro w'
                             go_simp
                             first | with_reducible rfl | (rw [if_neg (by omega)])
                            rotate_left
                            ·simp only [Act.put, sA, s0, s1, i64_w, i32_w]
                             rfl
                            refine pure_ (i := 10) (N := some 68) (v := ?_) (a' := ?_) (bnA 16 1059) rfl rfl (any_of HT_.out (by kernel_rfl)) (fun _ _ _ h => h) (Or.inl ⟨by rfl, ?_⟩) ?_ ?_
                            rotate_left
                            ·intro w'
                             go_simp
                             first | with_reducible rfl | (rw [if_neg (by omega)])
                            rotate_left
                            ·simp only [Act.put, sA, s0, s1, i64_w, i32_w]
                             rfl
                            refine take_ (i := 2) (N := some 60) (v := ?_) (a' := ?_) (bnA 16 1063) rfl rfl (take_ofW HT_.out HW_.out (by kernel_rfl)) (fun _ _ _ h => h) (Or.inl ⟨by rfl, ?_⟩) hHeld ?_ ?_
                            rotate_left
                            ·rintro w' ⟨s0, s1, s2, s3, s4, s5, s6, s7, s8, s9, s10⟩
                             go_simp
                             first | with_reducible rfl | (rw [if_neg (by omega)])
                            rotate_left
                            ·simp only [Act.put, sA, s0, s1, i64_w, i32_w]
                             rfl
                            refine pure_ (i := 3) (N := some 61) (v := ?_) (a' := ?_) (bnA 16 1071) rfl rfl (any_of HT_.out (by kernel_rfl)) (fun _ _ _ h => h) (Or.inl ⟨by rfl, ?_⟩) ?_ ?_
                            rotate_left
                            ·intro w'
                             go_simp
                             first | with_reducible rfl | (rw [if_neg (by omega)])
                            rotate_left
                            ·simp only [Act.put, sA, s0, s1, i64_w, i32_w]
                             rfl
                            refine pure_ (i := 4) (N := some 62) (v := ?_) (a' := ?_) (bnA 16 1087) rfl rfl (any_of HT_.out (by kernel_rfl)) (fun _ _ _ h => h) (Or.inl ⟨by rfl, ?_⟩) ?_ ?_
                            rotate_left
                            ·intro w'
                             go_simp
                             first | with_reducible rfl | (rw [if_neg (by omega)])
                            rotate_left
                            ·simp only [Act.put, sA, s0, s1, i64_w, i32_w]
                             rfl
                            refine take_ (i := 6) (N := some 64) (v := ?_) (a' := ?_) (bnA 16 1151) rfl rfl (take_ofW HT_.out HW_.out (by kernel_rfl)) (fun _ _ _ h => h) (Or.inl ⟨by rfl, ?_⟩) hHeld ?_ ?_
                            rotate_left
                            ·rintro w' ⟨s0, s1, s2, s3, s4, s5, s6, s7, s8, s9, s10⟩
                             go_simp
                             first | with_reducible rfl | (rw [if_neg (by omega)])
                            rotate_left
                            ·simp only [Act.put, sA, s0, s1, i64_w, i32_w]
                             rfl
                            refine take_ (i := 11) (N := some 69) (v := ?_) (a' := ?_) (bnA 16 3199) rfl rfl (take_ofW HT_.out HW_.out (by kernel_rfl)) (fun _ _ _ h => h) (Or.inl ⟨by rfl, ?_⟩) hHeld ?_ ?_
                            rotate_left
                            ·rintro w' ⟨s0, s1, s2, s3, s4, s5, s6, s7, s8, s9, s10⟩
                             go_simp
                             first | with_reducible rfl | (rw [if_neg (by omega)])
                            rotate_left
                            ·simp only [Act.put, sA, s0, s1, i64_w, i32_w]
                             rfl
                            refine one_ (i := 7) (N := some 65) (bnA 16 3327) rfl rfl (one_of HT_.out (by kernel_rfl)) (by decide) (fun K hK => ?_)
                            refine goes_ Tryd.func33 (by kernel_rfl) rfl #[.string ((rd_T62 l0 x9_1).f9)] (by rfl) rfl rfl (by (try simp only [List.map_toArray, List.map_cons, List.map_nil]); first | done | rfl | (simp only [List.length_drop, List.length_take]; rfl)) ?_
                            with_reducible refine (spec_octal.calls k1 ((rd_T62 l0 x9_1).f9) t154 _ A29.out).mono ?_
                            rintro e w47 ⟨rfl, hb⟩
                            refine ⟨_, rfl, ?_⟩
                            have n0_ := Aside0.mk (blk_below (g := gb146) (o := .cells #[.int .i64 ((rd_T62 l0 x9_1).f0), .int .i64 ((rd_T62 l0 x9_1).f1), .int .i64 ((rd_T62 l0 x9_1).f2), .int .i64 ((rd_T62 l0 x9_1).f3), .string ((rd_T62 l0 x9_1).f4), .string ((rd_T62 l0 x9_1).f5), .string ((rd_T62 l0 x9_1).f6), .string ((rd_T62 l0 x9_1).f7), .string ((rd_T62 l0 x9_1).f8), .string ((rd_T62 l0 x9_1).f9), .string ((rd_T62 l0 x9_1).f10)] 62 (0, 0)) (by refine bY ?_; exact BK146.out) hb)
                            have n1_ := Aside0.mk (below_step belS hb)
                            clear BK146
                            clear HB
                            have BK146 := n0_
                            have HB := n1_
                            clear n0_ n1_
                            (try clear hb)
                            (try clear hb2)
                            (try clear hk)
                            (try clear hi)
                            refine hK.out _ _ ⟨(blk_cell BK146.out 0).trans rfl, (blk_cell BK146.out 1).trans rfl, (blk_cell BK146.out 2).trans rfl, (blk_cell BK146.out 3).trans rfl, (blk_cell BK146.out 4).trans rfl, (blk_cell BK146.out 5).trans rfl, (blk_cell BK146.out 6).trans rfl, (blk_cell BK146.out 7).trans rfl, (blk_cell BK146.out 8).trans rfl, (blk_cell BK146.out 9).trans rfl, (blk_cell BK146.out 10).trans rfl⟩ (fun hHeld => ?_)
                            clear hK K
                            refine norm_ (a' := ?_) ?_ ?_
                            rotate_left
                            ·show Act.put _ (some 65) _ = _
                             simp only [Act.put, sA, s0, s1, i64_w, i32_w]
                             rfl
                            refine pure_ (i := 8) (N := some 66) (v := ?_) (a' := ?_) (bnA 16 3583) rfl rfl (any_of HT_.out (by kernel_rfl)) (fun _ _ _ h => h) (Or.inl ⟨by rfl, ?_⟩) ?_ ?_
                            rotate_left
                            ·intro w'
                             go_simp
                             first | with_reducible rfl | (rw [if_neg (by omega)])
                            rotate_left
                            ·simp only [Act.put, sA, s0, s1, i64_w, i32_w]
                             rfl
                            refine pure_ (i := 9) (N := some 67) (v := ?_) (a' := ?_) (tfA 12 4) rfl rfl (any_of HT_.out (by kernel_rfl)) (fun _ _ _ h => h) (Or.inl ⟨by rfl, ?_⟩) ?_ ?_
                            rotate_left
                            ·intro w'
                             go_simp
                             first | with_reducible rfl | (rw [if_neg (by omega)])
                            rotate_left
                            ·simp only [Act.put, sA, s0, s1, i64_w, i32_w]
                             rfl
                            refine pure_ (i := 12) (N := some 70) (v := ?_) (a' := ?_) (tfA 13 3) rfl rfl (any_of HT_.out (by kernel_rfl)) (fun _ _ _ h => h) (Or.inl ⟨by rfl, ?_⟩) ?_ ?_
                            rotate_left
                            ·intro w'
                             go_simp
                             first | with_reducible rfl | (rw [if_neg (by omega)])
                            rotate_left
                            ·simp only [Act.put, sA, s0, s1, i64_w, i32_w]
                             rfl
                            refine pure_ (i := 13) (N := some 71) (v := ?_) (a' := ?_) (tfA 14 2) rfl rfl (any_of HT_.out (by kernel_rfl)) (fun _ _ _ h => h) (Or.inl ⟨by rfl, ?_⟩) ?_ ?_
                            rotate_left
                            ·intro w'
                             go_simp
                             first | with_reducible rfl | (rw [if_neg (by omega)])
                            rotate_left
                            ·simp only [Act.put, sA, s0, s1, i64_w, i32_w]
                             rfl
                            refine pure_ (i := 14) (N := some 72) (v := ?_) (a' := ?_) (tfA 15 1) rfl rfl (any_of HT_.out (by kernel_rfl)) (fun _ _ _ h => h) (Or.inl ⟨by rfl, ?_⟩) ?_ ?_
                            rotate_left
                            ·intro w'
                             go_simp
                             first | with_reducible rfl | (rw [if_neg (by omega)])
                            rotate_left
                            ·simp only [Act.put, sA, s0, s1, i64_w, i32_w]
                             rfl
                            refine pure_ (i := 15) (N := some 4) (v := ?_) (a' := ?_) (tfA 16 0) rfl rfl (any_of HT_.out (by kernel_rfl)) (fun _ _ _ h => h) (Or.inl ⟨by rfl, ?_⟩) ?_ ?_
                            rotate_left
                            ·intro w'
                             go_simp
                             first | with_reducible rfl | (rw [if_neg (by omega)])
                            rotate_left
                            ·simp only [Act.put, sA, s0, s1, i64_w, i32_w]
                             rfl
                            refine done_ (done_of HT_.out (by kernel_rfl)) ?_
                            try go_wp2
                            go_roundg k1
                            case measure => have := HK1.out; omega
                            case rel => exact ⟨((x4_1 ++ ((((((((((((t148 ++ (⟨#[32]⟩ : ByteArray)) ++ t149) ++ (⟨#[32]⟩ : ByteArray)) ++ t150) ++ (⟨#[58]⟩ : ByteArray)) ++ t151) ++ (⟨#[32]⟩ : ByteArray)) ++ t152) ++ (⟨#[32]⟩ : ByteArray)) ++ t153) ++ (⟨#[32]⟩ : ByteArray)) ++ ((rd_T62 l0 x9_1).f6))) ++ (((((((⟨#[32, 45, 32]⟩ : ByteArray) ++ ((rd_T62 l0 x9_1).f8)) ++ (⟨#[32]⟩ : ByteArray)) ++ t154) ++ (⟨#[32]⟩ : ByteArray)) ++ ((rd_T62 l0 x9_1).f10)) ++ (⟨#[10]⟩ : ByteArray))), (wrap64 (x9_1 + 1)), (by first | rfl | (simp; done) | (simp [*]; done) | (simp [bne_nil]; done) | (simp [bne_nil, *]; done)), (by first | rfl | (simp; done) | (simp [*]; done) | (simp [bne_nil]; done) | (simp [bne_nil, *]; done)), H', ⟨by have := HK1.out; omega⟩, ⟨by repeat (first | (with_reducible first | exact HB.out | apply below_alloc | apply pw_below_drewN | apply below_drew1 | refine below_set ?_ GE146.out) | exact HB.out)⟩⟩
                           ·rw [if_neg c34] at H
                            exact absurd H (by simp)
                          ·rw [if_neg c33] at H
                           exact absurd H (by simp)
                         ·rw [if_neg c32] at H
                          exact absurd H (by simp)
                        ·rw [if_neg c31] at H
                         exact absurd H (by simp)
                       ·rw [if_neg c30] at H
                        exact absurd H (by simp)
                      ·rw [if_neg c28] at H
                       exact absurd H (by simp)
                     ·rw [if_neg c27] at H
                      exact absurd H (by simp)
                    ·rw [if_neg c26] at H
                     have c26b0 : (((rd_T62 l0 x9_1).f7).toList == ([] : List UInt8)) = false := beq_eq_false_iff_ne.mpr c26
                     have c26b1 : (((rd_T62 l0 x9_1).f7).toList != ([] : List UInt8)) = true := bne_iff_ne.mpr c26
                     by_cases c48 : 1 + ((rd_T62 l0 x9_1).f7).size ≤ 9223372036854775807
                     ·rw [if_pos c48] at H
                      have c48b0 := eq_true c48
                      have c48z := c48
                      (try simp only [ByteArray.size_append, sz1l6_, sz3l6_, sz5l6_, sz7l6_] at c48z)
                      try have c48b3 := eq_false (Nat.not_lt.2 c48z)
                      have c48b1 : decide (1 + ((rd_T62 l0 x9_1).f7).size ≤ 9223372036854775807) = true := decide_eq_true c48
                      try have c48b2 : (9223372036854775807 < 1 + ((rd_T62 l0 x9_1).f7).size) = False := eq_false (Nat.not_lt.2 c48)
                      by_cases c49 : (x4_1 ++ ((((((((((((t148 ++ (⟨#[32]⟩ : ByteArray)) ++ t149) ++ (⟨#[32]⟩ : ByteArray)) ++ t150) ++ (⟨#[58]⟩ : ByteArray)) ++ t151) ++ (⟨#[32]⟩ : ByteArray)) ++ t152) ++ (⟨#[32]⟩ : ByteArray)) ++ t153) ++ (⟨#[32]⟩ : ByteArray)) ++ ((rd_T62 l0 x9_1).f6))).size + ((⟨#[32]⟩ : ByteArray) ++ ((rd_T62 l0 x9_1).f7)).size ≤ 9223372036854775807
                      ·rw [if_pos c49] at H
                       have c49b0 := eq_true c49
                       have c49z := c49
                       (try simp only [ByteArray.size_append, sz1l6_, sz3l6_, sz5l6_, sz7l6_] at c49z)
                       try have c49b3 := eq_false (Nat.not_lt.2 c49z)
                       have c49b1 : decide ((x4_1 ++ ((((((((((((t148 ++ (⟨#[32]⟩ : ByteArray)) ++ t149) ++ (⟨#[32]⟩ : ByteArray)) ++ t150) ++ (⟨#[58]⟩ : ByteArray)) ++ t151) ++ (⟨#[32]⟩ : ByteArray)) ++ t152) ++ (⟨#[32]⟩ : ByteArray)) ++ t153) ++ (⟨#[32]⟩ : ByteArray)) ++ ((rd_T62 l0 x9_1).f6))).size + ((⟨#[32]⟩ : ByteArray) ++ ((rd_T62 l0 x9_1).f7)).size ≤ 9223372036854775807) = true := decide_eq_true c49
                       try have c49b2 : (9223372036854775807 < (x4_1 ++ ((((((((((((t148 ++ (⟨#[32]⟩ : ByteArray)) ++ t149) ++ (⟨#[32]⟩ : ByteArray)) ++ t150) ++ (⟨#[58]⟩ : ByteArray)) ++ t151) ++ (⟨#[32]⟩ : ByteArray)) ++ t152) ++ (⟨#[32]⟩ : ByteArray)) ++ t153) ++ (⟨#[32]⟩ : ByteArray)) ++ ((rd_T62 l0 x9_1).f6))).size + ((⟨#[32]⟩ : ByteArray) ++ ((rd_T62 l0 x9_1).f7)).size) = False := eq_false (Nat.not_lt.2 c49)
                       by_cases c50 : 3 + ((rd_T62 l0 x9_1).f8).size ≤ 9223372036854775807
                       ·rw [if_pos c50] at H
                        have c50b0 := eq_true c50
                        have c50z := c50
                        (try simp only [ByteArray.size_append, sz1l6_, sz3l6_, sz5l6_, sz7l6_] at c50z)
                        try have c50b3 := eq_false (Nat.not_lt.2 c50z)
                        have c50b1 : decide (3 + ((rd_T62 l0 x9_1).f8).size ≤ 9223372036854775807) = true := decide_eq_true c50
                        try have c50b2 : (9223372036854775807 < 3 + ((rd_T62 l0 x9_1).f8).size) = False := eq_false (Nat.not_lt.2 c50)
                        by_cases c51 : ((⟨#[32, 45, 32]⟩ : ByteArray) ++ ((rd_T62 l0 x9_1).f8)).size + 1 ≤ 9223372036854775807
                        ·rw [if_pos c51] at H
                         have c51b0 := eq_true c51
                         have c51z := c51
                         (try simp only [ByteArray.size_append, sz1l6_, sz3l6_, sz5l6_, sz7l6_] at c51z)
                         try have c51b3 := eq_false (Nat.not_lt.2 c51z)
                         have c51b1 : decide (((⟨#[32, 45, 32]⟩ : ByteArray) ++ ((rd_T62 l0 x9_1).f8)).size + 1 ≤ 9223372036854775807) = true := decide_eq_true c51
                         try have c51b2 : (9223372036854775807 < ((⟨#[32, 45, 32]⟩ : ByteArray) ++ ((rd_T62 l0 x9_1).f8)).size + 1) = False := eq_false (Nat.not_lt.2 c51)
                         replace H := Option.bind_eq_some_iff.mp H
                         obtain ⟨t155, A520, H⟩ := H
                         have A52 := Aside0.mk A520
                         clear A520
                         by_cases c53 : (((⟨#[32, 45, 32]⟩ : ByteArray) ++ ((rd_T62 l0 x9_1).f8)) ++ (⟨#[32]⟩ : ByteArray)).size + t155.size ≤ 9223372036854775807
                         ·rw [if_pos c53] at H
                          have c53b0 := eq_true c53
                          have c53z := c53
                          (try simp only [ByteArray.size_append, sz1l6_, sz3l6_, sz5l6_, sz7l6_] at c53z)
                          try have c53b3 := eq_false (Nat.not_lt.2 c53z)
                          have c53b1 : decide ((((⟨#[32, 45, 32]⟩ : ByteArray) ++ ((rd_T62 l0 x9_1).f8)) ++ (⟨#[32]⟩ : ByteArray)).size + t155.size ≤ 9223372036854775807) = true := decide_eq_true c53
                          try have c53b2 : (9223372036854775807 < (((⟨#[32, 45, 32]⟩ : ByteArray) ++ ((rd_T62 l0 x9_1).f8)) ++ (⟨#[32]⟩ : ByteArray)).size + t155.size) = False := eq_false (Nat.not_lt.2 c53)
                          by_cases c54 : ((((⟨#[32, 45, 32]⟩ : ByteArray) ++ ((rd_T62 l0 x9_1).f8)) ++ (⟨#[32]⟩ : ByteArray)) ++ t155).size + 1 ≤ 9223372036854775807
                          ·rw [if_pos c54] at H
                           have c54b0 := eq_true c54
                           have c54z := c54
                           (try simp only [ByteArray.size_append, sz1l6_, sz3l6_, sz5l6_, sz7l6_] at c54z)
                           try have c54b3 := eq_false (Nat.not_lt.2 c54z)
                           have c54b1 : decide (((((⟨#[32, 45, 32]⟩ : ByteArray) ++ ((rd_T62 l0 x9_1).f8)) ++ (⟨#[32]⟩ : ByteArray)) ++ t155).size + 1 ≤ 9223372036854775807) = true := decide_eq_true c54
                           try have c54b2 : (9223372036854775807 < ((((⟨#[32, 45, 32]⟩ : ByteArray) ++ ((rd_T62 l0 x9_1).f8)) ++ (⟨#[32]⟩ : ByteArray)) ++ t155).size + 1) = False := eq_false (Nat.not_lt.2 c54)
                           by_cases c55 : (((((⟨#[32, 45, 32]⟩ : ByteArray) ++ ((rd_T62 l0 x9_1).f8)) ++ (⟨#[32]⟩ : ByteArray)) ++ t155) ++ (⟨#[32]⟩ : ByteArray)).size + ((rd_T62 l0 x9_1).f10).size ≤ 9223372036854775807
                           ·rw [if_pos c55] at H
                            have c55b0 := eq_true c55
                            have c55z := c55
                            (try simp only [ByteArray.size_append, sz1l6_, sz3l6_, sz5l6_, sz7l6_] at c55z)
                            try have c55b3 := eq_false (Nat.not_lt.2 c55z)
                            have c55b1 : decide ((((((⟨#[32, 45, 32]⟩ : ByteArray) ++ ((rd_T62 l0 x9_1).f8)) ++ (⟨#[32]⟩ : ByteArray)) ++ t155) ++ (⟨#[32]⟩ : ByteArray)).size + ((rd_T62 l0 x9_1).f10).size ≤ 9223372036854775807) = true := decide_eq_true c55
                            try have c55b2 : (9223372036854775807 < (((((⟨#[32, 45, 32]⟩ : ByteArray) ++ ((rd_T62 l0 x9_1).f8)) ++ (⟨#[32]⟩ : ByteArray)) ++ t155) ++ (⟨#[32]⟩ : ByteArray)).size + ((rd_T62 l0 x9_1).f10).size) = False := eq_false (Nat.not_lt.2 c55)
                            by_cases c56 : ((((((⟨#[32, 45, 32]⟩ : ByteArray) ++ ((rd_T62 l0 x9_1).f8)) ++ (⟨#[32]⟩ : ByteArray)) ++ t155) ++ (⟨#[32]⟩ : ByteArray)) ++ ((rd_T62 l0 x9_1).f10)).size + 1 ≤ 9223372036854775807
                            ·rw [if_pos c56] at H
                             have c56b0 := eq_true c56
                             have c56z := c56
                             (try simp only [ByteArray.size_append, sz1l6_, sz3l6_, sz5l6_, sz7l6_] at c56z)
                             try have c56b3 := eq_false (Nat.not_lt.2 c56z)
                             have c56b1 : decide (((((((⟨#[32, 45, 32]⟩ : ByteArray) ++ ((rd_T62 l0 x9_1).f8)) ++ (⟨#[32]⟩ : ByteArray)) ++ t155) ++ (⟨#[32]⟩ : ByteArray)) ++ ((rd_T62 l0 x9_1).f10)).size + 1 ≤ 9223372036854775807) = true := decide_eq_true c56
                             try have c56b2 : (9223372036854775807 < ((((((⟨#[32, 45, 32]⟩ : ByteArray) ++ ((rd_T62 l0 x9_1).f8)) ++ (⟨#[32]⟩ : ByteArray)) ++ t155) ++ (⟨#[32]⟩ : ByteArray)) ++ ((rd_T62 l0 x9_1).f10)).size + 1) = False := eq_false (Nat.not_lt.2 c56)
                             by_cases c57 : ((x4_1 ++ ((((((((((((t148 ++ (⟨#[32]⟩ : ByteArray)) ++ t149) ++ (⟨#[32]⟩ : ByteArray)) ++ t150) ++ (⟨#[58]⟩ : ByteArray)) ++ t151) ++ (⟨#[32]⟩ : ByteArray)) ++ t152) ++ (⟨#[32]⟩ : ByteArray)) ++ t153) ++ (⟨#[32]⟩ : ByteArray)) ++ ((rd_T62 l0 x9_1).f6))) ++ ((⟨#[32]⟩ : ByteArray) ++ ((rd_T62 l0 x9_1).f7))).size + (((((((⟨#[32, 45, 32]⟩ : ByteArray) ++ ((rd_T62 l0 x9_1).f8)) ++ (⟨#[32]⟩ : ByteArray)) ++ t155) ++ (⟨#[32]⟩ : ByteArray)) ++ ((rd_T62 l0 x9_1).f10)) ++ (⟨#[10]⟩ : ByteArray)).size ≤ 9223372036854775807
                             ·rw [if_pos c57] at H
                              have c57b0 := eq_true c57
                              have c57z := c57
                              (try simp only [ByteArray.size_append, sz1l6_, sz3l6_, sz5l6_, sz7l6_] at c57z)
                              try have c57b3 := eq_false (Nat.not_lt.2 c57z)
                              have c57b1 : decide (((x4_1 ++ ((((((((((((t148 ++ (⟨#[32]⟩ : ByteArray)) ++ t149) ++ (⟨#[32]⟩ : ByteArray)) ++ t150) ++ (⟨#[58]⟩ : ByteArray)) ++ t151) ++ (⟨#[32]⟩ : ByteArray)) ++ t152) ++ (⟨#[32]⟩ : ByteArray)) ++ t153) ++ (⟨#[32]⟩ : ByteArray)) ++ ((rd_T62 l0 x9_1).f6))) ++ ((⟨#[32]⟩ : ByteArray) ++ ((rd_T62 l0 x9_1).f7))).size + (((((((⟨#[32, 45, 32]⟩ : ByteArray) ++ ((rd_T62 l0 x9_1).f8)) ++ (⟨#[32]⟩ : ByteArray)) ++ t155) ++ (⟨#[32]⟩ : ByteArray)) ++ ((rd_T62 l0 x9_1).f10)) ++ (⟨#[10]⟩ : ByteArray)).size ≤ 9223372036854775807) = true := decide_eq_true c57
                              try have c57b2 : (9223372036854775807 < ((x4_1 ++ ((((((((((((t148 ++ (⟨#[32]⟩ : ByteArray)) ++ t149) ++ (⟨#[32]⟩ : ByteArray)) ++ t150) ++ (⟨#[58]⟩ : ByteArray)) ++ t151) ++ (⟨#[32]⟩ : ByteArray)) ++ t152) ++ (⟨#[32]⟩ : ByteArray)) ++ t153) ++ (⟨#[32]⟩ : ByteArray)) ++ ((rd_T62 l0 x9_1).f6))) ++ ((⟨#[32]⟩ : ByteArray) ++ ((rd_T62 l0 x9_1).f7))).size + (((((((⟨#[32, 45, 32]⟩ : ByteArray) ++ ((rd_T62 l0 x9_1).f8)) ++ (⟨#[32]⟩ : ByteArray)) ++ t155) ++ (⟨#[32]⟩ : ByteArray)) ++ ((rd_T62 l0 x9_1).f10)) ++ (⟨#[10]⟩ : ByteArray)).size) = False := eq_false (Nat.not_lt.2 c57)
                              have H' := Aside0.mk H
                              clear H
                              have p145 : 0 ≤ (x9_1 : Int) := of_decide_eq_true (by first | (with_reducible assumption) | assumption)
                              have q145 : x9_1 < (l0.length : Int) := of_decide_eq_true (by first | (with_reducible assumption) | assumption)
                              obtain ⟨ad145, e145, hx145_0, hx145_1, hx145_2, hx145_3, hx145_4, hx145_5, hx145_6, hx145_7, hx145_8, hx145_9, hx145_10⟩ := at_T62 HR0.out x9_1 p145 q145
                              cases e145
                              replace hx145_0 := (HB.out.cell (World.block_lt_of_cell? w _ hx145_0)).trans hx145_0
                              replace hx145_1 := (HB.out.cell (World.block_lt_of_cell? w _ hx145_1)).trans hx145_1
                              replace hx145_2 := (HB.out.cell (World.block_lt_of_cell? w _ hx145_2)).trans hx145_2
                              replace hx145_3 := (HB.out.cell (World.block_lt_of_cell? w _ hx145_3)).trans hx145_3
                              replace hx145_4 := (HB.out.cell (World.block_lt_of_cell? w _ hx145_4)).trans hx145_4
                              replace hx145_5 := (HB.out.cell (World.block_lt_of_cell? w _ hx145_5)).trans hx145_5
                              replace hx145_6 := (HB.out.cell (World.block_lt_of_cell? w _ hx145_6)).trans hx145_6
                              replace hx145_7 := (HB.out.cell (World.block_lt_of_cell? w _ hx145_7)).trans hx145_7
                              replace hx145_8 := (HB.out.cell (World.block_lt_of_cell? w _ hx145_8)).trans hx145_8
                              replace hx145_9 := (HB.out.cell (World.block_lt_of_cell? w _ hx145_9)).trans hx145_9
                              replace hx145_10 := (HB.out.cell (World.block_lt_of_cell? w _ hx145_10)).trans hx145_10
                              replace p145 := eq_true p145
                              replace q145 := eq_true q145
                              try go_wp2_with (first | ((with_reducible refine gate_dst (N := 6) rfl ?_); refine box_event ?hg (N := 6) ?hd (cs := #[.int .i64 0, .int .i64 0, .int .i64 0, .int .i64 0, .string (⟨#[]⟩ : ByteArray), .string (⟨#[]⟩ : ByteArray), .string (⟨#[]⟩ : ByteArray), .string (⟨#[]⟩ : ByteArray), .string (⟨#[]⟩ : ByteArray), .string (⟨#[]⟩ : ByteArray), .string (⟨#[]⟩ : ByteArray)]) (t := 62) ?hr ?_; (case hd => rfl); (case hg => rfl); (case hr => first | (go_simp; done) | (go_simp; rfl)); intro gb146 hg w58 hbox hb; have n0_ := Aside0.mk (below_step belH hb); have n1_ := Aside0.mk (hbox); have n2_ := Aside0.mk ((by rw [hg]; exact (below_size belH) : w.heap.size ≤ gb146)); have n3_ := Aside0.mk ((by rw [hg]; exact (below_size belH) : w.heap.size ≤ gb146)); clear HB; have HB := n0_; have BK146 := n1_; have GW146 := n2_; have GE146 := n3_; clear n0_ n1_ n2_ n3_; clear hb hbox hg; obtain ⟨hcz59_0, hcz59_1, hcz59_2, hcz59_3, hcz59_4, hcz59_5, hcz59_6, hcz59_7, hcz59_8, hcz59_9, hcz59_10, hfz59_0, hfz59_1, hfz59_2, hfz59_3, hfz59_4, hfz59_5, hfz59_6, hfz59_7, hfz59_8, hfz59_9, hfz59_10⟩ := rows11 (w := w58) BK146) | ((with_reducible refine gate_callee (f := 31) rfl ?_); refine goesL_ (some 14) rfl rfl Tryd.func31 (by kernel_rfl) rfl #[.agg #[.int .i64 ((rd_T62 l0 x9_1).f0), .int .i64 ((rd_T62 l0 x9_1).f1), .int .i64 ((rd_T62 l0 x9_1).f2), .int .i64 ((rd_T62 l0 x9_1).f3), .string ((rd_T62 l0 x9_1).f4), .string ((rd_T62 l0 x9_1).f5), .string ((rd_T62 l0 x9_1).f6), .string ((rd_T62 l0 x9_1).f7), .string ((rd_T62 l0 x9_1).f8), .string ((rd_T62 l0 x9_1).f9), .string ((rd_T62 l0 x9_1).f10)]] rfl (by (try simp only [List.map_toArray, List.map_cons, List.map_nil]); first | done | rfl | (simp only [List.length_drop, List.length_take]; rfl)) ?_; (with_reducible refine (spec_mountValid.calls k1 ((rd_T62 l0 x9_1).f0) ((rd_T62 l0 x9_1).f1) ((rd_T62 l0 x9_1).f2) ((rd_T62 l0 x9_1).f3) ((rd_T62 l0 x9_1).f4) ((rd_T62 l0 x9_1).f5) ((rd_T62 l0 x9_1).f6) ((rd_T62 l0 x9_1).f7) ((rd_T62 l0 x9_1).f8) ((rd_T62 l0 x9_1).f9) ((rd_T62 l0 x9_1).f10) true _ A5.out).mono ?_); rintro e w60 ⟨rfl, hb⟩; refine ⟨_, rfl, ?_⟩; have n0_ := Aside0.mk (blk_below (g := gb146) (o := .cells #[.int .i64 ((rd_T62 l0 x9_1).f0), .int .i64 ((rd_T62 l0 x9_1).f1), .int .i64 ((rd_T62 l0 x9_1).f2), .int .i64 ((rd_T62 l0 x9_1).f3), .string ((rd_T62 l0 x9_1).f4), .string ((rd_T62 l0 x9_1).f5), .string ((rd_T62 l0 x9_1).f6), .string ((rd_T62 l0 x9_1).f7), .string ((rd_T62 l0 x9_1).f8), .string ((rd_T62 l0 x9_1).f9), .string ((rd_T62 l0 x9_1).f10)] 62 (0, 0)) (by refine bY ?_; refine blk_put (cs := #[.int .i64 ((rd_T62 l0 x9_1).f0), .int .i64 ((rd_T62 l0 x9_1).f1), .int .i64 ((rd_T62 l0 x9_1).f2), .int .i64 ((rd_T62 l0 x9_1).f3), .string ((rd_T62 l0 x9_1).f4), .string ((rd_T62 l0 x9_1).f5), .string ((rd_T62 l0 x9_1).f6), .string ((rd_T62 l0 x9_1).f7), .string ((rd_T62 l0 x9_1).f8), .string ((rd_T62 l0 x9_1).f9), .string (⟨#[]⟩ : ByteArray)]) ?_ 10 _ rfl; refine bY ?_; refine blk_put (cs := #[.int .i64 ((rd_T62 l0 x9_1).f0), .int .i64 ((rd_T62 l0 x9_1).f1), .int .i64 ((rd_T62 l0 x9_1).f2), .int .i64 ((rd_T62 l0 x9_1).f3), .string ((rd_T62 l0 x9_1).f4), .string ((rd_T62 l0 x9_1).f5), .string ((rd_T62 l0 x9_1).f6), .string ((rd_T62 l0 x9_1).f7), .string ((rd_T62 l0 x9_1).f8), .string (⟨#[]⟩ : ByteArray), .string (⟨#[]⟩ : ByteArray)]) ?_ 9 _ rfl; refine bY ?_; refine blk_put (cs := #[.int .i64 ((rd_T62 l0 x9_1).f0), .int .i64 ((rd_T62 l0 x9_1).f1), .int .i64 ((rd_T62 l0 x9_1).f2), .int .i64 ((rd_T62 l0 x9_1).f3), .string ((rd_T62 l0 x9_1).f4), .string ((rd_T62 l0 x9_1).f5), .string ((rd_T62 l0 x9_1).f6), .string ((rd_T62 l0 x9_1).f7), .string (⟨#[]⟩ : ByteArray), .string (⟨#[]⟩ : ByteArray), .string (⟨#[]⟩ : ByteArray)]) ?_ 8 _ rfl; refine bY ?_; refine blk_put (cs := #[.int .i64 ((rd_T62 l0 x9_1).f0), .int .i64 ((rd_T62 l0 x9_1).f1), .int .i64 ((rd_T62 l0 x9_1).f2), .int .i64 ((rd_T62 l0 x9_1).f3), .string ((rd_T62 l0 x9_1).f4), .string ((rd_T62 l0 x9_1).f5), .string ((rd_T62 l0 x9_1).f6), .string (⟨#[]⟩ : ByteArray), .string (⟨#[]⟩ : ByteArray), .string (⟨#[]⟩ : ByteArray), .string (⟨#[]⟩ : ByteArray)]) ?_ 7 _ rfl; refine bY ?_; refine blk_put (cs := #[.int .i64 ((rd_T62 l0 x9_1).f0), .int .i64 ((rd_T62 l0 x9_1).f1), .int .i64 ((rd_T62 l0 x9_1).f2), .int .i64 ((rd_T62 l0 x9_1).f3), .string ((rd_T62 l0 x9_1).f4), .string ((rd_T62 l0 x9_1).f5), .string (⟨#[]⟩ : ByteArray), .string (⟨#[]⟩ : ByteArray), .string (⟨#[]⟩ : ByteArray), .string (⟨#[]⟩ : ByteArray), .string (⟨#[]⟩ : ByteArray)]) ?_ 6 _ rfl; refine bY ?_; refine blk_put (cs := #[.int .i64 ((rd_T62 l0 x9_1).f0), .int .i64 ((rd_T62 l0 x9_1).f1), .int .i64 ((rd_T62 l0 x9_1).f2), .int .i64 ((rd_T62 l0 x9_1).f3), .string ((rd_T62 l0 x9_1).f4), .string (⟨#[]⟩ : ByteArray), .string (⟨#[]⟩ : ByteArray), .string (⟨#[]⟩ : ByteArray), .string (⟨#[]⟩ : ByteArray), .string (⟨#[]⟩ : ByteArray), .string (⟨#[]⟩ : ByteArray)]) ?_ 5 _ rfl; refine bY ?_; refine blk_put (cs := #[.int .i64 ((rd_T62 l0 x9_1).f0), .int .i64 ((rd_T62 l0 x9_1).f1), .int .i64 ((rd_T62 l0 x9_1).f2), .int .i64 ((rd_T62 l0 x9_1).f3), .string (⟨#[]⟩ : ByteArray), .string (⟨#[]⟩ : ByteArray), .string (⟨#[]⟩ : ByteArray), .string (⟨#[]⟩ : ByteArray), .string (⟨#[]⟩ : ByteArray), .string (⟨#[]⟩ : ByteArray), .string (⟨#[]⟩ : ByteArray)]) ?_ 4 _ rfl; refine bY ?_; refine blk_put (cs := #[.int .i64 ((rd_T62 l0 x9_1).f0), .int .i64 ((rd_T62 l0 x9_1).f1), .int .i64 ((rd_T62 l0 x9_1).f2), .int .i64 0, .string (⟨#[]⟩ : ByteArray), .string (⟨#[]⟩ : ByteArray), .string (⟨#[]⟩ : ByteArray), .string (⟨#[]⟩ : ByteArray), .string (⟨#[]⟩ : ByteArray), .string (⟨#[]⟩ : ByteArray), .string (⟨#[]⟩ : ByteArray)]) ?_ 3 _ rfl; refine bY ?_; refine blk_put (cs := #[.int .i64 ((rd_T62 l0 x9_1).f0), .int .i64 ((rd_T62 l0 x9_1).f1), .int .i64 0, .int .i64 0, .string (⟨#[]⟩ : ByteArray), .string (⟨#[]⟩ : ByteArray), .string (⟨#[]⟩ : ByteArray), .string (⟨#[]⟩ : ByteArray), .string (⟨#[]⟩ : ByteArray), .string (⟨#[]⟩ : ByteArray), .string (⟨#[]⟩ : ByteArray)]) ?_ 2 _ rfl; refine bY ?_; refine blk_put (cs := #[.int .i64 ((rd_T62 l0 x9_1).f0), .int .i64 0, .int .i64 0, .int .i64 0, .string (⟨#[]⟩ : ByteArray), .string (⟨#[]⟩ : ByteArray), .string (⟨#[]⟩ : ByteArray), .string (⟨#[]⟩ : ByteArray), .string (⟨#[]⟩ : ByteArray), .string (⟨#[]⟩ : ByteArray), .string (⟨#[]⟩ : ByteArray)]) ?_ 1 _ rfl; refine bY ?_; refine blk_put (cs := #[.int .i64 0, .int .i64 0, .int .i64 0, .int .i64 0, .string (⟨#[]⟩ : ByteArray), .string (⟨#[]⟩ : ByteArray), .string (⟨#[]⟩ : ByteArray), .string (⟨#[]⟩ : ByteArray), .string (⟨#[]⟩ : ByteArray), .string (⟨#[]⟩ : ByteArray), .string (⟨#[]⟩ : ByteArray)]) ?_ 0 _ rfl; refine bY ?_; exact BK146.out) hb); have n1_ := Aside0.mk (below_step belS hb); clear BK146; clear HB; have BK146 := n0_; have HB := n1_; clear n0_ n1_; (try clear hb); (try clear hb2); (try clear hk); (try clear hi)))
                              have n0_ := Aside0.mk (blk_drew BK146.out)
                              have n1_ := Aside0.mk (below_drew1 HB.out)
                              clear BK146
                              clear HB
                              have BK146 := n0_
                              have HB := n1_
                              clear n0_ n1_
                              refine start_ (n := 35) (S := fun w' => w'.cell? ⟨gb146, 0, none⟩ = some (.int .i64 ((rd_T62 l0 x9_1).f0)) ∧ w'.cell? ⟨gb146, 1, none⟩ = some (.int .i64 ((rd_T62 l0 x9_1).f1)) ∧ w'.cell? ⟨gb146, 2, none⟩ = some (.int .i64 ((rd_T62 l0 x9_1).f2)) ∧ w'.cell? ⟨gb146, 3, none⟩ = some (.int .i64 ((rd_T62 l0 x9_1).f3)) ∧ w'.cell? ⟨gb146, 4, none⟩ = some (.string ((rd_T62 l0 x9_1).f4)) ∧ w'.cell? ⟨gb146, 5, none⟩ = some (.string ((rd_T62 l0 x9_1).f5)) ∧ w'.cell? ⟨gb146, 6, none⟩ = some (.string ((rd_T62 l0 x9_1).f6)) ∧ w'.cell? ⟨gb146, 7, none⟩ = some (.string ((rd_T62 l0 x9_1).f7)) ∧ w'.cell? ⟨gb146, 8, none⟩ = some (.string ((rd_T62 l0 x9_1).f8)) ∧ w'.cell? ⟨gb146, 9, none⟩ = some (.string ((rd_T62 l0 x9_1).f9)) ∧ w'.cell? ⟨gb146, 10, none⟩ = some (.string ((rd_T62 l0 x9_1).f10))) (ds := []) (tfA 0 35) (by kernel_rfl) rfl rfl ⟨(blk_cell BK146.out 0).trans rfl, (blk_cell BK146.out 1).trans rfl, (blk_cell BK146.out 2).trans rfl, (blk_cell BK146.out 3).trans rfl, (blk_cell BK146.out 4).trans rfl, (blk_cell BK146.out 5).trans rfl, (blk_cell BK146.out 6).trans rfl, (blk_cell BK146.out 7).trans rfl, (blk_cell BK146.out 8).trans rfl, (blk_cell BK146.out 9).trans rfl, (blk_cell BK146.out 10).trans rfl⟩ (fun hHeld => ?_); refine with_tabW spec_MountsPrint.tab7 spec_MountsPrint.bits7 (fun HT_ HW_ => ?_)
                              generalize w60.drew = w61 at BK146 HB hHeld ⊢
                              refine pure_ (i := 0) (N := some 16) (v := ?_) (a' := ?_) (tfA 1 34) rfl rfl (any_of HT_.out (by kernel_rfl)) (fun _ _ _ h => h) (Or.inl ⟨by rfl, ?_⟩) ?_ ?_
                              rotate_left
                              ·intro w'
                               go_simp
                               first | with_reducible rfl | (rw [if_neg (by omega)])
                              rotate_left
                              ·simp only [Act.put, sA, s0, s1, i64_w, i32_w]
                               rfl
                              refine pure_ (i := 1) (N := some 17) (v := ?_) (a' := ?_) (tfA 2 33) rfl rfl (any_of HT_.out (by kernel_rfl)) (fun _ _ _ h => h) (Or.inl ⟨by rfl, ?_⟩) ?_ ?_
                              rotate_left
                              ·intro w'
                               go_simp
                               first | with_reducible rfl | (rw [if_neg (by omega)])
                              rotate_left
                              ·simp only [Act.put, sA, s0, s1, i64_w, i32_w]
                               rfl
                              refine pure_ (i := 5) (N := some 21) (v := ?_) (a' := ?_) (bnA 35 35) rfl rfl (any_of HT_.out (by kernel_rfl)) (fun _ _ _ h => h) (Or.inl ⟨by rfl, ?_⟩) ?_ ?_
                              rotate_left
                              ·intro w'
                               go_simp
                               first | with_reducible rfl | (rw [if_neg (by omega)])
                              rotate_left
                              ·simp only [Act.put, sA, s0, s1, i64_w, i32_w]
                               rfl
                              refine pure_ (i := 10) (N := some 26) (v := ?_) (a' := ?_) (bnA 35 1059) rfl rfl (any_of HT_.out (by kernel_rfl)) (fun _ _ _ h => h) (Or.inl ⟨by rfl, ?_⟩) ?_ ?_
                              rotate_left
                              ·intro w'
                               go_simp
                               first | with_reducible rfl | (rw [if_neg (by omega)])
                              rotate_left
                              ·simp only [Act.put, sA, s0, s1, i64_w, i32_w]
                               rfl
                              refine pure_ (i := 15) (N := some 31) (v := ?_) (a' := ?_) (bnA 35 33827) rfl rfl (any_of HT_.out (by kernel_rfl)) (fun _ _ _ h => h) (Or.inl ⟨by rfl, ?_⟩) ?_ ?_
                              rotate_left
                              ·intro w'
                               go_simp
                               first | with_reducible rfl | (rw [if_neg (by omega)])
                              rotate_left
                              ·simp only [Act.put, sA, s0, s1, i64_w, i32_w]
                               rfl
                              refine pure_ (i := 20) (N := some 36) (v := ?_) (a' := ?_) (bnA 35 1082403) rfl rfl (any_of HT_.out (by kernel_rfl)) (fun _ _ _ h => h) (Or.inl ⟨by rfl, ?_⟩) ?_ ?_
                              rotate_left
                              ·intro w'
                               go_simp
                               first | with_reducible rfl | (rw [if_neg (by omega)])
                              rotate_left
                              ·simp only [Act.put, sA, s0, s1, i64_w, i32_w]
                               rfl
                              refine pure_ (i := 25) (N := some 41) (v := ?_) (a' := ?_) (bnA 35 34636835) rfl rfl (any_of HT_.out (by kernel_rfl)) (fun _ _ _ h => h) (Or.inl ⟨by rfl, ?_⟩) ?_ ?_
                              rotate_left
                              ·intro w'
                               go_simp
                               first | with_reducible rfl | (rw [if_neg (by omega)])
                              rotate_left
                              ·simp only [Act.put, sA, s0, s1, i64_w, i32_w]
                               rfl
                              refine pure_ (i := 30) (N := some 46) (v := ?_) (a' := ?_) (bnA 35 1108378659) rfl rfl (any_of HT_.out (by kernel_rfl)) (fun _ _ _ h => h) (Or.inl ⟨by rfl, ?_⟩) ?_ ?_
                              rotate_left
                              ·intro w'
                               go_simp
                               first | with_reducible rfl | (rw [if_neg (by omega)])
                              rotate_left
                              ·simp only [Act.put, sA, s0, s1, i64_w, i32_w]
                               rfl
                              refine take_ (i := 2) (N := some 18) (v := ?_) (a' := ?_) (bnA 35 1108378663) rfl rfl (take_ofW HT_.out HW_.out (by kernel_rfl)) (fun _ _ _ h => h) (Or.inl ⟨by rfl, ?_⟩) hHeld ?_ ?_
                              rotate_left
                              ·rintro w' ⟨s0, s1, s2, s3, s4, s5, s6, s7, s8, s9, s10⟩
                               go_simp
                               first | with_reducible rfl | (rw [if_neg (by omega)])
                              rotate_left
                              ·simp only [Act.put, sA, s0, s1, i64_w, i32_w]
                               rfl
                              refine take_ (i := 6) (N := some 22) (v := ?_) (a' := ?_) (bnA 35 1108378727) rfl rfl (take_ofW HT_.out HW_.out (by kernel_rfl)) (fun _ _ _ h => h) (Or.inl ⟨by rfl, ?_⟩) hHeld ?_ ?_
                              rotate_left
                              ·rintro w' ⟨s0, s1, s2, s3, s4, s5, s6, s7, s8, s9, s10⟩
                               go_simp
                               first | with_reducible rfl | (rw [if_neg (by omega)])
                              rotate_left
                              ·simp only [Act.put, sA, s0, s1, i64_w, i32_w]
                               rfl
                              refine take_ (i := 11) (N := some 27) (v := ?_) (a' := ?_) (bnA 35 1108380775) rfl rfl (take_ofW HT_.out HW_.out (by kernel_rfl)) (fun _ _ _ h => h) (Or.inl ⟨by rfl, ?_⟩) hHeld ?_ ?_
                              rotate_left
                              ·rintro w' ⟨s0, s1, s2, s3, s4, s5, s6, s7, s8, s9, s10⟩
                               go_simp
                               first | with_reducible rfl | (rw [if_neg (by omega)])
                              rotate_left
                              ·simp only [Act.put, sA, s0, s1, i64_w, i32_w]
                               rfl
                              refine take_ (i := 16) (N := some 32) (v := ?_) (a' := ?_) (bnA 35 1108446311) rfl rfl (take_ofW HT_.out HW_.out (by kernel_rfl)) (fun _ _ _ h => h) (Or.inl ⟨by rfl, ?_⟩) hHeld ?_ ?_
                              rotate_left
                              ·rintro w' ⟨s0, s1, s2, s3, s4, s5, s6, s7, s8, s9, s10⟩
                               go_simp
                               first | with_reducible rfl | (rw [if_neg (by omega)])
                              rotate_left
                              ·simp only [Act.put, sA, s0, s1, i64_w, i32_w]
                               rfl
                              refine take_ (i := 21) (N := some 37) (v := ?_) (a' := ?_) (bnA 35 1110543463) rfl rfl (take_ofW HT_.out HW_.out (by kernel_rfl)) (fun _ _ _ h => h) (Or.inl ⟨by rfl, ?_⟩) hHeld ?_ ?_
                              rotate_left
                              ·rintro w' ⟨s0, s1, s2, s3, s4, s5, s6, s7, s8, s9, s10⟩
                               go_simp
                               first | with_reducible rfl | (rw [if_neg (by omega)])
                              rotate_left
                              ·simp only [Act.put, sA, s0, s1, i64_w, i32_w]
                               rfl
                              refine take_ (i := 26) (N := some 42) (v := ?_) (a' := ?_) (bnA 35 1177652327) rfl rfl (take_ofW HT_.out HW_.out (by kernel_rfl)) (fun _ _ _ h => h) (Or.inl ⟨by rfl, ?_⟩) hHeld ?_ ?_
                              rotate_left
                              ·rintro w' ⟨s0, s1, s2, s3, s4, s5, s6, s7, s8, s9, s10⟩
                               go_simp
                               first | with_reducible rfl | (rw [if_neg (by omega)])
                              rotate_left
                              ·simp only [Act.put, sA, s0, s1, i64_w, i32_w]
                               rfl
                              refine take_ (i := 31) (N := some 47) (v := ?_) (a' := ?_) (bnA 35 3325135975) rfl rfl (take_ofW HT_.out HW_.out (by kernel_rfl)) (fun _ _ _ h => h) (Or.inl ⟨by rfl, ?_⟩) hHeld ?_ ?_
                              rotate_left
                              ·rintro w' ⟨s0, s1, s2, s3, s4, s5, s6, s7, s8, s9, s10⟩
                               go_simp
                               first | with_reducible rfl | (rw [if_neg (by omega)])
                              rotate_left
                              ·simp only [Act.put, sA, s0, s1, i64_w, i32_w]
                               rfl
                              refine one_ (i := 3) (N := some 19) (bnA 35 3325135983) rfl rfl (one_of HT_.out (by kernel_rfl)) (by decide) (fun K hK => ?_)
                              refine goes_ Tryd.func32 (by kernel_rfl) rfl #[.int .i64 ((rd_T62 l0 x9_1).f0)] (by rfl) rfl rfl (by (try simp only [List.map_toArray, List.map_cons, List.map_nil]); first | done | rfl | (simp only [List.length_drop, List.length_take]; rfl)) ?_
                              with_reducible refine (spec_natural.calls k1 ((rd_T62 l0 x9_1).f0) t148 _ A7.out).mono ?_
                              rintro e w62 ⟨rfl, hb⟩
                              refine ⟨_, rfl, ?_⟩
                              have n0_ := Aside0.mk (blk_below (g := gb146) (o := .cells #[.int .i64 ((rd_T62 l0 x9_1).f0), .int .i64 ((rd_T62 l0 x9_1).f1), .int .i64 ((rd_T62 l0 x9_1).f2), .int .i64 ((rd_T62 l0 x9_1).f3), .string ((rd_T62 l0 x9_1).f4), .string ((rd_T62 l0 x9_1).f5), .string ((rd_T62 l0 x9_1).f6), .string ((rd_T62 l0 x9_1).f7), .string ((rd_T62 l0 x9_1).f8), .string ((rd_T62 l0 x9_1).f9), .string ((rd_T62 l0 x9_1).f10)] 62 (0, 0)) (by refine bY ?_; exact BK146.out) hb)
                              have n1_ := Aside0.mk (below_step belS hb)
                              clear BK146
                              clear HB
                              have BK146 := n0_
                              have HB := n1_
                              clear n0_ n1_
                              (try clear hb)
                              (try clear hb2)
                              (try clear hk)
                              (try clear hi)
                              refine hK.out _ _ ⟨(blk_cell BK146.out 0).trans rfl, (blk_cell BK146.out 1).trans rfl, (blk_cell BK146.out 2).trans rfl, (blk_cell BK146.out 3).trans rfl, (blk_cell BK146.out 4).trans rfl, (blk_cell BK146.out 5).trans rfl, (blk_cell BK146.out 6).trans rfl, (blk_cell BK146.out 7).trans rfl, (blk_cell BK146.out 8).trans rfl, (blk_cell BK146.out 9).trans rfl, (blk_cell BK146.out 10).trans rfl⟩ (fun hHeld => ?_)
                              clear hK K
                              refine norm_ (a' := ?_) ?_ ?_
                              rotate_left
                              ·show Act.put _ (some 19) _ = _
                               simp only [Act.put, sA, s0, s1, i64_w, i32_w]
                               rfl
                              refine pure_ (i := 4) (N := some 20) (v := ?_) (a' := ?_) (bnA 35 3325135999) rfl rfl (any_of HT_.out (by kernel_rfl)) (fun _ _ _ h => h) (Or.inl ⟨by rfl, ?_⟩) ?_ ?_
                              rotate_left
                              ·intro w'
                               go_simp
                               first | with_reducible rfl | (rw [if_neg (by omega)])
                              rotate_left
                              ·simp only [Act.put, sA, s0, s1, i64_w, i32_w]
                               rfl
                              refine one_ (i := 7) (N := some 23) (bnA 35 3325136127) rfl rfl (one_of HT_.out (by kernel_rfl)) (by decide) (fun K hK => ?_)
                              refine goes_ Tryd.func32 (by kernel_rfl) rfl #[.int .i64 ((rd_T62 l0 x9_1).f1)] (by rfl) rfl rfl (by (try simp only [List.map_toArray, List.map_cons, List.map_nil]); first | done | rfl | (simp only [List.length_drop, List.length_take]; rfl)) ?_
                              with_reducible refine (spec_natural.calls k1 ((rd_T62 l0 x9_1).f1) t149 _ A9.out).mono ?_
                              rintro e w63 ⟨rfl, hb⟩
                              refine ⟨_, rfl, ?_⟩
                              have n0_ := Aside0.mk (blk_below (g := gb146) (o := .cells #[.int .i64 ((rd_T62 l0 x9_1).f0), .int .i64 ((rd_T62 l0 x9_1).f1), .int .i64 ((rd_T62 l0 x9_1).f2), .int .i64 ((rd_T62 l0 x9_1).f3), .string ((rd_T62 l0 x9_1).f4), .string ((rd_T62 l0 x9_1).f5), .string ((rd_T62 l0 x9_1).f6), .string ((rd_T62 l0 x9_1).f7), .string ((rd_T62 l0 x9_1).f8), .string ((rd_T62 l0 x9_1).f9), .string ((rd_T62 l0 x9_1).f10)] 62 (0, 0)) (by refine bY ?_; exact BK146.out) hb)
                              have n1_ := Aside0.mk (below_step belS hb)
                              clear BK146
                              clear HB
                              have BK146 := n0_
                              have HB := n1_
                              clear n0_ n1_
                              (try clear hb)
                              (try clear hb2)
                              (try clear hk)
                              (try clear hi)
                              refine hK.out _ _ ⟨(blk_cell BK146.out 0).trans rfl, (blk_cell BK146.out 1).trans rfl, (blk_cell BK146.out 2).trans rfl, (blk_cell BK146.out 3).trans rfl, (blk_cell BK146.out 4).trans rfl, (blk_cell BK146.out 5).trans rfl, (blk_cell BK146.out 6).trans rfl, (blk_cell BK146.out 7).trans rfl, (blk_cell BK146.out 8).trans rfl, (blk_cell BK146.out 9).trans rfl, (blk_cell BK146.out 10).trans rfl⟩ (fun hHeld => ?_)
                              clear hK K
                              refine norm_ (a' := ?_) ?_ ?_
                              rotate_left
                              ·show Act.put _ (some 23) _ = _
                               simp only [Act.put, sA, s0, s1, i64_w, i32_w]
                               rfl
                              refine pure_ (i := 8) (N := some 24) (v := ?_) (a' := ?_) (bnA 35 3325136383) rfl rfl (any_of HT_.out (by kernel_rfl)) (fun _ _ _ h => h) (Or.inl ⟨by rfl, ?_⟩) ?_ ?_
                              rotate_left
                              ·intro w'
                               go_simp
                               first | with_reducible rfl | (rw [if_neg (by omega)])
                              rotate_left
                              ·simp only [Act.put, sA, s0, s1, i64_w, i32_w]
                               rfl
                              refine pure_ (i := 9) (N := some 25) (v := ?_) (a' := ?_) (bnA 35 3325136895) rfl rfl (any_of HT_.out (by kernel_rfl)) (fun _ _ _ h => h) (Or.inl ⟨by rfl, ?_⟩) ?_ ?_
                              rotate_left
                              ·intro w'
                               go_simp
                               first | with_reducible rfl | (rw [if_neg (by omega)])
                              rotate_left
                              ·simp only [Act.put, sA, s0, s1, i64_w, i32_w]
                               rfl
                              refine one_ (i := 12) (N := some 28) (bnA 35 3325140991) rfl rfl (one_of HT_.out (by kernel_rfl)) (by decide) (fun K hK => ?_)
                              refine goes_ Tryd.func32 (by kernel_rfl) rfl #[.int .i64 ((rd_T62 l0 x9_1).f2)] (by rfl) rfl rfl (by (try simp only [List.map_toArray, List.map_cons, List.map_nil]); first | done | rfl | (simp only [List.length_drop, List.length_take]; rfl)) ?_
                              with_reducible refine (spec_natural.calls k1 ((rd_T62 l0 x9_1).f2) t150 _ A12.out).mono ?_
                              rintro e w64 ⟨rfl, hb⟩
                              refine ⟨_, rfl, ?_⟩
                              have n0_ := Aside0.mk (blk_below (g := gb146) (o := .cells #[.int .i64 ((rd_T62 l0 x9_1).f0), .int .i64 ((rd_T62 l0 x9_1).f1), .int .i64 ((rd_T62 l0 x9_1).f2), .int .i64 ((rd_T62 l0 x9_1).f3), .string ((rd_T62 l0 x9_1).f4), .string ((rd_T62 l0 x9_1).f5), .string ((rd_T62 l0 x9_1).f6), .string ((rd_T62 l0 x9_1).f7), .string ((rd_T62 l0 x9_1).f8), .string ((rd_T62 l0 x9_1).f9), .string ((rd_T62 l0 x9_1).f10)] 62 (0, 0)) (by refine bY ?_; exact BK146.out) hb)
                              have n1_ := Aside0.mk (below_step belS hb)
                              clear BK146
                              clear HB
                              have BK146 := n0_
                              have HB := n1_
                              clear n0_ n1_
                              (try clear hb)
                              (try clear hb2)
                              (try clear hk)
                              (try clear hi)
                              refine hK.out _ _ ⟨(blk_cell BK146.out 0).trans rfl, (blk_cell BK146.out 1).trans rfl, (blk_cell BK146.out 2).trans rfl, (blk_cell BK146.out 3).trans rfl, (blk_cell BK146.out 4).trans rfl, (blk_cell BK146.out 5).trans rfl, (blk_cell BK146.out 6).trans rfl, (blk_cell BK146.out 7).trans rfl, (blk_cell BK146.out 8).trans rfl, (blk_cell BK146.out 9).trans rfl, (blk_cell BK146.out 10).trans rfl⟩ (fun hHeld => ?_)
                              clear hK K
                              refine norm_ (a' := ?_) ?_ ?_
                              rotate_left
                              ·show Act.put _ (some 28) _ = _
                               simp only [Act.put, sA, s0, s1, i64_w, i32_w]
                               rfl
                              refine pure_ (i := 13) (N := some 29) (v := ?_) (a' := ?_) (bnA 35 3325149183) rfl rfl (any_of HT_.out (by kernel_rfl)) (fun _ _ _ h => h) (Or.inl ⟨by rfl, ?_⟩) ?_ ?_
                              rotate_left
                              ·intro w'
                               go_simp
                               first | with_reducible rfl | (rw [if_neg (by omega)])
                              rotate_left
                              ·simp only [Act.put, sA, s0, s1, i64_w, i32_w]
                               rfl
                              refine pure_ (i := 14) (N := some 30) (v := ?_) (a' := ?_) (bnA 35 3325165567) rfl rfl (any_of HT_.out (by kernel_rfl)) (fun _ _ _ h => h) (Or.inl ⟨by rfl, ?_⟩) ?_ ?_
                              rotate_left
                              ·intro w'
                               go_simp
                               first | with_reducible rfl | (rw [if_neg (by omega)])
                              rotate_left
                              ·simp only [Act.put, sA, s0, s1, i64_w, i32_w]
                               rfl
                              refine one_ (i := 17) (N := some 33) (bnA 35 3325296639) rfl rfl (one_of HT_.out (by kernel_rfl)) (by decide) (fun K hK => ?_)
                              refine goes_ Tryd.func32 (by kernel_rfl) rfl #[.int .i64 ((rd_T62 l0 x9_1).f3)] (by rfl) rfl rfl (by (try simp only [List.map_toArray, List.map_cons, List.map_nil]); first | done | rfl | (simp only [List.length_drop, List.length_take]; rfl)) ?_
                              with_reducible refine (spec_natural.calls k1 ((rd_T62 l0 x9_1).f3) t151 _ A15.out).mono ?_
                              rintro e w65 ⟨rfl, hb⟩
                              refine ⟨_, rfl, ?_⟩
                              have n0_ := Aside0.mk (blk_below (g := gb146) (o := .cells #[.int .i64 ((rd_T62 l0 x9_1).f0), .int .i64 ((rd_T62 l0 x9_1).f1), .int .i64 ((rd_T62 l0 x9_1).f2), .int .i64 ((rd_T62 l0 x9_1).f3), .string ((rd_T62 l0 x9_1).f4), .string ((rd_T62 l0 x9_1).f5), .string ((rd_T62 l0 x9_1).f6), .string ((rd_T62 l0 x9_1).f7), .string ((rd_T62 l0 x9_1).f8), .string ((rd_T62 l0 x9_1).f9), .string ((rd_T62 l0 x9_1).f10)] 62 (0, 0)) (by refine bY ?_; exact BK146.out) hb)
                              have n1_ := Aside0.mk (below_step belS hb)
                              clear BK146
                              clear HB
                              have BK146 := n0_
                              have HB := n1_
                              clear n0_ n1_
                              (try clear hb)
                              (try clear hb2)
                              (try clear hk)
                              (try clear hi)
                              refine hK.out _ _ ⟨(blk_cell BK146.out 0).trans rfl, (blk_cell BK146.out 1).trans rfl, (blk_cell BK146.out 2).trans rfl, (blk_cell BK146.out 3).trans rfl, (blk_cell BK146.out 4).trans rfl, (blk_cell BK146.out 5).trans rfl, (blk_cell BK146.out 6).trans rfl, (blk_cell BK146.out 7).trans rfl, (blk_cell BK146.out 8).trans rfl, (blk_cell BK146.out 9).trans rfl, (blk_cell BK146.out 10).trans rfl⟩ (fun hHeld => ?_)
                              clear hK K
                              refine norm_ (a' := ?_) ?_ ?_
                              rotate_left
                              ·show Act.put _ (some 33) _ = _
                               simp only [Act.put, sA, s0, s1, i64_w, i32_w]
                               rfl
                              refine pure_ (i := 18) (N := some 34) (v := ?_) (a' := ?_) (bnA 35 3325558783) rfl rfl (any_of HT_.out (by kernel_rfl)) (fun _ _ _ h => h) (Or.inl ⟨by rfl, ?_⟩) ?_ ?_
                              rotate_left
                              ·intro w'
                               go_simp
                               first | with_reducible rfl | (rw [if_neg (by omega)])
                              rotate_left
                              ·simp only [Act.put, sA, s0, s1, i64_w, i32_w]
                               rfl
                              refine pure_ (i := 19) (N := some 35) (v := ?_) (a' := ?_) (bnA 35 3326083071) rfl rfl (any_of HT_.out (by kernel_rfl)) (fun _ _ _ h => h) (Or.inl ⟨by rfl, ?_⟩) ?_ ?_
                              rotate_left
                              ·intro w'
                               go_simp
                               first | with_reducible rfl | (rw [if_neg (by omega)])
                              rotate_left
                              ·simp only [Act.put, sA, s0, s1, i64_w, i32_w]
                               rfl
                              refine one_ (i := 22) (N := some 38) (bnA 35 3330277375) rfl rfl (one_of HT_.out (by kernel_rfl)) (by decide) (fun K hK => ?_)
                              refine goes_ Tryd.func33 (by kernel_rfl) rfl #[.string ((rd_T62 l0 x9_1).f4)] (by rfl) rfl rfl (by (try simp only [List.map_toArray, List.map_cons, List.map_nil]); first | done | rfl | (simp only [List.length_drop, List.length_take]; rfl)) ?_
                              with_reducible refine (spec_octal.calls k1 ((rd_T62 l0 x9_1).f4) t152 _ A18.out).mono ?_
                              rintro e w66 ⟨rfl, hb⟩
                              refine ⟨_, rfl, ?_⟩
                              have n0_ := Aside0.mk (blk_below (g := gb146) (o := .cells #[.int .i64 ((rd_T62 l0 x9_1).f0), .int .i64 ((rd_T62 l0 x9_1).f1), .int .i64 ((rd_T62 l0 x9_1).f2), .int .i64 ((rd_T62 l0 x9_1).f3), .string ((rd_T62 l0 x9_1).f4), .string ((rd_T62 l0 x9_1).f5), .string ((rd_T62 l0 x9_1).f6), .string ((rd_T62 l0 x9_1).f7), .string ((rd_T62 l0 x9_1).f8), .string ((rd_T62 l0 x9_1).f9), .string ((rd_T62 l0 x9_1).f10)] 62 (0, 0)) (by refine bY ?_; exact BK146.out) hb)
                              have n1_ := Aside0.mk (below_step belS hb)
                              clear BK146
                              clear HB
                              have BK146 := n0_
                              have HB := n1_
                              clear n0_ n1_
                              (try clear hb)
                              (try clear hb2)
                              (try clear hk)
                              (try clear hi)
                              refine hK.out _ _ ⟨(blk_cell BK146.out 0).trans rfl, (blk_cell BK146.out 1).trans rfl, (blk_cell BK146.out 2).trans rfl, (blk_cell BK146.out 3).trans rfl, (blk_cell BK146.out 4).trans rfl, (blk_cell BK146.out 5).trans rfl, (blk_cell BK146.out 6).trans rfl, (blk_cell BK146.out 7).trans rfl, (blk_cell BK146.out 8).trans rfl, (blk_cell BK146.out 9).trans rfl, (blk_cell BK146.out 10).trans rfl⟩ (fun hHeld => ?_)
                              clear hK K
                              refine norm_ (a' := ?_) ?_ ?_
                              rotate_left
                              ·show Act.put _ (some 38) _ = _
                               simp only [Act.put, sA, s0, s1, i64_w, i32_w]
                               rfl
                              refine pure_ (i := 23) (N := some 39) (v := ?_) (a' := ?_) (bnA 35 3338665983) rfl rfl (any_of HT_.out (by kernel_rfl)) (fun _ _ _ h => h) (Or.inl ⟨by rfl, ?_⟩) ?_ ?_
                              rotate_left
                              ·intro w'
                               go_simp
                               first | with_reducible rfl | (rw [if_neg (by omega)])
                              rotate_left
                              ·simp only [Act.put, sA, s0, s1, i64_w, i32_w]
                               rfl
                              refine pure_ (i := 24) (N := some 40) (v := ?_) (a' := ?_) (bnA 35 3355443199) rfl rfl (any_of HT_.out (by kernel_rfl)) (fun _ _ _ h => h) (Or.inl ⟨by rfl, ?_⟩) ?_ ?_
                              rotate_left
                              ·intro w'
                               go_simp
                               first | with_reducible rfl | (rw [if_neg (by omega)])
                              rotate_left
                              ·simp only [Act.put, sA, s0, s1, i64_w, i32_w]
                               rfl
                              refine one_ (i := 27) (N := some 43) (bnA 35 3489660927) rfl rfl (one_of HT_.out (by kernel_rfl)) (by decide) (fun K hK => ?_)
                              refine goes_ Tryd.func33 (by kernel_rfl) rfl #[.string ((rd_T62 l0 x9_1).f5)] (by rfl) rfl rfl (by (try simp only [List.map_toArray, List.map_cons, List.map_nil]); first | done | rfl | (simp only [List.length_drop, List.length_take]; rfl)) ?_
                              with_reducible refine (spec_octal.calls k1 ((rd_T62 l0 x9_1).f5) t153 _ A21.out).mono ?_
                              rintro e w67 ⟨rfl, hb⟩
                              refine ⟨_, rfl, ?_⟩
                              have n0_ := Aside0.mk (blk_below (g := gb146) (o := .cells #[.int .i64 ((rd_T62 l0 x9_1).f0), .int .i64 ((rd_T62 l0 x9_1).f1), .int .i64 ((rd_T62 l0 x9_1).f2), .int .i64 ((rd_T62 l0 x9_1).f3), .string ((rd_T62 l0 x9_1).f4), .string ((rd_T62 l0 x9_1).f5), .string ((rd_T62 l0 x9_1).f6), .string ((rd_T62 l0 x9_1).f7), .string ((rd_T62 l0 x9_1).f8), .string ((rd_T62 l0 x9_1).f9), .string ((rd_T62 l0 x9_1).f10)] 62 (0, 0)) (by refine bY ?_; exact BK146.out) hb)
                              have n1_ := Aside0.mk (below_step belS hb)
                              clear BK146
                              clear HB
                              have BK146 := n0_
                              have HB := n1_
                              clear n0_ n1_
                              (try clear hb)
                              (try clear hb2)
                              (try clear hk)
                              (try clear hi)
                              refine hK.out _ _ ⟨(blk_cell BK146.out 0).trans rfl, (blk_cell BK146.out 1).trans rfl, (blk_cell BK146.out 2).trans rfl, (blk_cell BK146.out 3).trans rfl, (blk_cell BK146.out 4).trans rfl, (blk_cell BK146.out 5).trans rfl, (blk_cell BK146.out 6).trans rfl, (blk_cell BK146.out 7).trans rfl, (blk_cell BK146.out 8).trans rfl, (blk_cell BK146.out 9).trans rfl, (blk_cell BK146.out 10).trans rfl⟩ (fun hHeld => ?_)
                              clear hK K
                              refine norm_ (a' := ?_) ?_ ?_
                              rotate_left
                              ·show Act.put _ (some 43) _ = _
                               simp only [Act.put, sA, s0, s1, i64_w, i32_w]
                               rfl
                              refine pure_ (i := 28) (N := some 44) (v := ?_) (a' := ?_) (bnA 35 3758096383) rfl rfl (any_of HT_.out (by kernel_rfl)) (fun _ _ _ h => h) (Or.inl ⟨by rfl, ?_⟩) ?_ ?_
                              rotate_left
                              ·intro w'
                               go_simp
                               first | with_reducible rfl | (rw [if_neg (by omega)])
                              rotate_left
                              ·simp only [Act.put, sA, s0, s1, i64_w, i32_w]
                               rfl
                              refine pure_ (i := 29) (N := some 45) (v := ?_) (a' := ?_) (tfA 32 3) rfl rfl (any_of HT_.out (by kernel_rfl)) (fun _ _ _ h => h) (Or.inl ⟨by rfl, ?_⟩) ?_ ?_
                              rotate_left
                              ·intro w'
                               go_simp
                               first | with_reducible rfl | (rw [if_neg (by omega)])
                              rotate_left
                              ·simp only [Act.put, sA, s0, s1, i64_w, i32_w]
                               rfl
                              refine pure_ (i := 32) (N := some 48) (v := ?_) (a' := ?_) (tfA 33 2) rfl rfl (any_of HT_.out (by kernel_rfl)) (fun _ _ _ h => h) (Or.inl ⟨by rfl, ?_⟩) ?_ ?_
                              rotate_left
                              ·intro w'
                               go_simp
                               first | with_reducible rfl | (rw [if_neg (by omega)])
                              rotate_left
                              ·simp only [Act.put, sA, s0, s1, i64_w, i32_w]
                               rfl
                              refine pure_ (i := 33) (N := some 49) (v := ?_) (a' := ?_) (tfA 34 1) rfl rfl (any_of HT_.out (by kernel_rfl)) (fun _ _ _ h => h) (Or.inl ⟨by rfl, ?_⟩) ?_ ?_
                              rotate_left
                              ·intro w'
                               go_simp
                               first | with_reducible rfl | (rw [if_neg (by omega)])
                              rotate_left
                              ·simp only [Act.put, sA, s0, s1, i64_w, i32_w]
                               rfl
                              refine pure_ (i := 34) (N := some 4) (v := ?_) (a' := ?_) (tfA 35 0) rfl rfl (any_of HT_.out (by kernel_rfl)) (fun _ _ _ h => h) (Or.inl ⟨by rfl, ?_⟩) ?_ ?_
                              rotate_left
                              ·intro w'
                               go_simp
                               first | with_reducible rfl | (rw [if_neg (by omega)])
                              rotate_left
                              ·simp only [Act.put, sA, s0, s1, i64_w, i32_w]
                               rfl
                              refine done_ (done_of HT_.out (by kernel_rfl)) ?_
                              obtain ⟨hcz68_0, hcz68_1, hcz68_2, hcz68_3, hcz68_4, hcz68_5, hcz68_6, hcz68_7, hcz68_8, hcz68_9, hcz68_10, hfz68_0, hfz68_1, hfz68_2, hfz68_3, hfz68_4, hfz68_5, hfz68_6, hfz68_7, hfz68_8, hfz68_9, hfz68_10⟩ := rows11 (w := w67) BK146
                              try go_wp2
                              have n0_ := Aside0.mk (blk_drew BK146.out)
                              have n1_ := Aside0.mk (below_drew1 HB.out)
                              clear BK146
                              clear HB
                              have BK146 := n0_
                              have HB := n1_
                              clear n0_ n1_
                              refine start_ (n := 16) (S := fun w' => w'.cell? ⟨gb146, 0, none⟩ = some (.int .i64 ((rd_T62 l0 x9_1).f0)) ∧ w'.cell? ⟨gb146, 1, none⟩ = some (.int .i64 ((rd_T62 l0 x9_1).f1)) ∧ w'.cell? ⟨gb146, 2, none⟩ = some (.int .i64 ((rd_T62 l0 x9_1).f2)) ∧ w'.cell? ⟨gb146, 3, none⟩ = some (.int .i64 ((rd_T62 l0 x9_1).f3)) ∧ w'.cell? ⟨gb146, 4, none⟩ = some (.string ((rd_T62 l0 x9_1).f4)) ∧ w'.cell? ⟨gb146, 5, none⟩ = some (.string ((rd_T62 l0 x9_1).f5)) ∧ w'.cell? ⟨gb146, 6, none⟩ = some (.string ((rd_T62 l0 x9_1).f6)) ∧ w'.cell? ⟨gb146, 7, none⟩ = some (.string ((rd_T62 l0 x9_1).f7)) ∧ w'.cell? ⟨gb146, 8, none⟩ = some (.string ((rd_T62 l0 x9_1).f8)) ∧ w'.cell? ⟨gb146, 9, none⟩ = some (.string ((rd_T62 l0 x9_1).f9)) ∧ w'.cell? ⟨gb146, 10, none⟩ = some (.string ((rd_T62 l0 x9_1).f10))) (ds := []) (tfA 0 16) (by kernel_rfl) rfl rfl ⟨(blk_cell BK146.out 0).trans rfl, (blk_cell BK146.out 1).trans rfl, (blk_cell BK146.out 2).trans rfl, (blk_cell BK146.out 3).trans rfl, (blk_cell BK146.out 4).trans rfl, (blk_cell BK146.out 5).trans rfl, (blk_cell BK146.out 6).trans rfl, (blk_cell BK146.out 7).trans rfl, (blk_cell BK146.out 8).trans rfl, (blk_cell BK146.out 9).trans rfl, (blk_cell BK146.out 10).trans rfl⟩ (fun hHeld => ?_); refine with_tabW spec_MountsPrint.tab10 spec_MountsPrint.bits10 (fun HT_ HW_ => ?_)
                              generalize w67.drew = w69 at BK146 HB hHeld ⊢
                              refine pure_ (i := 0) (N := some 58) (v := ?_) (a' := ?_) (tfA 1 15) rfl rfl (any_of HT_.out (by kernel_rfl)) (fun _ _ _ h => h) (Or.inl ⟨by rfl, ?_⟩) ?_ ?_
                              rotate_left
                              ·intro w'
                               go_simp
                               first | with_reducible rfl | (rw [if_neg (by omega)])
                              rotate_left
                              ·simp only [Act.put, sA, s0, s1, i64_w, i32_w]
                               rfl
                              refine pure_ (i := 1) (N := some 59) (v := ?_) (a' := ?_) (tfA 2 14) rfl rfl (any_of HT_.out (by kernel_rfl)) (fun _ _ _ h => h) (Or.inl ⟨by rfl, ?_⟩) ?_ ?_
                              rotate_left
                              ·intro w'
                               go_simp
                               first | with_reducible rfl | (rw [if_neg (by omega)])
                              rotate_left
                              ·simp only [Act.put, sA, s0, s1, i64_w, i32_w]
                               rfl
                              refine pure_ (i := 5) (N := some 63) (v := ?_) (a' := ?_) (bnA 16 35) rfl rfl (any_of HT_.out (by kernel_rfl)) (fun _ _ _ h => h) (Or.inl ⟨by rfl, ?_⟩) ?_ ?_
                              rotate_left
                              ·intro w'
                               go_simp
                               first | with_reducible rfl | (rw [if_neg (by omega)])
                              rotate_left
                              ·simp only [Act.put, sA, s0, s1, i64_w, i32_w]
                               rfl
                              refine pure_ (i := 10) (N := some 68) (v := ?_) (a' := ?_) (bnA 16 1059) rfl rfl (any_of HT_.out (by kernel_rfl)) (fun _ _ _ h => h) (Or.inl ⟨by rfl, ?_⟩) ?_ ?_
                              rotate_left
                              ·intro w'
                               go_simp
                               first | with_reducible rfl | (rw [if_neg (by omega)])
                              rotate_left
                              ·simp only [Act.put, sA, s0, s1, i64_w, i32_w]
                               rfl
                              refine take_ (i := 2) (N := some 60) (v := ?_) (a' := ?_) (bnA 16 1063) rfl rfl (take_ofW HT_.out HW_.out (by kernel_rfl)) (fun _ _ _ h => h) (Or.inl ⟨by rfl, ?_⟩) hHeld ?_ ?_
                              rotate_left
                              ·rintro w' ⟨s0, s1, s2, s3, s4, s5, s6, s7, s8, s9, s10⟩
                               go_simp
                               first | with_reducible rfl | (rw [if_neg (by omega)])
                              rotate_left
                              ·simp only [Act.put, sA, s0, s1, i64_w, i32_w]
                               rfl
                              refine pure_ (i := 3) (N := some 61) (v := ?_) (a' := ?_) (bnA 16 1071) rfl rfl (any_of HT_.out (by kernel_rfl)) (fun _ _ _ h => h) (Or.inl ⟨by rfl, ?_⟩) ?_ ?_
                              rotate_left
                              ·intro w'
                               go_simp
                               first | with_reducible rfl | (rw [if_neg (by omega)])
                              rotate_left
                              ·simp only [Act.put, sA, s0, s1, i64_w, i32_w]
                               rfl
                              refine pure_ (i := 4) (N := some 62) (v := ?_) (a' := ?_) (bnA 16 1087) rfl rfl (any_of HT_.out (by kernel_rfl)) (fun _ _ _ h => h) (Or.inl ⟨by rfl, ?_⟩) ?_ ?_
                              rotate_left
                              ·intro w'
                               go_simp
                               first | with_reducible rfl | (rw [if_neg (by omega)])
                              rotate_left
                              ·simp only [Act.put, sA, s0, s1, i64_w, i32_w]
                               rfl
                              refine take_ (i := 6) (N := some 64) (v := ?_) (a' := ?_) (bnA 16 1151) rfl rfl (take_ofW HT_.out HW_.out (by kernel_rfl)) (fun _ _ _ h => h) (Or.inl ⟨by rfl, ?_⟩) hHeld ?_ ?_
                              rotate_left
                              ·rintro w' ⟨s0, s1, s2, s3, s4, s5, s6, s7, s8, s9, s10⟩
                               go_simp
                               first | with_reducible rfl | (rw [if_neg (by omega)])
                              rotate_left
                              ·simp only [Act.put, sA, s0, s1, i64_w, i32_w]
                               rfl
                              refine take_ (i := 11) (N := some 69) (v := ?_) (a' := ?_) (bnA 16 3199) rfl rfl (take_ofW HT_.out HW_.out (by kernel_rfl)) (fun _ _ _ h => h) (Or.inl ⟨by rfl, ?_⟩) hHeld ?_ ?_
                              rotate_left
                              ·rintro w' ⟨s0, s1, s2, s3, s4, s5, s6, s7, s8, s9, s10⟩
                               go_simp
                               first | with_reducible rfl | (rw [if_neg (by omega)])
                              rotate_left
                              ·simp only [Act.put, sA, s0, s1, i64_w, i32_w]
                               rfl
                              refine one_ (i := 7) (N := some 65) (bnA 16 3327) rfl rfl (one_of HT_.out (by kernel_rfl)) (by decide) (fun K hK => ?_)
                              refine goes_ Tryd.func33 (by kernel_rfl) rfl #[.string ((rd_T62 l0 x9_1).f9)] (by rfl) rfl rfl (by (try simp only [List.map_toArray, List.map_cons, List.map_nil]); first | done | rfl | (simp only [List.length_drop, List.length_take]; rfl)) ?_
                              with_reducible refine (spec_octal.calls k1 ((rd_T62 l0 x9_1).f9) t155 _ A52.out).mono ?_
                              rintro e w70 ⟨rfl, hb⟩
                              refine ⟨_, rfl, ?_⟩
                              have n0_ := Aside0.mk (blk_below (g := gb146) (o := .cells #[.int .i64 ((rd_T62 l0 x9_1).f0), .int .i64 ((rd_T62 l0 x9_1).f1), .int .i64 ((rd_T62 l0 x9_1).f2), .int .i64 ((rd_T62 l0 x9_1).f3), .string ((rd_T62 l0 x9_1).f4), .string ((rd_T62 l0 x9_1).f5), .string ((rd_T62 l0 x9_1).f6), .string ((rd_T62 l0 x9_1).f7), .string ((rd_T62 l0 x9_1).f8), .string ((rd_T62 l0 x9_1).f9), .string ((rd_T62 l0 x9_1).f10)] 62 (0, 0)) (by refine bY ?_; exact BK146.out) hb)
                              have n1_ := Aside0.mk (below_step belS hb)
                              clear BK146
                              clear HB
                              have BK146 := n0_
                              have HB := n1_
                              clear n0_ n1_
                              (try clear hb)
                              (try clear hb2)
                              (try clear hk)
                              (try clear hi)
                              refine hK.out _ _ ⟨(blk_cell BK146.out 0).trans rfl, (blk_cell BK146.out 1).trans rfl, (blk_cell BK146.out 2).trans rfl, (blk_cell BK146.out 3).trans rfl, (blk_cell BK146.out 4).trans rfl, (blk_cell BK146.out 5).trans rfl, (blk_cell BK146.out 6).trans rfl, (blk_cell BK146.out 7).trans rfl, (blk_cell BK146.out 8).trans rfl, (blk_cell BK146.out 9).trans rfl, (blk_cell BK146.out 10).trans rfl⟩ (fun hHeld => ?_)
                              clear hK K
                              refine norm_ (a' := ?_) ?_ ?_
                              rotate_left
                              ·show Act.put _ (some 65) _ = _
                               simp only [Act.put, sA, s0, s1, i64_w, i32_w]
                               rfl
                              refine pure_ (i := 8) (N := some 66) (v := ?_) (a' := ?_) (bnA 16 3583) rfl rfl (any_of HT_.out (by kernel_rfl)) (fun _ _ _ h => h) (Or.inl ⟨by rfl, ?_⟩) ?_ ?_
                              rotate_left
                              ·intro w'
                               go_simp
                               first | with_reducible rfl | (rw [if_neg (by omega)])
                              rotate_left
                              ·simp only [Act.put, sA, s0, s1, i64_w, i32_w]
                               rfl
                              refine pure_ (i := 9) (N := some 67) (v := ?_) (a' := ?_) (tfA 12 4) rfl rfl (any_of HT_.out (by kernel_rfl)) (fun _ _ _ h => h) (Or.inl ⟨by rfl, ?_⟩) ?_ ?_
                              rotate_left
                              ·intro w'
                               go_simp
                               first | with_reducible rfl | (rw [if_neg (by omega)])
                              rotate_left
                              ·simp only [Act.put, sA, s0, s1, i64_w, i32_w]
                               rfl
                              refine pure_ (i := 12) (N := some 70) (v := ?_) (a' := ?_) (tfA 13 3) rfl rfl (any_of HT_.out (by kernel_rfl)) (fun _ _ _ h => h) (Or.inl ⟨by rfl, ?_⟩) ?_ ?_
                              rotate_left
                              ·intro w'
                               go_simp
                               first | with_reducible rfl | (rw [if_neg (by omega)])
                              rotate_left
                              ·simp only [Act.put, sA, s0, s1, i64_w, i32_w]
                               rfl
                              refine pure_ (i := 13) (N := some 71) (v := ?_) (a' := ?_) (tfA 14 2) rfl rfl (any_of HT_.out (by kernel_rfl)) (fun _ _ _ h => h) (Or.inl ⟨by rfl, ?_⟩) ?_ ?_
                              rotate_left
                              ·intro w'
                               go_simp
                               first | with_reducible rfl | (rw [if_neg (by omega)])
                              rotate_left
                              ·simp only [Act.put, sA, s0, s1, i64_w, i32_w]
                               rfl
                              refine pure_ (i := 14) (N := some 72) (v := ?_) (a' := ?_) (tfA 15 1) rfl rfl (any_of HT_.out (by kernel_rfl)) (fun _ _ _ h => h) (Or.inl ⟨by rfl, ?_⟩) ?_ ?_
                              rotate_left
                              ·intro w'
                               go_simp
                               first | with_reducible rfl | (rw [if_neg (by omega)])
                              rotate_left
                              ·simp only [Act.put, sA, s0, s1, i64_w, i32_w]
                               rfl
                              refine pure_ (i := 15) (N := some 4) (v := ?_) (a' := ?_) (tfA 16 0) rfl rfl (any_of HT_.out (by kernel_rfl)) (fun _ _ _ h => h) (Or.inl ⟨by rfl, ?_⟩) ?_ ?_
                              rotate_left
                              ·intro w'
                               go_simp
                               first | with_reducible rfl | (rw [if_neg (by omega)])
                              rotate_left
                              ·simp only [Act.put, sA, s0, s1, i64_w, i32_w]
                               rfl
                              refine done_ (done_of HT_.out (by kernel_rfl)) ?_
                              try go_wp2
                              go_roundg k1
                              case measure => have := HK1.out; omega
                              case rel => exact ⟨(((x4_1 ++ ((((((((((((t148 ++ (⟨#[32]⟩ : ByteArray)) ++ t149) ++ (⟨#[32]⟩ : ByteArray)) ++ t150) ++ (⟨#[58]⟩ : ByteArray)) ++ t151) ++ (⟨#[32]⟩ : ByteArray)) ++ t152) ++ (⟨#[32]⟩ : ByteArray)) ++ t153) ++ (⟨#[32]⟩ : ByteArray)) ++ ((rd_T62 l0 x9_1).f6))) ++ ((⟨#[32]⟩ : ByteArray) ++ ((rd_T62 l0 x9_1).f7))) ++ (((((((⟨#[32, 45, 32]⟩ : ByteArray) ++ ((rd_T62 l0 x9_1).f8)) ++ (⟨#[32]⟩ : ByteArray)) ++ t155) ++ (⟨#[32]⟩ : ByteArray)) ++ ((rd_T62 l0 x9_1).f10)) ++ (⟨#[10]⟩ : ByteArray))), (wrap64 (x9_1 + 1)), (by first | rfl | (simp; done) | (simp [*]; done) | (simp [bne_nil]; done) | (simp [bne_nil, *]; done)), (by first | rfl | (simp; done) | (simp [*]; done) | (simp [bne_nil]; done) | (simp [bne_nil, *]; done)), H', ⟨by have := HK1.out; omega⟩, ⟨by repeat (first | (with_reducible first | exact HB.out | apply below_alloc | apply pw_below_drewN | apply below_drew1 | refine below_set ?_ GE146.out) | exact HB.out)⟩⟩
                             ·rw [if_neg c57] at H
                              exact absurd H (by simp)
                            ·rw [if_neg c56] at H
                             exact absurd H (by simp)
                           ·rw [if_neg c55] at H
                            exact absurd H (by simp)
                          ·rw [if_neg c54] at H
                           exact absurd H (by simp)
                         ·rw [if_neg c53] at H
                          exact absurd H (by simp)
                        ·rw [if_neg c51] at H
                         exact absurd H (by simp)
                       ·rw [if_neg c50] at H
                        exact absurd H (by simp)
                      ·rw [if_neg c49] at H
                       exact absurd H (by simp)
                     ·rw [if_neg c48] at H
                      exact absurd H (by simp)
                   ·rw [if_neg c25] at H
                    exact absurd H (by simp)
                  ·rw [if_neg c24] at H
                   exact absurd H (by simp)
                 ·rw [if_neg c23] at H
                  exact absurd H (by simp)
                ·rw [if_neg c22] at H
                 exact absurd H (by simp)
               ·rw [if_neg c20] at H
                exact absurd H (by simp)
              ·rw [if_neg c19] at H
               exact absurd H (by simp)
             ·rw [if_neg c17] at H
              exact absurd H (by simp)
            ·rw [if_neg c16] at H
             exact absurd H (by simp)
           ·rw [if_neg c14] at H
            exact absurd H (by simp)
          ·rw [if_neg c13] at H
           exact absurd H (by simp)
         ·rw [if_neg c11] at H
          exact absurd H (by simp)
        ·rw [if_neg c10] at H
         exact absurd H (by simp)
       ·rw [if_neg c8] at H
        exact absurd H (by simp)
      ·replace c6 := Bool.eq_false_iff.mpr c6
       subst c6
       have H1 : (some ((⟨#[]⟩ : ByteArray), 2)) = some (r1, r2) := by rw [if_neg (show ¬ (false = true) by decide)] at H; exact H
       clear H
       have H := H1
       clear H1
       simp only [Option.some.injEq, Prod.mk.injEq] at H
       obtain ⟨rfl, rfl⟩ := H
       have p145 : 0 ≤ (x9_1 : Int) := of_decide_eq_true (by first | (with_reducible assumption) | assumption)
       have q145 : x9_1 < (l0.length : Int) := of_decide_eq_true (by first | (with_reducible assumption) | assumption)
       obtain ⟨ad145, e145, hx145_0, hx145_1, hx145_2, hx145_3, hx145_4, hx145_5, hx145_6, hx145_7, hx145_8, hx145_9, hx145_10⟩ := at_T62 HR0.out x9_1 p145 q145
       cases e145
       replace hx145_0 := (HB.out.cell (World.block_lt_of_cell? w _ hx145_0)).trans hx145_0
       replace hx145_1 := (HB.out.cell (World.block_lt_of_cell? w _ hx145_1)).trans hx145_1
       replace hx145_2 := (HB.out.cell (World.block_lt_of_cell? w _ hx145_2)).trans hx145_2
       replace hx145_3 := (HB.out.cell (World.block_lt_of_cell? w _ hx145_3)).trans hx145_3
       replace hx145_4 := (HB.out.cell (World.block_lt_of_cell? w _ hx145_4)).trans hx145_4
       replace hx145_5 := (HB.out.cell (World.block_lt_of_cell? w _ hx145_5)).trans hx145_5
       replace hx145_6 := (HB.out.cell (World.block_lt_of_cell? w _ hx145_6)).trans hx145_6
       replace hx145_7 := (HB.out.cell (World.block_lt_of_cell? w _ hx145_7)).trans hx145_7
       replace hx145_8 := (HB.out.cell (World.block_lt_of_cell? w _ hx145_8)).trans hx145_8
       replace hx145_9 := (HB.out.cell (World.block_lt_of_cell? w _ hx145_9)).trans hx145_9
       replace hx145_10 := (HB.out.cell (World.block_lt_of_cell? w _ hx145_10)).trans hx145_10
       replace p145 := eq_true p145
       replace q145 := eq_true q145
       go_wp2_with (first | ((with_reducible refine gate_dst (N := 6) rfl ?_); refine box_event ?hg (N := 6) ?hd (cs := #[.int .i64 0, .int .i64 0, .int .i64 0, .int .i64 0, .string (⟨#[]⟩ : ByteArray), .string (⟨#[]⟩ : ByteArray), .string (⟨#[]⟩ : ByteArray), .string (⟨#[]⟩ : ByteArray), .string (⟨#[]⟩ : ByteArray), .string (⟨#[]⟩ : ByteArray), .string (⟨#[]⟩ : ByteArray)]) (t := 62) ?hr ?_; (case hd => rfl); (case hg => rfl); (case hr => first | (go_simp; done) | (go_simp; rfl)); intro gb146 hg w71 hbox hb; have n0_ := Aside0.mk (below_step belH hb); have n1_ := Aside0.mk (hbox); have n2_ := Aside0.mk ((by rw [hg]; exact (below_size belH) : w.heap.size ≤ gb146)); have n3_ := Aside0.mk ((by rw [hg]; exact (below_size belH) : w.heap.size ≤ gb146)); clear HB; have HB := n0_; have BK146 := n1_; have GW146 := n2_; have GE146 := n3_; clear n0_ n1_ n2_ n3_; clear hb hbox hg; obtain ⟨hcz72_0, hcz72_1, hcz72_2, hcz72_3, hcz72_4, hcz72_5, hcz72_6, hcz72_7, hcz72_8, hcz72_9, hcz72_10, hfz72_0, hfz72_1, hfz72_2, hfz72_3, hfz72_4, hfz72_5, hfz72_6, hfz72_7, hfz72_8, hfz72_9, hfz72_10⟩ := rows11 (w := w71) BK146) | ((with_reducible refine gate_callee (f := 31) rfl ?_); refine goesL_ (some 14) rfl rfl Tryd.func31 (by kernel_rfl) rfl #[.agg #[.int .i64 ((rd_T62 l0 x9_1).f0), .int .i64 ((rd_T62 l0 x9_1).f1), .int .i64 ((rd_T62 l0 x9_1).f2), .int .i64 ((rd_T62 l0 x9_1).f3), .string ((rd_T62 l0 x9_1).f4), .string ((rd_T62 l0 x9_1).f5), .string ((rd_T62 l0 x9_1).f6), .string ((rd_T62 l0 x9_1).f7), .string ((rd_T62 l0 x9_1).f8), .string ((rd_T62 l0 x9_1).f9), .string ((rd_T62 l0 x9_1).f10)]] rfl (by (try simp only [List.map_toArray, List.map_cons, List.map_nil]); first | done | rfl | (simp only [List.length_drop, List.length_take]; rfl)) ?_; (with_reducible refine (spec_mountValid.calls k1 ((rd_T62 l0 x9_1).f0) ((rd_T62 l0 x9_1).f1) ((rd_T62 l0 x9_1).f2) ((rd_T62 l0 x9_1).f3) ((rd_T62 l0 x9_1).f4) ((rd_T62 l0 x9_1).f5) ((rd_T62 l0 x9_1).f6) ((rd_T62 l0 x9_1).f7) ((rd_T62 l0 x9_1).f8) ((rd_T62 l0 x9_1).f9) ((rd_T62 l0 x9_1).f10) false _ A5.out).mono ?_); rintro e w73 ⟨rfl, hb⟩; refine ⟨_, rfl, ?_⟩; have n0_ := Aside0.mk (blk_below (g := gb146) (o := .cells #[.int .i64 ((rd_T62 l0 x9_1).f0), .int .i64 ((rd_T62 l0 x9_1).f1), .int .i64 ((rd_T62 l0 x9_1).f2), .int .i64 ((rd_T62 l0 x9_1).f3), .string ((rd_T62 l0 x9_1).f4), .string ((rd_T62 l0 x9_1).f5), .string ((rd_T62 l0 x9_1).f6), .string ((rd_T62 l0 x9_1).f7), .string ((rd_T62 l0 x9_1).f8), .string ((rd_T62 l0 x9_1).f9), .string ((rd_T62 l0 x9_1).f10)] 62 (0, 0)) (by refine bY ?_; refine blk_put (cs := #[.int .i64 ((rd_T62 l0 x9_1).f0), .int .i64 ((rd_T62 l0 x9_1).f1), .int .i64 ((rd_T62 l0 x9_1).f2), .int .i64 ((rd_T62 l0 x9_1).f3), .string ((rd_T62 l0 x9_1).f4), .string ((rd_T62 l0 x9_1).f5), .string ((rd_T62 l0 x9_1).f6), .string ((rd_T62 l0 x9_1).f7), .string ((rd_T62 l0 x9_1).f8), .string ((rd_T62 l0 x9_1).f9), .string (⟨#[]⟩ : ByteArray)]) ?_ 10 _ rfl; refine bY ?_; refine blk_put (cs := #[.int .i64 ((rd_T62 l0 x9_1).f0), .int .i64 ((rd_T62 l0 x9_1).f1), .int .i64 ((rd_T62 l0 x9_1).f2), .int .i64 ((rd_T62 l0 x9_1).f3), .string ((rd_T62 l0 x9_1).f4), .string ((rd_T62 l0 x9_1).f5), .string ((rd_T62 l0 x9_1).f6), .string ((rd_T62 l0 x9_1).f7), .string ((rd_T62 l0 x9_1).f8), .string (⟨#[]⟩ : ByteArray), .string (⟨#[]⟩ : ByteArray)]) ?_ 9 _ rfl; refine bY ?_; refine blk_put (cs := #[.int .i64 ((rd_T62 l0 x9_1).f0), .int .i64 ((rd_T62 l0 x9_1).f1), .int .i64 ((rd_T62 l0 x9_1).f2), .int .i64 ((rd_T62 l0 x9_1).f3), .string ((rd_T62 l0 x9_1).f4), .string ((rd_T62 l0 x9_1).f5), .string ((rd_T62 l0 x9_1).f6), .string ((rd_T62 l0 x9_1).f7), .string (⟨#[]⟩ : ByteArray), .string (⟨#[]⟩ : ByteArray), .string (⟨#[]⟩ : ByteArray)]) ?_ 8 _ rfl; refine bY ?_; refine blk_put (cs := #[.int .i64 ((rd_T62 l0 x9_1).f0), .int .i64 ((rd_T62 l0 x9_1).f1), .int .i64 ((rd_T62 l0 x9_1).f2), .int .i64 ((rd_T62 l0 x9_1).f3), .string ((rd_T62 l0 x9_1).f4), .string ((rd_T62 l0 x9_1).f5), .string ((rd_T62 l0 x9_1).f6), .string (⟨#[]⟩ : ByteArray), .string (⟨#[]⟩ : ByteArray), .string (⟨#[]⟩ : ByteArray), .string (⟨#[]⟩ : ByteArray)]) ?_ 7 _ rfl; refine bY ?_; refine blk_put (cs := #[.int .i64 ((rd_T62 l0 x9_1).f0), .int .i64 ((rd_T62 l0 x9_1).f1), .int .i64 ((rd_T62 l0 x9_1).f2), .int .i64 ((rd_T62 l0 x9_1).f3), .string ((rd_T62 l0 x9_1).f4), .string ((rd_T62 l0 x9_1).f5), .string (⟨#[]⟩ : ByteArray), .string (⟨#[]⟩ : ByteArray), .string (⟨#[]⟩ : ByteArray), .string (⟨#[]⟩ : ByteArray), .string (⟨#[]⟩ : ByteArray)]) ?_ 6 _ rfl; refine bY ?_; refine blk_put (cs := #[.int .i64 ((rd_T62 l0 x9_1).f0), .int .i64 ((rd_T62 l0 x9_1).f1), .int .i64 ((rd_T62 l0 x9_1).f2), .int .i64 ((rd_T62 l0 x9_1).f3), .string ((rd_T62 l0 x9_1).f4), .string (⟨#[]⟩ : ByteArray), .string (⟨#[]⟩ : ByteArray), .string (⟨#[]⟩ : ByteArray), .string (⟨#[]⟩ : ByteArray), .string (⟨#[]⟩ : ByteArray), .string (⟨#[]⟩ : ByteArray)]) ?_ 5 _ rfl; refine bY ?_; refine blk_put (cs := #[.int .i64 ((rd_T62 l0 x9_1).f0), .int .i64 ((rd_T62 l0 x9_1).f1), .int .i64 ((rd_T62 l0 x9_1).f2), .int .i64 ((rd_T62 l0 x9_1).f3), .string (⟨#[]⟩ : ByteArray), .string (⟨#[]⟩ : ByteArray), .string (⟨#[]⟩ : ByteArray), .string (⟨#[]⟩ : ByteArray), .string (⟨#[]⟩ : ByteArray), .string (⟨#[]⟩ : ByteArray), .string (⟨#[]⟩ : ByteArray)]) ?_ 4 _ rfl; refine bY ?_; refine blk_put (cs := #[.int .i64 ((rd_T62 l0 x9_1).f0), .int .i64 ((rd_T62 l0 x9_1).f1), .int .i64 ((rd_T62 l0 x9_1).f2), .int .i64 0, .string (⟨#[]⟩ : ByteArray), .string (⟨#[]⟩ : ByteArray), .string (⟨#[]⟩ : ByteArray), .string (⟨#[]⟩ : ByteArray), .string (⟨#[]⟩ : ByteArray), .string (⟨#[]⟩ : ByteArray), .string (⟨#[]⟩ : ByteArray)]) ?_ 3 _ rfl; refine bY ?_; refine blk_put (cs := #[.int .i64 ((rd_T62 l0 x9_1).f0), .int .i64 ((rd_T62 l0 x9_1).f1), .int .i64 0, .int .i64 0, .string (⟨#[]⟩ : ByteArray), .string (⟨#[]⟩ : ByteArray), .string (⟨#[]⟩ : ByteArray), .string (⟨#[]⟩ : ByteArray), .string (⟨#[]⟩ : ByteArray), .string (⟨#[]⟩ : ByteArray), .string (⟨#[]⟩ : ByteArray)]) ?_ 2 _ rfl; refine bY ?_; refine blk_put (cs := #[.int .i64 ((rd_T62 l0 x9_1).f0), .int .i64 0, .int .i64 0, .int .i64 0, .string (⟨#[]⟩ : ByteArray), .string (⟨#[]⟩ : ByteArray), .string (⟨#[]⟩ : ByteArray), .string (⟨#[]⟩ : ByteArray), .string (⟨#[]⟩ : ByteArray), .string (⟨#[]⟩ : ByteArray), .string (⟨#[]⟩ : ByteArray)]) ?_ 1 _ rfl; refine bY ?_; refine blk_put (cs := #[.int .i64 0, .int .i64 0, .int .i64 0, .int .i64 0, .string (⟨#[]⟩ : ByteArray), .string (⟨#[]⟩ : ByteArray), .string (⟨#[]⟩ : ByteArray), .string (⟨#[]⟩ : ByteArray), .string (⟨#[]⟩ : ByteArray), .string (⟨#[]⟩ : ByteArray), .string (⟨#[]⟩ : ByteArray)]) ?_ 0 _ rfl; refine bY ?_; exact BK146.out) hb); have n1_ := Aside0.mk (below_step belS hb); clear BK146; clear HB; have BK146 := n0_; have HB := n1_; clear n0_ n1_; (try clear hb); (try clear hb2); (try clear hk); (try clear hi)))
       go_ret2
       exact ⟨by first | rfl | (simp [errW_none, errW_some] <;> rfl) | (simp [*, errW_none, errW_some] <;> rfl), by repeat (first | (with_reducible first | exact HB.out | apply below_alloc | apply pw_below_drewN | apply below_drew1 | refine below_set ?_ GE146.out) | exact HB.out)⟩
     ·rw [if_neg c4] at H
      exact absurd H (by simp)
    ·rw [if_neg c3] at H
     exact absurd H (by simp)
   ·rw [if_neg c2] at H
    have c2b0 : decide (x9_1 < (l0.length : Int)) = false := decide_eq_false c2
    clear c2
    simp only [Option.some.injEq, Prod.mk.injEq] at H
    obtain ⟨rfl, rfl⟩ := H
    go_wp2
    go_ret2
    exact ⟨by first | rfl | (simp [errW_none, errW_some] <;> rfl) | (simp [*, errW_none, errW_some] <;> rfl), by repeat (first | (with_reducible first | exact HB.out | apply below_alloc | apply pw_below_drewN | apply below_drew1) | exact HB.out)⟩

end Go.Proofs.YtokojamaigebaaaDoor.L
