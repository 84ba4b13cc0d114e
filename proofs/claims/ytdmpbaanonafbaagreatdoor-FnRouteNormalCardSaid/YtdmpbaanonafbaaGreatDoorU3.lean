-- written by a program of this session (wip/tools/pp.py)
import Derived.Test.YtdmpbaanonafbaaGreatDoorU0
import Derived.Test.YtdmpbaanonafbaaGreatDoorU1
namespace Go.Proofs.YtdmpbaanonafbaaGreatDoor.U
open Go.RowKit Go.Proofs.YtdmpbaanonafbaaGreatDoorW.PrintWords Go.Proofs.YtdmpbaanonafbaaGreatDoorW.PrintLast Go.Proofs.YtdmpbaanonafbaaGreatDoor.Flt Go.Proofs.YtdmpbaanonafbaaGreatDoor.GivZ Go.Proofs.YtdmpbaanonafbaaGreatDoor.E Go.Proofs.YtdmpbaanonafbaaGreatDoor.L Go.Proofs.YtdmpbaanonafbaaGreatDoor.V Go.Proofs.YtdmpbaanonafbaaGreatDoor.DoorRt Go.Proofs.YtdmpbaanonafbaaGreatDoor.Lives Go.Proofs.YtdmpbaanonafbaaGreatDoor.R Go.Proofs.YtdmpbaanonafbaaGreatDoor.Upper Go.Proofs.YtdmpbaanonafbaaGreatDoorW.PrintMore
attribute [local go_sem] max2_int min2_int max_two min_two max_three min_three max_four min_four   -- for this text's walks alone
set_option linter.unusedVariables false
set_option linter.unusedSimpArgs false
theorem sz1_ (c : UInt8) : (⟨#[c]⟩ : ByteArray).size = 1 := rfl

/-! ### spec_RoutePrint: function 31 -/
def spec_RoutePrint.l0 : Nat → ByteArray → List (S48) → Int → Int → Option (ByteArray × Int)
 | 0, _, _, _, _ => none
 | k + 1, x4, x12, x13, x14 => if x14 < x13 then (if 0 ≤ x14 then (if x14 < (x12.length : Int) then (if ((rd_T48 x12 x14).f0).size + 1 ≤ 9223372036854775807 then (if 0 < (((rd_T48 x12 x14).f1).length : Int) then ((spec_upper.f k (rd ((rd_T48 x12 x14).f1) 0) 8).bind fun t140 => (if (((rd_T48 x12 x14).f0) ++ (⟨#[9]⟩ : ByteArray)).size + t140.size ≤ 9223372036854775807 then (if ((((rd_T48 x12 x14).f0) ++ (⟨#[9]⟩ : ByteArray)) ++ t140).size + 1 ≤ 9223372036854775807 then (if 1 < (((rd_T48 x12 x14).f1).length : Int) then ((spec_upper.f k (rd ((rd_T48 x12 x14).f1) 1) 8).bind fun t142 => (if (((((rd_T48 x12 x14).f0) ++ (⟨#[9]⟩ : ByteArray)) ++ t140) ++ (⟨#[9]⟩ : ByteArray)).size + t142.size ≤ 9223372036854775807 then (if ((((((rd_T48 x12 x14).f0) ++ (⟨#[9]⟩ : ByteArray)) ++ t140) ++ (⟨#[9]⟩ : ByteArray)) ++ t142).size + 1 ≤ 9223372036854775807 then (if 2 < (((rd_T48 x12 x14).f1).length : Int) then ((spec_upper.f k (rd ((rd_T48 x12 x14).f1) 2) 4).bind fun t144 => (if (((((((rd_T48 x12 x14).f0) ++ (⟨#[9]⟩ : ByteArray)) ++ t140) ++ (⟨#[9]⟩ : ByteArray)) ++ t142) ++ (⟨#[9]⟩ : ByteArray)).size + t144.size ≤ 9223372036854775807 then (if ((((((((rd_T48 x12 x14).f0) ++ (⟨#[9]⟩ : ByteArray)) ++ t140) ++ (⟨#[9]⟩ : ByteArray)) ++ t142) ++ (⟨#[9]⟩ : ByteArray)) ++ t144).size + 1 ≤ 9223372036854775807 then (if 3 < (((rd_T48 x12 x14).f1).length : Int) then ((spec_Text.f k (rd ((rd_T48 x12 x14).f1) 3)).bind fun t146 => (if (((((((((rd_T48 x12 x14).f0) ++ (⟨#[9]⟩ : ByteArray)) ++ t140) ++ (⟨#[9]⟩ : ByteArray)) ++ t142) ++ (⟨#[9]⟩ : ByteArray)) ++ t144) ++ (⟨#[9]⟩ : ByteArray)).size + t146.size ≤ 9223372036854775807 then (if ((((((((((rd_T48 x12 x14).f0) ++ (⟨#[9]⟩ : ByteArray)) ++ t140) ++ (⟨#[9]⟩ : ByteArray)) ++ t142) ++ (⟨#[9]⟩ : ByteArray)) ++ t144) ++ (⟨#[9]⟩ : ByteArray)) ++ t146).size + 1 ≤ 9223372036854775807 then (if 4 < (((rd_T48 x12 x14).f1).length : Int) then ((spec_Text.f k (rd ((rd_T48 x12 x14).f1) 4)).bind fun t148 => (if (((((((((((rd_T48 x12 x14).f0) ++ (⟨#[9]⟩ : ByteArray)) ++ t140) ++ (⟨#[9]⟩ : ByteArray)) ++ t142) ++ (⟨#[9]⟩ : ByteArray)) ++ t144) ++ (⟨#[9]⟩ : ByteArray)) ++ t146) ++ (⟨#[9]⟩ : ByteArray)).size + t148.size ≤ 9223372036854775807 then (if ((((((((((((rd_T48 x12 x14).f0) ++ (⟨#[9]⟩ : ByteArray)) ++ t140) ++ (⟨#[9]⟩ : ByteArray)) ++ t142) ++ (⟨#[9]⟩ : ByteArray)) ++ t144) ++ (⟨#[9]⟩ : ByteArray)) ++ t146) ++ (⟨#[9]⟩ : ByteArray)) ++ t148).size + 1 ≤ 9223372036854775807 then (if 5 < (((rd_T48 x12 x14).f1).length : Int) then ((spec_Text.f k (rd ((rd_T48 x12 x14).f1) 5)).bind fun t150 => (if (((((((((((((rd_T48 x12 x14).f0) ++ (⟨#[9]⟩ : ByteArray)) ++ t140) ++ (⟨#[9]⟩ : ByteArray)) ++ t142) ++ (⟨#[9]⟩ : ByteArray)) ++ t144) ++ (⟨#[9]⟩ : ByteArray)) ++ t146) ++ (⟨#[9]⟩ : ByteArray)) ++ t148) ++ (⟨#[9]⟩ : ByteArray)).size + t150.size ≤ 9223372036854775807 then (if ((((((((((((((rd_T48 x12 x14).f0) ++ (⟨#[9]⟩ : ByteArray)) ++ t140) ++ (⟨#[9]⟩ : ByteArray)) ++ t142) ++ (⟨#[9]⟩ : ByteArray)) ++ t144) ++ (⟨#[9]⟩ : ByteArray)) ++ t146) ++ (⟨#[9]⟩ : ByteArray)) ++ t148) ++ (⟨#[9]⟩ : ByteArray)) ++ t150).size + 1 ≤ 9223372036854775807 then (if 6 < (((rd_T48 x12 x14).f1).length : Int) then ((spec_upper.f k (rd ((rd_T48 x12 x14).f1) 6) 8).bind fun t152 => (if (((((((((((((((rd_T48 x12 x14).f0) ++ (⟨#[9]⟩ : ByteArray)) ++ t140) ++ (⟨#[9]⟩ : ByteArray)) ++ t142) ++ (⟨#[9]⟩ : ByteArray)) ++ t144) ++ (⟨#[9]⟩ : ByteArray)) ++ t146) ++ (⟨#[9]⟩ : ByteArray)) ++ t148) ++ (⟨#[9]⟩ : ByteArray)) ++ t150) ++ (⟨#[9]⟩ : ByteArray)).size + t152.size ≤ 9223372036854775807 then (if ((((((((((((((((rd_T48 x12 x14).f0) ++ (⟨#[9]⟩ : ByteArray)) ++ t140) ++ (⟨#[9]⟩ : ByteArray)) ++ t142) ++ (⟨#[9]⟩ : ByteArray)) ++ t144) ++ (⟨#[9]⟩ : ByteArray)) ++ t146) ++ (⟨#[9]⟩ : ByteArray)) ++ t148) ++ (⟨#[9]⟩ : ByteArray)) ++ t150) ++ (⟨#[9]⟩ : ByteArray)) ++ t152).size + 1 ≤ 9223372036854775807 then (if 7 < (((rd_T48 x12 x14).f1).length : Int) then ((spec_Text.f k (rd ((rd_T48 x12 x14).f1) 7)).bind fun t154 => (if (((((((((((((((((rd_T48 x12 x14).f0) ++ (⟨#[9]⟩ : ByteArray)) ++ t140) ++ (⟨#[9]⟩ : ByteArray)) ++ t142) ++ (⟨#[9]⟩ : ByteArray)) ++ t144) ++ (⟨#[9]⟩ : ByteArray)) ++ t146) ++ (⟨#[9]⟩ : ByteArray)) ++ t148) ++ (⟨#[9]⟩ : ByteArray)) ++ t150) ++ (⟨#[9]⟩ : ByteArray)) ++ t152) ++ (⟨#[9]⟩ : ByteArray)).size + t154.size ≤ 9223372036854775807 then (if ((((((((((((((((((rd_T48 x12 x14).f0) ++ (⟨#[9]⟩ : ByteArray)) ++ t140) ++ (⟨#[9]⟩ : ByteArray)) ++ t142) ++ (⟨#[9]⟩ : ByteArray)) ++ t144) ++ (⟨#[9]⟩ : ByteArray)) ++ t146) ++ (⟨#[9]⟩ : ByteArray)) ++ t148) ++ (⟨#[9]⟩ : ByteArray)) ++ t150) ++ (⟨#[9]⟩ : ByteArray)) ++ t152) ++ (⟨#[9]⟩ : ByteArray)) ++ t154).size + 1 ≤ 9223372036854775807 then (if 8 < (((rd_T48 x12 x14).f1).length : Int) then ((spec_Text.f k (rd ((rd_T48 x12 x14).f1) 8)).bind fun t156 => (if (((((((((((((((((((rd_T48 x12 x14).f0) ++ (⟨#[9]⟩ : ByteArray)) ++ t140) ++ (⟨#[9]⟩ : ByteArray)) ++ t142) ++ (⟨#[9]⟩ : ByteArray)) ++ t144) ++ (⟨#[9]⟩ : ByteArray)) ++ t146) ++ (⟨#[9]⟩ : ByteArray)) ++ t148) ++ (⟨#[9]⟩ : ByteArray)) ++ t150) ++ (⟨#[9]⟩ : ByteArray)) ++ t152) ++ (⟨#[9]⟩ : ByteArray)) ++ t154) ++ (⟨#[9]⟩ : ByteArray)).size + t156.size ≤ 9223372036854775807 then (if ((((((((((((((((((((rd_T48 x12 x14).f0) ++ (⟨#[9]⟩ : ByteArray)) ++ t140) ++ (⟨#[9]⟩ : ByteArray)) ++ t142) ++ (⟨#[9]⟩ : ByteArray)) ++ t144) ++ (⟨#[9]⟩ : ByteArray)) ++ t146) ++ (⟨#[9]⟩ : ByteArray)) ++ t148) ++ (⟨#[9]⟩ : ByteArray)) ++ t150) ++ (⟨#[9]⟩ : ByteArray)) ++ t152) ++ (⟨#[9]⟩ : ByteArray)) ++ t154) ++ (⟨#[9]⟩ : ByteArray)) ++ t156).size + 1 ≤ 9223372036854775807 then (if 9 < (((rd_T48 x12 x14).f1).length : Int) then ((spec_Text.f k (rd ((rd_T48 x12 x14).f1) 9)).bind fun t158 => (if (((((((((((((((((((((rd_T48 x12 x14).f0) ++ (⟨#[9]⟩ : ByteArray)) ++ t140) ++ (⟨#[9]⟩ : ByteArray)) ++ t142) ++ (⟨#[9]⟩ : ByteArray)) ++ t144) ++ (⟨#[9]⟩ : ByteArray)) ++ t146) ++ (⟨#[9]⟩ : ByteArray)) ++ t148) ++ (⟨#[9]⟩ : ByteArray)) ++ t150) ++ (⟨#[9]⟩ : ByteArray)) ++ t152) ++ (⟨#[9]⟩ : ByteArray)) ++ t154) ++ (⟨#[9]⟩ : ByteArray)) ++ t156) ++ (⟨#[9]⟩ : ByteArray)).size + t158.size ≤ 9223372036854775807 then ((spec_Left.f k ((((((((((((((((((((((rd_T48 x12 x14).f0) ++ (⟨#[9]⟩ : ByteArray)) ++ t140) ++ (⟨#[9]⟩ : ByteArray)) ++ t142) ++ (⟨#[9]⟩ : ByteArray)) ++ t144) ++ (⟨#[9]⟩ : ByteArray)) ++ t146) ++ (⟨#[9]⟩ : ByteArray)) ++ t148) ++ (⟨#[9]⟩ : ByteArray)) ++ t150) ++ (⟨#[9]⟩ : ByteArray)) ++ t152) ++ (⟨#[9]⟩ : ByteArray)) ++ t154) ++ (⟨#[9]⟩ : ByteArray)) ++ t156) ++ (⟨#[9]⟩ : ByteArray)) ++ t158) 127).bind fun t159 => (if t159.size + 1 ≤ 9223372036854775807 then (if x4.size + (t159 ++ (⟨#[10]⟩ : ByteArray)).size ≤ 9223372036854775807 then (spec_RoutePrint.l0 k (x4 ++ (t159 ++ (⟨#[10]⟩ : ByteArray))) x12 x13 (wrap64 (x14 + 1))) else (none)) else (none))) else (none))) else (none)) else (none)) else (none))) else (none)) else (none)) else (none))) else (none)) else (none)) else (none))) else (none)) else (none)) else (none))) else (none)) else (none)) else (none))) else (none)) else (none)) else (none))) else (none)) else (none)) else (none))) else (none)) else (none)) else (none))) else (none)) else (none)) else (none))) else (none)) else (none)) else (none)) else (none)) else (some (x4, 1))
def spec_RoutePrint.f (k : Nat) (l0 : List (S48)) : Option (ByteArray × Int) := (spec_routeFine.f k l0).bind fun t136 => (if t136 = true then (spec_RoutePrint.l0 k (⟨#[73, 102, 97, 99, 101, 9, 68, 101, 115, 116, 105, 110, 97, 116, 105, 111, 110, 9, 71, 97, 116, 101, 119, 97, 121, 32, 9, 70, 108, 97, 103, 115, 9, 82, 101, 102, 67, 110, 116, 9, 85, 115, 101, 9, 77, 101, 116, 114, 105, 99, 9, 77, 97, 115, 107, 9, 9, 77, 84, 85, 9, 87, 105, 110, 100, 111, 119, 9, 73, 82, 84, 84, 32, 32, 32, 32, 32, 32, 32, 32, 32, 32, 32, 32, 32, 32, 32, 32, 32, 32, 32, 32, 32, 32, 32, 32, 32, 32, 32, 32, 32, 32, 32, 32, 32, 32, 32, 32, 32, 32, 32, 32, 32, 32, 32, 32, 32, 32, 32, 32, 32, 32, 32, 32, 32, 32, 32, 10]⟩ : ByteArray) l0 (l0.length : Int) 0) else (some ((⟨#[]⟩ : ByteArray), 2)))
theorem spec_RoutePrint.mono_l : ∀ k, (∀ y0 y1 y2 y3, LeO (spec_RoutePrint.l0 k y0 y1 y2 y3) (spec_RoutePrint.l0 (k + 1) y0 y1 y2 y3))
 | 0 => fun _ _ _ _ r h => by simp [spec_RoutePrint.l0] at h
 | k + 1 => by
  have ih0 := spec_RoutePrint.mono_l k
  ·intro y0 y1 y2 y3
   unfold spec_RoutePrint.l0
   repeat' first
   | (with_reducible exact ih0 _ _ _ _)
   | (with_reducible exact spec_Left.mono _ _ _)
   | (with_reducible exact spec_Text.mono _ _)
   | (with_reducible exact spec_routeFine.mono _ _)
   | (with_reducible exact spec_upper.mono _ _ _)
   | (with_reducible exact LeO.refl _)
   | (with_reducible exact LeO.none _)
   | (with_reducible refine LeO.ite ?_ ?_)
   | (with_reducible refine LeO.bind ?_ (fun _ => ?_))
   | exact ih0 _ _ _ _
   | exact spec_Left.mono _ _ _
   | exact spec_Text.mono _ _
   | exact spec_routeFine.mono _ _
   | exact spec_upper.mono _ _ _
   | exact LeO.none _
   | refine LeO.ite ?_ ?_
   | refine LeO.bind ?_ (fun _ => ?_)
theorem spec_RoutePrint.mono : ∀ a0 k, LeO (spec_RoutePrint.f k a0) (spec_RoutePrint.f (k + 1) a0) := by
 intro a0 k
 have ih0 := spec_RoutePrint.mono_l k
 unfold spec_RoutePrint.f
 repeat' first
   | (with_reducible exact ih0 _ _ _ _)
   | (with_reducible exact spec_Left.mono _ _ _)
   | (with_reducible exact spec_Text.mono _ _)
   | (with_reducible exact spec_routeFine.mono _ _)
   | (with_reducible exact spec_upper.mono _ _ _)
   | (with_reducible exact LeO.refl _)
   | (with_reducible exact LeO.none _)
   | (with_reducible refine LeO.ite ?_ ?_)
   | (with_reducible refine LeO.bind ?_ (fun _ => ?_))
   | exact ih0 _ _ _ _
   | exact spec_Left.mono _ _ _
   | exact spec_Text.mono _ _
   | exact spec_routeFine.mono _ _
   | exact spec_upper.mono _ _ _
   | exact LeO.none _
   | refine LeO.ite ?_ ?_
   | refine LeO.bind ?_ (fun _ => ?_)
def spec_RoutePrint.T8 : Bool × List (List Nat × List Nat) := (true, [([], []), ([0], [0]), ([1], [1]), ([], []), ([3], [3]), ([4], [4]), ([5], [5]), ([2, 6], [2, 6]), ([7], [7]), ([], []), ([9], [9]), ([10], [10]), ([11, 6], [11]), ([8, 12], [8, 12]), ([13], [13]), ([], []), ([15], [15]), ([16], [16]), ([17, 12], [17]), ([14, 18], [14, 18]), ([19], [19]), ([], []), ([21], [21]), ([22], [22]), ([23, 18], [23]), ([20, 24], [20, 24]), ([25], [25]), ([], []), ([27], [27]), ([28], [28]), ([29, 24], [29]), ([26, 30], [26, 30]), ([31], [31]), ([], []), ([33], [33]), ([34], [34]), ([35, 30], [35]), ([32, 36], [32, 36]), ([37], [37]), ([], []), ([39], [39]), ([40], [40]), ([41, 36], [41]), ([38, 42], [38, 42]), ([43], [43]), ([], []), ([45], [45]), ([46], [46]), ([47, 42], [47]), ([44, 48], [44, 48]), ([49], [49]), ([], []), ([51], [51]), ([52], [52]), ([53, 48], [53]), ([50, 54], [50, 54]), ([55], [55]), ([], []), ([57], [57]), ([58], [58]), ([59, 54], [59]), ([56, 60], [56, 60]), ([61, 60, 0, 1, 2, 3, 4, 5, 6, 7, 8, 9, 10, 11, 12, 13, 14, 15, 16, 17, 18, 19, 20, 21, 22, 23, 24, 25, 26, 27, 28, 29, 30, 31, 32, 33, 34, 35, 36, 37, 38, 39, 40, 41, 42, 43, 44, 45, 46, 47, 48, 49, 50, 51, 52, 53, 54, 55, 56, 57, 58, 59, 60, 61], [61])])
def spec_RoutePrint.B8 : List Nat := [0, 1, 3, 0, 8, 24, 56, 127, 255, 0, 512, 1536, 3704, 8191, 16383, 0, 32768, 98304, 237176, 524287, 1048575, 0, 2097152, 6291456, 15179384, 33554431, 67108863, 0, 134217728, 402653184, 971480696, 2147483647, 4294967295, 0, 8589934592, 25769803776, 62174764664, 137438953471, 274877906943, 0, 549755813888, 1649267441664, 3979184938616, 8796093022207, 17592186044415, 0, 35184372088832, 105553116266496, 254667836071544, 562949953421311, 1125899906842623, 0, 2251799813685248, 6755399441055744, 16298741508578936, 36028797018963967, 72057594037927935, 0, 144115188075855872, 432345564227567616, 1043119456549052024, 2305843009213693951, 4611686018427387903]
theorem spec_RoutePrint.tab8 : rtab .any (opsOf Tryz.f31 8) = spec_RoutePrint.T8 := by kernel_rfl
theorem spec_RoutePrint.bits8 : waitsOk spec_RoutePrint.T8.2 spec_RoutePrint.B8 = true := by kernel_rfl
set_option maxHeartbeats 8000000 in
set_option maxRecDepth 100000 in
theorem spec_RoutePrint.calls (k : Nat) (A0 : Option Addr) (c0 : Nat) (l0 : List (S48)) (r1 : ByteArray) (r2 : Int) (w : World) (hr0 : Kd.C k48 w A0 l0.length l0) (hc0 : l0.length ≤ c0) (h : spec_RoutePrint.f k l0 = some (r1, r2)) :
  Calls Tryz.prog 31 #[.slice A0 l0.length c0] w fun e w' => e = .returned (.tuple #[.string r1, .int .i64 r2]) ∧ Below w.heap.size w w' := by
 have hu48 := Tryz.underlying48
 have HR0 := Aside0.mk hr0
 have HC0 := Aside0.mk hc0
 clear hr0 hc0
 have HB := Aside0.mk (Below.refl w.heap.size w)
 have H : ((spec_routeFine.f k l0).bind fun t136 => (if t136 = true then (spec_RoutePrint.l0 k (⟨#[73, 102, 97, 99, 101, 9, 68, 101, 115, 116, 105, 110, 97, 116, 105, 111, 110, 9, 71, 97, 116, 101, 119, 97, 121, 32, 9, 70, 108, 97, 103, 115, 9, 82, 101, 102, 67, 110, 116, 9, 85, 115, 101, 9, 77, 101, 116, 114, 105, 99, 9, 77, 97, 115, 107, 9, 9, 77, 84, 85, 9, 87, 105, 110, 100, 111, 119, 9, 73, 82, 84, 84, 32, 32, 32, 32, 32, 32, 32, 32, 32, 32, 32, 32, 32, 32, 32, 32, 32, 32, 32, 32, 32, 32, 32, 32, 32, 32, 32, 32, 32, 32, 32, 32, 32, 32, 32, 32, 32, 32, 32, 32, 32, 32, 32, 32, 32, 32, 32, 32, 32, 32, 32, 32, 32, 32, 32, 10]⟩ : ByteArray) l0 (l0.length : Int) 0) else (some ((⟨#[]⟩ : ByteArray), 2)))) = some (r1, r2) := h
 clear h
 replace H := Option.bind_eq_some_iff.mp H
 obtain ⟨t136, A20, H⟩ := H
 have A2 := Aside0.mk A20
 clear A20
 by_cases c3 : t136 = true
 ·subst c3
  have H1 : (spec_RoutePrint.l0 k (⟨#[73, 102, 97, 99, 101, 9, 68, 101, 115, 116, 105, 110, 97, 116, 105, 111, 110, 9, 71, 97, 116, 101, 119, 97, 121, 32, 9, 70, 108, 97, 103, 115, 9, 82, 101, 102, 67, 110, 116, 9, 85, 115, 101, 9, 77, 101, 116, 114, 105, 99, 9, 77, 97, 115, 107, 9, 9, 77, 84, 85, 9, 87, 105, 110, 100, 111, 119, 9, 73, 82, 84, 84, 32, 32, 32, 32, 32, 32, 32, 32, 32, 32, 32, 32, 32, 32, 32, 32, 32, 32, 32, 32, 32, 32, 32, 32, 32, 32, 32, 32, 32, 32, 32, 32, 32, 32, 32, 32, 32, 32, 32, 32, 32, 32, 32, 32, 32, 32, 32, 32, 32, 32, 32, 32, 32, 32, 32, 10]⟩ : ByteArray) l0 (l0.length : Int) 0) = some (r1, r2) := by rw [if_pos rfl] at H; exact H
  clear H
  have H := H1
  clear H1
  have H' := Aside0.mk H
  clear H
  go_enter Tryz.func31, Tryz.ntmps31
  go_wp2_with (first | ((with_reducible refine gate_callee (f := 98) rfl ?_); refine goesL_ (some 10) rfl rfl Tryz.func98 (by kernel_rfl) rfl #[.slice A0 l0.length c0] rfl (by (try simp only [List.map_toArray, List.map_cons, List.map_nil]); first | done | rfl | (simp only [List.length_drop, List.length_take]; rfl)) ?_; (with_reducible refine (spec_routeFine.calls k _ _ l0 true _ ?side1 ?side2 A2.out).mono ?_); (case side1 => repeat (first | exact HR0.out | (with_reducible refine Kd.C_alloc ?_ _) | (with_reducible refine Kd.C_drewN ?_ _) | (with_reducible refine Kd.C_drew ?_))); (case side2 => exact HC0.out); rintro e w4 ⟨rfl, hb⟩; refine ⟨_, rfl, ?_⟩; have n0_ := Aside0.mk (below_step belH hb); clear HB; have HB := n0_; clear n0_; (try clear hb); (try clear hb2); (try clear hk); (try clear hi)))
  go_loopg [4, 14] k (fun kq v4 v14 w' => ∃ (x4_1 : ByteArray) (x14_1 : Int), v4 = .string x4_1 ∧ v14 = .int .i64 x14_1 ∧ Aside0 (spec_RoutePrint.l0 kq x4_1 l0 (l0.length : Int) x14_1 = some (r1, r2)) ∧ Aside0 (kq ≤ k) ∧ Aside0 (Below w.heap.size w w'))
  case atStart => exact ⟨((⟨#[73, 102, 97, 99, 101, 9, 68, 101, 115, 116, 105, 110, 97, 116, 105, 111, 110, 9, 71, 97, 116, 101, 119, 97, 121, 32, 9, 70, 108, 97, 103, 115, 9, 82, 101, 102, 67, 110, 116, 9, 85, 115, 101, 9, 77, 101, 116, 114, 105, 99, 9, 77, 97, 115, 107, 9, 9, 77, 84, 85, 9, 87, 105, 110, 100, 111, 119, 9, 73, 82, 84, 84, 32, 32, 32, 32, 32, 32, 32, 32, 32, 32, 32, 32, 32, 32, 32, 32, 32, 32, 32, 32, 32, 32, 32, 32, 32, 32, 32, 32, 32, 32, 32, 32, 32, 32, 32, 32, 32, 32, 32, 32, 32, 32, 32, 32, 32, 32, 32, 32, 32, 32, 32, 32, 32, 32, 32, 10]⟩ : ByteArray)), (0), (by first | rfl | (simp; done) | (simp [*]; done) | (simp [bne_nil]; done) | (simp [bne_nil, *]; done)), (by first | rfl | (simp; done) | (simp [*]; done) | (simp [bne_nil]; done) | (simp [bne_nil, *]; done)), H', ⟨Nat.le_refl _⟩, ⟨by repeat (first | (with_reducible first | exact HB.out | apply below_alloc | apply pw_below_drewN | apply below_drew1) | exact HB.out)⟩⟩
  case round =>
   clear H'
   try clear p2
   try clear c3
   obtain ⟨x4_1, x14_1, rfl, rfl, HA, HK1, HB⟩ := hrel
   cases gk with
   | zero => exact absurd HA.out (by simp [spec_RoutePrint.l0])
   | succ k1 =>
    have H := HA.out
    clear HA
    simp only [spec_RoutePrint.l0] at H
    by_cases c5 : x14_1 < (l0.length : Int)
    ·rw [if_pos c5] at H
     have c5b0 : decide (x14_1 < (l0.length : Int)) = true := decide_eq_true c5
     clear c5
     by_cases c6 : 0 ≤ x14_1
     ·rw [if_pos c6] at H
      have c6b0 : decide (0 ≤ x14_1) = true := decide_eq_true c6
      clear c6
      by_cases c7 : x14_1 < (l0.length : Int)
      ·rw [if_pos c7] at H
       have c7b0 : decide (x14_1 < (l0.length : Int)) = true := decide_eq_true c7
       clear c7
       by_cases c8 : ((rd_T48 l0 x14_1).f0).size + 1 ≤ 9223372036854775807
       ·rw [if_pos c8] at H
        have c8b0 := eq_true c8
        have c8z := c8
        (try simp only [ByteArray.size_append, sz1_] at c8z)
        have c8b1 : decide (((rd_T48 l0 x14_1).f0).size + 1 ≤ 9223372036854775807) = true := decide_eq_true c8
        try have c8b2 : (9223372036854775807 < ((rd_T48 l0 x14_1).f0).size + 1) = False := eq_false (Nat.not_lt.2 c8)
        by_cases c9 : 0 < (((rd_T48 l0 x14_1).f1).length : Int)
        ·rw [if_pos c9] at H
         have c9b0 : decide (0 < (((rd_T48 l0 x14_1).f1).length : Int)) = true := decide_eq_true c9
         have c9b1 : decide (0 < ((rd_T48 l0 x14_1).f1).length) = true := decide_eq_true (by omega)
         clear c9
         replace H := Option.bind_eq_some_iff.mp H
         obtain ⟨t140, A100, H⟩ := H
         have A10 := Aside0.mk A100
         clear A100
         by_cases c11 : (((rd_T48 l0 x14_1).f0) ++ (⟨#[9]⟩ : ByteArray)).size + t140.size ≤ 9223372036854775807
         ·rw [if_pos c11] at H
          have c11b0 := eq_true c11
          have c11z := c11
          (try simp only [ByteArray.size_append, sz1_] at c11z)
          have c11b1 : decide ((((rd_T48 l0 x14_1).f0) ++ (⟨#[9]⟩ : ByteArray)).size + t140.size ≤ 9223372036854775807) = true := decide_eq_true c11
          try have c11b2 : (9223372036854775807 < (((rd_T48 l0 x14_1).f0) ++ (⟨#[9]⟩ : ByteArray)).size + t140.size) = False := eq_false (Nat.not_lt.2 c11)
          by_cases c12 : ((((rd_T48 l0 x14_1).f0) ++ (⟨#[9]⟩ : ByteArray)) ++ t140).size + 1 ≤ 9223372036854775807
          ·rw [if_pos c12] at H
           have c12b0 := eq_true c12
           have c12z := c12
           (try simp only [ByteArray.size_append, sz1_] at c12z)
           have c12b1 : decide (((((rd_T48 l0 x14_1).f0) ++ (⟨#[9]⟩ : ByteArray)) ++ t140).size + 1 ≤ 9223372036854775807) = true := decide_eq_true c12
           try have c12b2 : (9223372036854775807 < ((((rd_T48 l0 x14_1).f0) ++ (⟨#[9]⟩ : ByteArray)) ++ t140).size + 1) = False := eq_false (Nat.not_lt.2 c12)
           by_cases c13 : 1 < (((rd_T48 l0 x14_1).f1).length : Int)
           ·rw [if_pos c13] at H
            have c13b0 : decide (1 < (((rd_T48 l0 x14_1).f1).length : Int)) = true := decide_eq_true c13
            have c13b1 : decide (1 < ((rd_T48 l0 x14_1).f1).length) = true := decide_eq_true (by omega)
            clear c13
            replace H := Option.bind_eq_some_iff.mp H
            obtain ⟨t142, A140, H⟩ := H
            have A14 := Aside0.mk A140
            clear A140
            by_cases c15 : (((((rd_T48 l0 x14_1).f0) ++ (⟨#[9]⟩ : ByteArray)) ++ t140) ++ (⟨#[9]⟩ : ByteArray)).size + t142.size ≤ 9223372036854775807
            ·rw [if_pos c15] at H
             have c15b0 := eq_true c15
             have c15z := c15
             (try simp only [ByteArray.size_append, sz1_] at c15z)
             have c15b1 : decide ((((((rd_T48 l0 x14_1).f0) ++ (⟨#[9]⟩ : ByteArray)) ++ t140) ++ (⟨#[9]⟩ : ByteArray)).size + t142.size ≤ 9223372036854775807) = true := decide_eq_true c15
             try have c15b2 : (9223372036854775807 < (((((rd_T48 l0 x14_1).f0) ++ (⟨#[9]⟩ : ByteArray)) ++ t140) ++ (⟨#[9]⟩ : ByteArray)).size + t142.size) = False := eq_false (Nat.not_lt.2 c15)
             by_cases c16 : ((((((rd_T48 l0 x14_1).f0) ++ (⟨#[9]⟩ : ByteArray)) ++ t140) ++ (⟨#[9]⟩ : ByteArray)) ++ t142).size + 1 ≤ 9223372036854775807
             ·rw [if_pos c16] at H
              have c16b0 := eq_true c16
              have c16z := c16
              (try simp only [ByteArray.size_append, sz1_] at c16z)
              have c16b1 : decide (((((((rd_T48 l0 x14_1).f0) ++ (⟨#[9]⟩ : ByteArray)) ++ t140) ++ (⟨#[9]⟩ : ByteArray)) ++ t142).size + 1 ≤ 9223372036854775807) = true := decide_eq_true c16
              try have c16b2 : (9223372036854775807 < ((((((rd_T48 l0 x14_1).f0) ++ (⟨#[9]⟩ : ByteArray)) ++ t140) ++ (⟨#[9]⟩ : ByteArray)) ++ t142).size + 1) = False := eq_false (Nat.not_lt.2 c16)
              by_cases c17 : 2 < (((rd_T48 l0 x14_1).f1).length : Int)
              ·rw [if_pos c17] at H
               have c17b0 : decide (2 < (((rd_T48 l0 x14_1).f1).length : Int)) = true := decide_eq_true c17
               have c17b1 : decide (2 < ((rd_T48 l0 x14_1).f1).length) = true := decide_eq_true (by omega)
               clear c17
               replace H := Option.bind_eq_some_iff.mp H
               obtain ⟨t144, A180, H⟩ := H
               have A18 := Aside0.mk A180
               clear A180
               by_cases c19 : (((((((rd_T48 l0 x14_1).f0) ++ (⟨#[9]⟩ : ByteArray)) ++ t140) ++ (⟨#[9]⟩ : ByteArray)) ++ t142) ++ (⟨#[9]⟩ : ByteArray)).size + t144.size ≤ 9223372036854775807
               ·rw [if_pos c19] at H
                have c19b0 := eq_true c19
                have c19z := c19
                (try simp only [ByteArray.size_append, sz1_] at c19z)
                have c19b1 : decide ((((((((rd_T48 l0 x14_1).f0) ++ (⟨#[9]⟩ : ByteArray)) ++ t140) ++ (⟨#[9]⟩ : ByteArray)) ++ t142) ++ (⟨#[9]⟩ : ByteArray)).size + t144.size ≤ 9223372036854775807) = true := decide_eq_true c19
                try have c19b2 : (9223372036854775807 < (((((((rd_T48 l0 x14_1).f0) ++ (⟨#[9]⟩ : ByteArray)) ++ t140) ++ (⟨#[9]⟩ : ByteArray)) ++ t142) ++ (⟨#[9]⟩ : ByteArray)).size + t144.size) = False := eq_false (Nat.not_lt.2 c19)
                by_cases c20 : ((((((((rd_T48 l0 x14_1).f0) ++ (⟨#[9]⟩ : ByteArray)) ++ t140) ++ (⟨#[9]⟩ : ByteArray)) ++ t142) ++ (⟨#[9]⟩ : ByteArray)) ++ t144).size + 1 ≤ 9223372036854775807
                ·rw [if_pos c20] at H
                 have c20b0 := eq_true c20
                 have c20z := c20
                 (try simp only [ByteArray.size_append, sz1_] at c20z)
                 have c20b1 : decide (((((((((rd_T48 l0 x14_1).f0) ++ (⟨#[9]⟩ : ByteArray)) ++ t140) ++ (⟨#[9]⟩ : ByteArray)) ++ t142) ++ (⟨#[9]⟩ : ByteArray)) ++ t144).size + 1 ≤ 9223372036854775807) = true := decide_eq_true c20
                 try have c20b2 : (9223372036854775807 < ((((((((rd_T48 l0 x14_1).f0) ++ (⟨#[9]⟩ : ByteArray)) ++ t140) ++ (⟨#[9]⟩ : ByteArray)) ++ t142) ++ (⟨#[9]⟩ : ByteArray)) ++ t144).size + 1) = False := eq_false (Nat.not_lt.2 c20)
                 by_cases c21 : 3 < (((rd_T48 l0 x14_1).f1).length : Int)
                 ·rw [if_pos c21] at H
                  have c21b0 : decide (3 < (((rd_T48 l0 x14_1).f1).length : Int)) = true := decide_eq_true c21
                  have c21b1 : decide (3 < ((rd_T48 l0 x14_1).f1).length) = true := decide_eq_true (by omega)
                  clear c21
                  replace H := Option.bind_eq_some_iff.mp H
                  obtain ⟨t146, A220, H⟩ := H
                  have A22 := Aside0.mk A220
                  clear A220
                  by_cases c23 : (((((((((rd_T48 l0 x14_1).f0) ++ (⟨#[9]⟩ : ByteArray)) ++ t140) ++ (⟨#[9]⟩ : ByteArray)) ++ t142) ++ (⟨#[9]⟩ : ByteArray)) ++ t144) ++ (⟨#[9]⟩ : ByteArray)).size + t146.size ≤ 9223372036854775807
                  ·rw [if_pos c23] at H
                   have c23b0 := eq_true c23
                   have c23z := c23
                   (try simp only [ByteArray.size_append, sz1_] at c23z)
                   have c23b1 : decide ((((((((((rd_T48 l0 x14_1).f0) ++ (⟨#[9]⟩ : ByteArray)) ++ t140) ++ (⟨#[9]⟩ : ByteArray)) ++ t142) ++ (⟨#[9]⟩ : ByteArray)) ++ t144) ++ (⟨#[9]⟩ : ByteArray)).size + t146.size ≤ 9223372036854775807) = true := decide_eq_true c23
                   try have c23b2 : (9223372036854775807 < (((((((((rd_T48 l0 x14_1).f0) ++ (⟨#[9]⟩ : ByteArray)) ++ t140) ++ (⟨#[9]⟩ : ByteArray)) ++ t142) ++ (⟨#[9]⟩ : ByteArray)) ++ t144) ++ (⟨#[9]⟩ : ByteArray)).size + t146.size) = False := eq_false (Nat.not_lt.2 c23)
                   by_cases c24 : ((((((((((rd_T48 l0 x14_1).f0) ++ (⟨#[9]⟩ : ByteArray)) ++ t140) ++ (⟨#[9]⟩ : ByteArray)) ++ t142) ++ (⟨#[9]⟩ : ByteArray)) ++ t144) ++ (⟨#[9]⟩ : ByteArray)) ++ t146).size + 1 ≤ 9223372036854775807
                   ·rw [if_pos c24] at H
                    have c24b0 := eq_true c24
                    have c24z := c24
                    (try simp only [ByteArray.size_append, sz1_] at c24z)
                    have c24b1 : decide (((((((((((rd_T48 l0 x14_1).f0) ++ (⟨#[9]⟩ : ByteArray)) ++ t140) ++ (⟨#[9]⟩ : ByteArray)) ++ t142) ++ (⟨#[9]⟩ : ByteArray)) ++ t144) ++ (⟨#[9]⟩ : ByteArray)) ++ t146).size + 1 ≤ 9223372036854775807) = true := decide_eq_true c24
                    try have c24b2 : (9223372036854775807 < ((((((((((rd_T48 l0 x14_1).f0) ++ (⟨#[9]⟩ : ByteArray)) ++ t140) ++ (⟨#[9]⟩ : ByteArray)) ++ t142) ++ (⟨#[9]⟩ : ByteArray)) ++ t144) ++ (⟨#[9]⟩ : ByteArray)) ++ t146).size + 1) = False := eq_false (Nat.not_lt.2 c24)
                    by_cases c25 : 4 < (((rd_T48 l0 x14_1).f1).length : Int)
                    ·rw [if_pos c25] at H
                     have c25b0 : decide (4 < (((rd_T48 l0 x14_1).f1).length : Int)) = true := decide_eq_true c25
                     have c25b1 : decide (4 < ((rd_T48 l0 x14_1).f1).length) = true := decide_eq_true (by omega)
                     clear c25
                     replace H := Option.bind_eq_some_iff.mp H
                     obtain ⟨t148, A260, H⟩ := H
                     have A26 := Aside0.mk A260
                     clear A260
                     by_cases c27 : (((((((((((rd_T48 l0 x14_1).f0) ++ (⟨#[9]⟩ : ByteArray)) ++ t140) ++ (⟨#[9]⟩ : ByteArray)) ++ t142) ++ (⟨#[9]⟩ : ByteArray)) ++ t144) ++ (⟨#[9]⟩ : ByteArray)) ++ t146) ++ (⟨#[9]⟩ : ByteArray)).size + t148.size ≤ 9223372036854775807
                     ·rw [if_pos c27] at H
                      have c27b0 := eq_true c27
                      have c27z := c27
                      (try simp only [ByteArray.size_append, sz1_] at c27z)
                      have c27b1 : decide ((((((((((((rd_T48 l0 x14_1).f0) ++ (⟨#[9]⟩ : ByteArray)) ++ t140) ++ (⟨#[9]⟩ : ByteArray)) ++ t142) ++ (⟨#[9]⟩ : ByteArray)) ++ t144) ++ (⟨#[9]⟩ : ByteArray)) ++ t146) ++ (⟨#[9]⟩ : ByteArray)).size + t148.size ≤ 9223372036854775807) = true := decide_eq_true c27
                      try have c27b2 : (9223372036854775807 < (((((((((((rd_T48 l0 x14_1).f0) ++ (⟨#[9]⟩ : ByteArray)) ++ t140) ++ (⟨#[9]⟩ : ByteArray)) ++ t142) ++ (⟨#[9]⟩ : ByteArray)) ++ t144) ++ (⟨#[9]⟩ : ByteArray)) ++ t146) ++ (⟨#[9]⟩ : ByteArray)).size + t148.size) = False := eq_false (Nat.not_lt.2 c27)
                      by_cases c28 : ((((((((((((rd_T48 l0 x14_1).f0) ++ (⟨#[9]⟩ : ByteArray)) ++ t140) ++ (⟨#[9]⟩ : ByteArray)) ++ t142) ++ (⟨#[9]⟩ : ByteArray)) ++ t144) ++ (⟨#[9]⟩ : ByteArray)) ++ t146) ++ (⟨#[9]⟩ : ByteArray)) ++ t148).size + 1 ≤ 9223372036854775807
                      ·rw [if_pos c28] at H
                       have c28b0 := eq_true c28
                       have c28z := c28
                       (try simp only [ByteArray.size_append, sz1_] at c28z)
                       have c28b1 : decide (((((((((((((rd_T48 l0 x14_1).f0) ++ (⟨#[9]⟩ : ByteArray)) ++ t140) ++ (⟨#[9]⟩ : ByteArray)) ++ t142) ++ (⟨#[9]⟩ : ByteArray)) ++ t144) ++ (⟨#[9]⟩ : ByteArray)) ++ t146) ++ (⟨#[9]⟩ : ByteArray)) ++ t148).size + 1 ≤ 9223372036854775807) = true := decide_eq_true c28
                       try have c28b2 : (9223372036854775807 < ((((((((((((rd_T48 l0 x14_1).f0) ++ (⟨#[9]⟩ : ByteArray)) ++ t140) ++ (⟨#[9]⟩ : ByteArray)) ++ t142) ++ (⟨#[9]⟩ : ByteArray)) ++ t144) ++ (⟨#[9]⟩ : ByteArray)) ++ t146) ++ (⟨#[9]⟩ : ByteArray)) ++ t148).size + 1) = False := eq_false (Nat.not_lt.2 c28)
                       by_cases c29 : 5 < (((rd_T48 l0 x14_1).f1).length : Int)
                       ·rw [if_pos c29] at H
                        have c29b0 : decide (5 < (((rd_T48 l0 x14_1).f1).length : Int)) = true := decide_eq_true c29
                        have c29b1 : decide (5 < ((rd_T48 l0 x14_1).f1).length) = true := decide_eq_true (by omega)
                        clear c29
                        replace H := Option.bind_eq_some_iff.mp H
                        obtain ⟨t150, A300, H⟩ := H
                        have A30 := Aside0.mk A300
                        clear A300
                        by_cases c31 : (((((((((((((rd_T48 l0 x14_1).f0) ++ (⟨#[9]⟩ : ByteArray)) ++ t140) ++ (⟨#[9]⟩ : ByteArray)) ++ t142) ++ (⟨#[9]⟩ : ByteArray)) ++ t144) ++ (⟨#[9]⟩ : ByteArray)) ++ t146) ++ (⟨#[9]⟩ : ByteArray)) ++ t148) ++ (⟨#[9]⟩ : ByteArray)).size + t150.size ≤ 9223372036854775807
                        ·rw [if_pos c31] at H
                         have c31b0 := eq_true c31
                         have c31z := c31
                         (try simp only [ByteArray.size_append, sz1_] at c31z)
                         have c31b1 : decide ((((((((((((((rd_T48 l0 x14_1).f0) ++ (⟨#[9]⟩ : ByteArray)) ++ t140) ++ (⟨#[9]⟩ : ByteArray)) ++ t142) ++ (⟨#[9]⟩ : ByteArray)) ++ t144) ++ (⟨#[9]⟩ : ByteArray)) ++ t146) ++ (⟨#[9]⟩ : ByteArray)) ++ t148) ++ (⟨#[9]⟩ : ByteArray)).size + t150.size ≤ 9223372036854775807) = true := decide_eq_true c31
                         try have c31b2 : (9223372036854775807 < (((((((((((((rd_T48 l0 x14_1).f0) ++ (⟨#[9]⟩ : ByteArray)) ++ t140) ++ (⟨#[9]⟩ : ByteArray)) ++ t142) ++ (⟨#[9]⟩ : ByteArray)) ++ t144) ++ (⟨#[9]⟩ : ByteArray)) ++ t146) ++ (⟨#[9]⟩ : ByteArray)) ++ t148) ++ (⟨#[9]⟩ : ByteArray)).size + t150.size) = False := eq_false (Nat.not_lt.2 c31)
                         by_cases c32 : ((((((((((((((rd_T48 l0 x14_1).f0) ++ (⟨#[9]⟩ : ByteArray)) ++ t140) ++ (⟨#[9]⟩ : ByteArray)) ++ t142) ++ (⟨#[9]⟩ : ByteArray)) ++ t144) ++ (⟨#[9]⟩ : ByteArray)) ++ t146) ++ (⟨#[9]⟩ : ByteArray)) ++ t148) ++ (⟨#[9]⟩ : ByteArray)) ++ t150).size + 1 ≤ 9223372036854775807
                         ·rw [if_pos c32] at H
                          have c32b0 := eq_true c32
                          have c32z := c32
                          (try simp only [ByteArray.size_append, sz1_] at c32z)
                          have c32b1 : decide (((((((((((((((rd_T48 l0 x14_1).f0) ++ (⟨#[9]⟩ : ByteArray)) ++ t140) ++ (⟨#[9]⟩ : ByteArray)) ++ t142) ++ (⟨#[9]⟩ : ByteArray)) ++ t144) ++ (⟨#[9]⟩ : ByteArray)) ++ t146) ++ (⟨#[9]⟩ : ByteArray)) ++ t148) ++ (⟨#[9]⟩ : ByteArray)) ++ t150).size + 1 ≤ 9223372036854775807) = true := decide_eq_true c32
                          try have c32b2 : (9223372036854775807 < ((((((((((((((rd_T48 l0 x14_1).f0) ++ (⟨#[9]⟩ : ByteArray)) ++ t140) ++ (⟨#[9]⟩ : ByteArray)) ++ t142) ++ (⟨#[9]⟩ : ByteArray)) ++ t144) ++ (⟨#[9]⟩ : ByteArray)) ++ t146) ++ (⟨#[9]⟩ : ByteArray)) ++ t148) ++ (⟨#[9]⟩ : ByteArray)) ++ t150).size + 1) = False := eq_false (Nat.not_lt.2 c32)
                          by_cases c33 : 6 < (((rd_T48 l0 x14_1).f1).length : Int)
                          ·rw [if_pos c33] at H
                           have c33b0 : decide (6 < (((rd_T48 l0 x14_1).f1).length : Int)) = true := decide_eq_true c33
                           have c33b1 : decide (6 < ((rd_T48 l0 x14_1).f1).length) = true := decide_eq_true (by omega)
                           clear c33
                           replace H := Option.bind_eq_some_iff.mp H
                           obtain ⟨t152, A340, H⟩ := H
                           have A34 := Aside0.mk A340
                           clear A340
                           by_cases c35 : (((((((((((((((rd_T48 l0 x14_1).f0) ++ (⟨#[9]⟩ : ByteArray)) ++ t140) ++ (⟨#[9]⟩ : ByteArray)) ++ t142) ++ (⟨#[9]⟩ : ByteArray)) ++ t144) ++ (⟨#[9]⟩ : ByteArray)) ++ t146) ++ (⟨#[9]⟩ : ByteArray)) ++ t148) ++ (⟨#[9]⟩ : ByteArray)) ++ t150) ++ (⟨#[9]⟩ : ByteArray)).size + t152.size ≤ 9223372036854775807
                           ·rw [if_pos c35] at H
                            have c35b0 := eq_true c35
                            have c35z := c35
                            (try simp only [ByteArray.size_append, sz1_] at c35z)
                            have c35b1 : decide ((((((((((((((((rd_T48 l0 x14_1).f0) ++ (⟨#[9]⟩ : ByteArray)) ++ t140) ++ (⟨#[9]⟩ : ByteArray)) ++ t142) ++ (⟨#[9]⟩ : ByteArray)) ++ t144) ++ (⟨#[9]⟩ : ByteArray)) ++ t146) ++ (⟨#[9]⟩ : ByteArray)) ++ t148) ++ (⟨#[9]⟩ : ByteArray)) ++ t150) ++ (⟨#[9]⟩ : ByteArray)).size + t152.size ≤ 9223372036854775807) = true := decide_eq_true c35
                            try have c35b2 : (9223372036854775807 < (((((((((((((((rd_T48 l0 x14_1).f0) ++ (⟨#[9]⟩ : ByteArray)) ++ t140) ++ (⟨#[9]⟩ : ByteArray)) ++ t142) ++ (⟨#[9]⟩ : ByteArray)) ++ t144) ++ (⟨#[9]⟩ : ByteArray)) ++ t146) ++ (⟨#[9]⟩ : ByteArray)) ++ t148) ++ (⟨#[9]⟩ : ByteArray)) ++ t150) ++ (⟨#[9]⟩ : ByteArray)).size + t152.size) = False := eq_false (Nat.not_lt.2 c35)
                            by_cases c36 : ((((((((((((((((rd_T48 l0 x14_1).f0) ++ (⟨#[9]⟩ : ByteArray)) ++ t140) ++ (⟨#[9]⟩ : ByteArray)) ++ t142) ++ (⟨#[9]⟩ : ByteArray)) ++ t144) ++ (⟨#[9]⟩ : ByteArray)) ++ t146) ++ (⟨#[9]⟩ : ByteArray)) ++ t148) ++ (⟨#[9]⟩ : ByteArray)) ++ t150) ++ (⟨#[9]⟩ : ByteArray)) ++ t152).size + 1 ≤ 9223372036854775807
                            ·rw [if_pos c36] at H
                             have c36b0 := eq_true c36
                             have c36z := c36
                             (try simp only [ByteArray.size_append, sz1_] at c36z)
                             have c36b1 : decide (((((((((((((((((rd_T48 l0 x14_1).f0) ++ (⟨#[9]⟩ : ByteArray)) ++ t140) ++ (⟨#[9]⟩ : ByteArray)) ++ t142) ++ (⟨#[9]⟩ : ByteArray)) ++ t144) ++ (⟨#[9]⟩ : ByteArray)) ++ t146) ++ (⟨#[9]⟩ : ByteArray)) ++ t148) ++ (⟨#[9]⟩ : ByteArray)) ++ t150) ++ (⟨#[9]⟩ : ByteArray)) ++ t152).size + 1 ≤ 9223372036854775807) = true := decide_eq_true c36
                             try have c36b2 : (9223372036854775807 < ((((((((((((((((rd_T48 l0 x14_1).f0) ++ (⟨#[9]⟩ : ByteArray)) ++ t140) ++ (⟨#[9]⟩ : ByteArray)) ++ t142) ++ (⟨#[9]⟩ : ByteArray)) ++ t144) ++ (⟨#[9]⟩ : ByteArray)) ++ t146) ++ (⟨#[9]⟩ : ByteArray)) ++ t148) ++ (⟨#[9]⟩ : ByteArray)) ++ t150) ++ (⟨#[9]⟩ : ByteArray)) ++ t152).size + 1) = False := eq_false (Nat.not_lt.2 c36)
                             by_cases c37 : 7 < (((rd_T48 l0 x14_1).f1).length : Int)
                             ·rw [if_pos c37] at H
                              have c37b0 : decide (7 < (((rd_T48 l0 x14_1).f1).length : Int)) = true := decide_eq_true c37
                              have c37b1 : decide (7 < ((rd_T48 l0 x14_1).f1).length) = true := decide_eq_true (by omega)
                              clear c37
                              replace H := Option.bind_eq_some_iff.mp H
                              obtain ⟨t154, A380, H⟩ := H
                              have A38 := Aside0.mk A380
                              clear A380
                              by_cases c39 : (((((((((((((((((rd_T48 l0 x14_1).f0) ++ (⟨#[9]⟩ : ByteArray)) ++ t140) ++ (⟨#[9]⟩ : ByteArray)) ++ t142) ++ (⟨#[9]⟩ : ByteArray)) ++ t144) ++ (⟨#[9]⟩ : ByteArray)) ++ t146) ++ (⟨#[9]⟩ : ByteArray)) ++ t148) ++ (⟨#[9]⟩ : ByteArray)) ++ t150) ++ (⟨#[9]⟩ : ByteArray)) ++ t152) ++ (⟨#[9]⟩ : ByteArray)).size + t154.size ≤ 9223372036854775807
                              ·rw [if_pos c39] at H
                               have c39b0 := eq_true c39
                               have c39z := c39
                               (try simp only [ByteArray.size_append, sz1_] at c39z)
                               have c39b1 : decide ((((((((((((((((((rd_T48 l0 x14_1).f0) ++ (⟨#[9]⟩ : ByteArray)) ++ t140) ++ (⟨#[9]⟩ : ByteArray)) ++ t142) ++ (⟨#[9]⟩ : ByteArray)) ++ t144) ++ (⟨#[9]⟩ : ByteArray)) ++ t146) ++ (⟨#[9]⟩ : ByteArray)) ++ t148) ++ (⟨#[9]⟩ : ByteArray)) ++ t150) ++ (⟨#[9]⟩ : ByteArray)) ++ t152) ++ (⟨#[9]⟩ : ByteArray)).size + t154.size ≤ 9223372036854775807) = true := decide_eq_true c39
                               try have c39b2 : (9223372036854775807 < (((((((((((((((((rd_T48 l0 x14_1).f0) ++ (⟨#[9]⟩ : ByteArray)) ++ t140) ++ (⟨#[9]⟩ : ByteArray)) ++ t142) ++ (⟨#[9]⟩ : ByteArray)) ++ t144) ++ (⟨#[9]⟩ : ByteArray)) ++ t146) ++ (⟨#[9]⟩ : ByteArray)) ++ t148) ++ (⟨#[9]⟩ : ByteArray)) ++ t150) ++ (⟨#[9]⟩ : ByteArray)) ++ t152) ++ (⟨#[9]⟩ : ByteArray)).size + t154.size) = False := eq_false (Nat.not_lt.2 c39)
                               by_cases c40 : ((((((((((((((((((rd_T48 l0 x14_1).f0) ++ (⟨#[9]⟩ : ByteArray)) ++ t140) ++ (⟨#[9]⟩ : ByteArray)) ++ t142) ++ (⟨#[9]⟩ : ByteArray)) ++ t144) ++ (⟨#[9]⟩ : ByteArray)) ++ t146) ++ (⟨#[9]⟩ : ByteArray)) ++ t148) ++ (⟨#[9]⟩ : ByteArray)) ++ t150) ++ (⟨#[9]⟩ : ByteArray)) ++ t152) ++ (⟨#[9]⟩ : ByteArray)) ++ t154).size + 1 ≤ 9223372036854775807
                               ·rw [if_pos c40] at H
                                have c40b0 := eq_true c40
                                have c40z := c40
                                (try simp only [ByteArray.size_append, sz1_] at c40z)
                                have c40b1 : decide (((((((((((((((((((rd_T48 l0 x14_1).f0) ++ (⟨#[9]⟩ : ByteArray)) ++ t140) ++ (⟨#[9]⟩ : ByteArray)) ++ t142) ++ (⟨#[9]⟩ : ByteArray)) ++ t144) ++ (⟨#[9]⟩ : ByteArray)) ++ t146) ++ (⟨#[9]⟩ : ByteArray)) ++ t148) ++ (⟨#[9]⟩ : ByteArray)) ++ t150) ++ (⟨#[9]⟩ : ByteArray)) ++ t152) ++ (⟨#[9]⟩ : ByteArray)) ++ t154).size + 1 ≤ 9223372036854775807) = true := decide_eq_true c40
                                try have c40b2 : (9223372036854775807 < ((((((((((((((((((rd_T48 l0 x14_1).f0) ++ (⟨#[9]⟩ : ByteArray)) ++ t140) ++ (⟨#[9]⟩ : ByteArray)) ++ t142) ++ (⟨#[9]⟩ : ByteArray)) ++ t144) ++ (⟨#[9]⟩ : ByteArray)) ++ t146) ++ (⟨#[9]⟩ : ByteArray)) ++ t148) ++ (⟨#[9]⟩ : ByteArray)) ++ t150) ++ (⟨#[9]⟩ : ByteArray)) ++ t152) ++ (⟨#[9]⟩ : ByteArray)) ++ t154).size + 1) = False := eq_false (Nat.not_lt.2 c40)
                                by_cases c41 : 8 < (((rd_T48 l0 x14_1).f1).length : Int)
                                ·rw [if_pos c41] at H
                                 have c41b0 : decide (8 < (((rd_T48 l0 x14_1).f1).length : Int)) = true := decide_eq_true c41
                                 have c41b1 : decide (8 < ((rd_T48 l0 x14_1).f1).length) = true := decide_eq_true (by omega)
                                 clear c41
                                 replace H := Option.bind_eq_some_iff.mp H
                                 obtain ⟨t156, A420, H⟩ := H
                                 have A42 := Aside0.mk A420
                                 clear A420
                                 by_cases c43 : (((((((((((((((((((rd_T48 l0 x14_1).f0) ++ (⟨#[9]⟩ : ByteArray)) ++ t140) ++ (⟨#[9]⟩ : ByteArray)) ++ t142) ++ (⟨#[9]⟩ : ByteArray)) ++ t144) ++ (⟨#[9]⟩ : ByteArray)) ++ t146) ++ (⟨#[9]⟩ : ByteArray)) ++ t148) ++ (⟨#[9]⟩ : ByteArray)) ++ t150) ++ (⟨#[9]⟩ : ByteArray)) ++ t152) ++ (⟨#[9]⟩ : ByteArray)) ++ t154) ++ (⟨#[9]⟩ : ByteArray)).size + t156.size ≤ 9223372036854775807
                                 ·rw [if_pos c43] at H
                                  have c43b0 := eq_true c43
                                  have c43z := c43
                                  (try simp only [ByteArray.size_append, sz1_] at c43z)
                                  have c43b1 : decide ((((((((((((((((((((rd_T48 l0 x14_1).f0) ++ (⟨#[9]⟩ : ByteArray)) ++ t140) ++ (⟨#[9]⟩ : ByteArray)) ++ t142) ++ (⟨#[9]⟩ : ByteArray)) ++ t144) ++ (⟨#[9]⟩ : ByteArray)) ++ t146) ++ (⟨#[9]⟩ : ByteArray)) ++ t148) ++ (⟨#[9]⟩ : ByteArray)) ++ t150) ++ (⟨#[9]⟩ : ByteArray)) ++ t152) ++ (⟨#[9]⟩ : ByteArray)) ++ t154) ++ (⟨#[9]⟩ : ByteArray)).size + t156.size ≤ 9223372036854775807) = true := decide_eq_true c43
                                  try have c43b2 : (9223372036854775807 < (((((((((((((((((((rd_T48 l0 x14_1).f0) ++ (⟨#[9]⟩ : ByteArray)) ++ t140) ++ (⟨#[9]⟩ : ByteArray)) ++ t142) ++ (⟨#[9]⟩ : ByteArray)) ++ t144) ++ (⟨#[9]⟩ : ByteArray)) ++ t146) ++ (⟨#[9]⟩ : ByteArray)) ++ t148) ++ (⟨#[9]⟩ : ByteArray)) ++ t150) ++ (⟨#[9]⟩ : ByteArray)) ++ t152) ++ (⟨#[9]⟩ : ByteArray)) ++ t154) ++ (⟨#[9]⟩ : ByteArray)).size + t156.size) = False := eq_false (Nat.not_lt.2 c43)
                                  by_cases c44 : ((((((((((((((((((((rd_T48 l0 x14_1).f0) ++ (⟨#[9]⟩ : ByteArray)) ++ t140) ++ (⟨#[9]⟩ : ByteArray)) ++ t142) ++ (⟨#[9]⟩ : ByteArray)) ++ t144) ++ (⟨#[9]⟩ : ByteArray)) ++ t146) ++ (⟨#[9]⟩ : ByteArray)) ++ t148) ++ (⟨#[9]⟩ : ByteArray)) ++ t150) ++ (⟨#[9]⟩ : ByteArray)) ++ t152) ++ (⟨#[9]⟩ : ByteArray)) ++ t154) ++ (⟨#[9]⟩ : ByteArray)) ++ t156).size + 1 ≤ 9223372036854775807
                                  ·rw [if_pos c44] at H
                                   have c44b0 := eq_true c44
                                   have c44z := c44
                                   (try simp only [ByteArray.size_append, sz1_] at c44z)
                                   have c44b1 : decide (((((((((((((((((((((rd_T48 l0 x14_1).f0) ++ (⟨#[9]⟩ : ByteArray)) ++ t140) ++ (⟨#[9]⟩ : ByteArray)) ++ t142) ++ (⟨#[9]⟩ : ByteArray)) ++ t144) ++ (⟨#[9]⟩ : ByteArray)) ++ t146) ++ (⟨#[9]⟩ : ByteArray)) ++ t148) ++ (⟨#[9]⟩ : ByteArray)) ++ t150) ++ (⟨#[9]⟩ : ByteArray)) ++ t152) ++ (⟨#[9]⟩ : ByteArray)) ++ t154) ++ (⟨#[9]⟩ : ByteArray)) ++ t156).size + 1 ≤ 9223372036854775807) = true := decide_eq_true c44
                                   try have c44b2 : (9223372036854775807 < ((((((((((((((((((((rd_T48 l0 x14_1).f0) ++ (⟨#[9]⟩ : ByteArray)) ++ t140) ++ (⟨#[9]⟩ : ByteArray)) ++ t142) ++ (⟨#[9]⟩ : ByteArray)) ++ t144) ++ (⟨#[9]⟩ : ByteArray)) ++ t146) ++ (⟨#[9]⟩ : ByteArray)) ++ t148) ++ (⟨#[9]⟩ : ByteArray)) ++ t150) ++ (⟨#[9]⟩ : ByteArray)) ++ t152) ++ (⟨#[9]⟩ : ByteArray)) ++ t154) ++ (⟨#[9]⟩ : ByteArray)) ++ t156).size + 1) = False := eq_false (Nat.not_lt.2 c44)
                                   by_cases c45 : 9 < (((rd_T48 l0 x14_1).f1).length : Int)
                                   ·rw [if_pos c45] at H
                                    have c45b0 : decide (9 < (((rd_T48 l0 x14_1).f1).length : Int)) = true := decide_eq_true c45
                                    have c45b1 : decide (9 < ((rd_T48 l0 x14_1).f1).length) = true := decide_eq_true (by omega)
                                    clear c45
                                    replace H := Option.bind_eq_some_iff.mp H
                                    obtain ⟨t158, A460, H⟩ := H
                                    have A46 := Aside0.mk A460
                                    clear A460
                                    by_cases c47 : (((((((((((((((((((((rd_T48 l0 x14_1).f0) ++ (⟨#[9]⟩ : ByteArray)) ++ t140) ++ (⟨#[9]⟩ : ByteArray)) ++ t142) ++ (⟨#[9]⟩ : ByteArray)) ++ t144) ++ (⟨#[9]⟩ : ByteArray)) ++ t146) ++ (⟨#[9]⟩ : ByteArray)) ++ t148) ++ (⟨#[9]⟩ : ByteArray)) ++ t150) ++ (⟨#[9]⟩ : ByteArray)) ++ t152) ++ (⟨#[9]⟩ : ByteArray)) ++ t154) ++ (⟨#[9]⟩ : ByteArray)) ++ t156) ++ (⟨#[9]⟩ : ByteArray)).size + t158.size ≤ 9223372036854775807
                                    ·rw [if_pos c47] at H
                                     have c47b0 := eq_true c47
                                     have c47z := c47
                                     (try simp only [ByteArray.size_append, sz1_] at c47z)
                                     have c47b1 : decide ((((((((((((((((((((((rd_T48 l0 x14_1).f0) ++ (⟨#[9]⟩ : ByteArray)) ++ t140) ++ (⟨#[9]⟩ : ByteArray)) ++ t142) ++ (⟨#[9]⟩ : ByteArray)) ++ t144) ++ (⟨#[9]⟩ : ByteArray)) ++ t146) ++ (⟨#[9]⟩ : ByteArray)) ++ t148) ++ (⟨#[9]⟩ : ByteArray)) ++ t150) ++ (⟨#[9]⟩ : ByteArray)) ++ t152) ++ (⟨#[9]⟩ : ByteArray)) ++ t154) ++ (⟨#[9]⟩ : ByteArray)) ++ t156) ++ (⟨#[9]⟩ : ByteArray)).size + t158.size ≤ 9223372036854775807) = true := decide_eq_true c47
                                     try have c47b2 : (9223372036854775807 < (((((((((((((((((((((rd_T48 l0 x14_1).f0) ++ (⟨#[9]⟩ : ByteArray)) ++ t140) ++ (⟨#[9]⟩ : ByteArray)) ++ t142) ++ (⟨#[9]⟩ : ByteArray)) ++ t144) ++ (⟨#[9]⟩ : ByteArray)) ++ t146) ++ (⟨#[9]⟩ : ByteArray)) ++ t148) ++ (⟨#[9]⟩ : ByteArray)) ++ t150) ++ (⟨#[9]⟩ : ByteArray)) ++ t152) ++ (⟨#[9]⟩ : ByteArray)) ++ t154) ++ (⟨#[9]⟩ : ByteArray)) ++ t156) ++ (⟨#[9]⟩ : ByteArray)).size + t158.size) = False := eq_false (Nat.not_lt.2 c47)
                                     replace H := Option.bind_eq_some_iff.mp H
                                     obtain ⟨t159, A480, H⟩ := H
                                     have A48 := Aside0.mk A480
                                     clear A480
                                     by_cases c49 : t159.size + 1 ≤ 9223372036854775807
                                     ·rw [if_pos c49] at H
                                      have c49b0 := eq_true c49
                                      have c49z := c49
                                      (try simp only [ByteArray.size_append, sz1_] at c49z)
                                      have c49b1 : decide (t159.size + 1 ≤ 9223372036854775807) = true := decide_eq_true c49
                                      try have c49b2 : (9223372036854775807 < t159.size + 1) = False := eq_false (Nat.not_lt.2 c49)
                                      by_cases c50 : x4_1.size + (t159 ++ (⟨#[10]⟩ : ByteArray)).size ≤ 9223372036854775807
                                      ·rw [if_pos c50] at H
                                       have c50b0 := eq_true c50
                                       have c50z := c50
                                       (try simp only [ByteArray.size_append, sz1_] at c50z)
                                       have c50b1 : decide (x4_1.size + (t159 ++ (⟨#[10]⟩ : ByteArray)).size ≤ 9223372036854775807) = true := decide_eq_true c50
                                       try have c50b2 : (9223372036854775807 < x4_1.size + (t159 ++ (⟨#[10]⟩ : ByteArray)).size) = False := eq_false (Nat.not_lt.2 c50)
                                       have H' := Aside0.mk H
                                       clear H
                                       have p137 : 0 ≤ (x14_1 : Int) := of_decide_eq_true (by first | (with_reducible assumption) | assumption)
                                       have q137 : x14_1 < (l0.length : Int) := of_decide_eq_true (by first | (with_reducible assumption) | assumption)
                                       obtain ⟨ad137, A137_1, c137_1, A137_2, c137_2, e137, hx137_0, hx137_1, hx137_2, hl137_1, hi137_1, hl137_2, hi137_2⟩ := at_T48 HR0.out x14_1 p137 q137
                                       cases e137
                                       replace hx137_0 := (HB.out.cell (World.block_lt_of_cell? w _ hx137_0)).trans hx137_0
                                       replace hx137_1 := (HB.out.cell (World.block_lt_of_cell? w _ hx137_1)).trans hx137_1
                                       replace hx137_2 := (HB.out.cell (World.block_lt_of_cell? w _ hx137_2)).trans hx137_2
                                       have HR137_1 := Aside0.mk hi137_1
                                       have HC137_1 := Aside0.mk hl137_1
                                       clear hi137_1 hl137_1
                                       have HR137_2 := Aside0.mk hi137_2
                                       have HC137_2 := Aside0.mk hl137_2
                                       clear hi137_2 hl137_2
                                       replace p137 := eq_true p137
                                       replace q137 := eq_true q137
                                       try go_wp2_with (first | ((with_reducible refine gate_dst (N := 6) rfl ?_); refine box_event ?hg (N := 6) ?hd (cs := #[.string (⟨#[]⟩ : ByteArray), .slice none 0 0, .slice none 0 0]) (t := 48) ?hr ?_; (case hd => rfl); (case hg => rfl); (case hr => first | (go_simp; done) | (go_simp; rfl)); intro gb138 hg w51 hbox hb; have n0_ := Aside0.mk (below_step belH hb); have n1_ := Aside0.mk (hbox); have n2_ := Aside0.mk ((by rw [hg]; exact (below_size belH) : w.heap.size ≤ gb138)); have n3_ := Aside0.mk ((by rw [hg]; exact (below_size belH) : w.heap.size ≤ gb138)); clear HB; have HB := n0_; have BK138 := n1_; have GW138 := n2_; have GE138 := n3_; clear n0_ n1_ n2_ n3_; clear hb hbox hg; obtain ⟨hcz52_0, hcz52_1, hcz52_2, hfz52_0, hfz52_1, hfz52_2⟩ := rows3 (w := w51) BK138))
                                       have n0_ : Aside0 ((((w51.setCell ⟨gb138, 0, none⟩ (.string ((rd_T48 l0 x14_1).f0))).setCell ⟨gb138, 1, none⟩ (.slice A137_1 ((rd_T48 l0 x14_1).f1).length c137_1)).setCell ⟨gb138, 2, none⟩ (.slice A137_2 ((rd_T48 l0 x14_1).f2).length c137_2)).heap[gb138]? = some (.cells #[.string ((rd_T48 l0 x14_1).f0), .slice A137_1 ((rd_T48 l0 x14_1).f1).length c137_1, .slice A137_2 ((rd_T48 l0 x14_1).f2).length c137_2] 48 (0, 0))) := ⟨by refine bY ?_; refine blk_put (cs := #[.string ((rd_T48 l0 x14_1).f0), .slice A137_1 ((rd_T48 l0 x14_1).f1).length c137_1, .slice none 0 0]) ?_ 2 _ rfl; refine bY ?_; refine blk_put (cs := #[.string ((rd_T48 l0 x14_1).f0), .slice none 0 0, .slice none 0 0]) ?_ 1 _ rfl; refine bY ?_; refine blk_put (cs := #[.string (⟨#[]⟩ : ByteArray), .slice none 0 0, .slice none 0 0]) ?_ 0 _ rfl; refine bY ?_; exact BK138.out⟩
                                       have n1_ : Aside0 (Below w.heap.size w (((w51.setCell ⟨gb138, 0, none⟩ (.string ((rd_T48 l0 x14_1).f0))).setCell ⟨gb138, 1, none⟩ (.slice A137_1 ((rd_T48 l0 x14_1).f1).length c137_1)).setCell ⟨gb138, 2, none⟩ (.slice A137_2 ((rd_T48 l0 x14_1).f2).length c137_2))) := ⟨by repeat (first | (with_reducible first | exact HB.out | apply below_alloc | apply pw_below_drewN | apply below_drew1 | refine below_set ?_ GE138.out) | exact HB.out)⟩
                                       (try clear BK138)
                                       (try clear HB)
                                       generalize (((w51.setCell ⟨gb138, 0, none⟩ (.string ((rd_T48 l0 x14_1).f0))).setCell ⟨gb138, 1, none⟩ (.slice A137_1 ((rd_T48 l0 x14_1).f1).length c137_1)).setCell ⟨gb138, 2, none⟩ (.slice A137_2 ((rd_T48 l0 x14_1).f2).length c137_2)) = w53 at n0_ n1_ ⊢
                                       have BK138 := n0_
                                       have HB := n1_
                                       clear n0_ n1_
                                       have n0_ := Aside0.mk (blk_drew BK138.out)
                                       have n1_ := Aside0.mk (below_drew1 HB.out)
                                       clear BK138
                                       clear HB
                                       have BK138 := n0_
                                       have HB := n1_
                                       clear n0_ n1_
                                       have p139 : 0 ≤ (0 : Int) := (by omega)
                                       have q139 : 0 < (((rd_T48 l0 x14_1).f1).length : Int) := of_decide_eq_true (by first | (with_reducible assumption) | assumption)
                                       obtain ⟨ad139, e139, hx139_0⟩ := Kd.at_int HR137_1.out 0 p139 q139
                                       have hw139_0 := hx139_0
                                       (try rw [show ((0 : Int)).toNat = 0 from rfl] at hw139_0)
                                       (try rw [show 0 * 1 = 0 from rfl] at hw139_0)
                                       (try rw [Addr.add_zero'] at hw139_0)
                                       cases e139
                                       have qi139 : (0 < ((rd_T48 l0 x14_1).f1).length) = True := eq_true (by omega)
                                       (try rw [show ((0 : Int)).toNat = 0 from rfl] at hx139_0)
                                       (try rw [Addr.add_zero'] at hx139_0)
                                       replace hx139_0 := (HB.out.cell (World.block_lt_of_cell? w _ hx139_0)).trans hx139_0
                                       replace p139 := eq_true p139
                                       replace q139 := eq_true q139
                                       have p141 : 0 ≤ (1 : Int) := (by omega)
                                       have q141 : 1 < (((rd_T48 l0 x14_1).f1).length : Int) := of_decide_eq_true (by first | (with_reducible assumption) | assumption)
                                       obtain ⟨ad141, e141, hx141_0⟩ := Kd.at_int HR137_1.out 1 p141 q141
                                       have hw141_0 := hx141_0
                                       (try rw [show ((1 : Int)).toNat = 1 from rfl] at hw141_0)
                                       (try rw [show 1 * 1 = 1 from rfl] at hw141_0)
                                       (try simp only [Nat.reduceMul, Nat.reduceEqDiff, Go.Addr.add, ↓reduceIte] at hw141_0)
                                       obtain rfl : ad139 = ad141 := (by injection e141)
                                       (try simp only [show (1 : Int).toNat = 1 from rfl, Nat.reduceMul, Nat.reduceEqDiff, Go.Addr.add, ↓reduceIte] at hx141_0)
                                       have qi141 : (1 < ((rd_T48 l0 x14_1).f1).length) = True := eq_true (by omega)
                                       (try rw [show ((1 : Int)).toNat = 1 from rfl] at hx141_0)
                                       replace hx141_0 := (HB.out.cell (World.block_lt_of_cell? w _ hx141_0)).trans hx141_0
                                       replace p141 := eq_true p141
                                       replace q141 := eq_true q141
                                       have p143 : 0 ≤ (2 : Int) := (by omega)
                                       have q143 : 2 < (((rd_T48 l0 x14_1).f1).length : Int) := of_decide_eq_true (by first | (with_reducible assumption) | assumption)
                                       obtain ⟨ad143, e143, hx143_0⟩ := Kd.at_int HR137_1.out 2 p143 q143
                                       have hw143_0 := hx143_0
                                       (try rw [show ((2 : Int)).toNat = 2 from rfl] at hw143_0)
                                       (try rw [show 2 * 1 = 2 from rfl] at hw143_0)
                                       (try simp only [Nat.reduceMul, Nat.reduceEqDiff, Go.Addr.add, ↓reduceIte] at hw143_0)
                                       obtain rfl : ad139 = ad143 := (by injection e143)
                                       (try simp only [show (2 : Int).toNat = 2 from rfl, Nat.reduceMul, Nat.reduceEqDiff, Go.Addr.add, ↓reduceIte] at hx143_0)
                                       have qi143 : (2 < ((rd_T48 l0 x14_1).f1).length) = True := eq_true (by omega)
                                       (try rw [show ((2 : Int)).toNat = 2 from rfl] at hx143_0)
                                       replace hx143_0 := (HB.out.cell (World.block_lt_of_cell? w _ hx143_0)).trans hx143_0
                                       replace p143 := eq_true p143
                                       replace q143 := eq_true q143
                                       have p145 : 0 ≤ (3 : Int) := (by omega)
                                       have q145 : 3 < (((rd_T48 l0 x14_1).f1).length : Int) := of_decide_eq_true (by first | (with_reducible assumption) | assumption)
                                       obtain ⟨ad145, e145, hx145_0⟩ := Kd.at_int HR137_1.out 3 p145 q145
                                       have hw145_0 := hx145_0
                                       (try rw [show ((3 : Int)).toNat = 3 from rfl] at hw145_0)
                                       (try rw [show 3 * 1 = 3 from rfl] at hw145_0)
                                       (try simp only [Nat.reduceMul, Nat.reduceEqDiff, Go.Addr.add, ↓reduceIte] at hw145_0)
                                       obtain rfl : ad139 = ad145 := (by injection e145)
                                       (try simp only [show (3 : Int).toNat = 3 from rfl, Nat.reduceMul, Nat.reduceEqDiff, Go.Addr.add, ↓reduceIte] at hx145_0)
                                       have qi145 : (3 < ((rd_T48 l0 x14_1).f1).length) = True := eq_true (by omega)
                                       (try rw [show ((3 : Int)).toNat = 3 from rfl] at hx145_0)
                                       replace hx145_0 := (HB.out.cell (World.block_lt_of_cell? w _ hx145_0)).trans hx145_0
                                       replace p145 := eq_true p145
                                       replace q145 := eq_true q145
                                       have p147 : 0 ≤ (4 : Int) := (by omega)
                                       have q147 : 4 < (((rd_T48 l0 x14_1).f1).length : Int) := of_decide_eq_true (by first | (with_reducible assumption) | assumption)
                                       obtain ⟨ad147, e147, hx147_0⟩ := Kd.at_int HR137_1.out 4 p147 q147
                                       have hw147_0 := hx147_0
                                       (try rw [show ((4 : Int)).toNat = 4 from rfl] at hw147_0)
                                       (try rw [show 4 * 1 = 4 from rfl] at hw147_0)
                                       (try simp only [Nat.reduceMul, Nat.reduceEqDiff, Go.Addr.add, ↓reduceIte] at hw147_0)
                                       obtain rfl : ad139 = ad147 := (by injection e147)
                                       (try simp only [show (4 : Int).toNat = 4 from rfl, Nat.reduceMul, Nat.reduceEqDiff, Go.Addr.add, ↓reduceIte] at hx147_0)
                                       have qi147 : (4 < ((rd_T48 l0 x14_1).f1).length) = True := eq_true (by omega)
                                       (try rw [show ((4 : Int)).toNat = 4 from rfl] at hx147_0)
                                       replace hx147_0 := (HB.out.cell (World.block_lt_of_cell? w _ hx147_0)).trans hx147_0
                                       replace p147 := eq_true p147
                                       replace q147 := eq_true q147
                                       have p149 : 0 ≤ (5 : Int) := (by omega)
                                       have q149 : 5 < (((rd_T48 l0 x14_1).f1).length : Int) := of_decide_eq_true (by first | (with_reducible assumption) | assumption)
                                       obtain ⟨ad149, e149, hx149_0⟩ := Kd.at_int HR137_1.out 5 p149 q149
                                       have hw149_0 := hx149_0
                                       (try rw [show ((5 : Int)).toNat = 5 from rfl] at hw149_0)
                                       (try rw [show 5 * 1 = 5 from rfl] at hw149_0)
                                       (try simp only [Nat.reduceMul, Nat.reduceEqDiff, Go.Addr.add, ↓reduceIte] at hw149_0)
                                       obtain rfl : ad139 = ad149 := (by injection e149)
                                       (try simp only [show (5 : Int).toNat = 5 from rfl, Nat.reduceMul, Nat.reduceEqDiff, Go.Addr.add, ↓reduceIte] at hx149_0)
                                       have qi149 : (5 < ((rd_T48 l0 x14_1).f1).length) = True := eq_true (by omega)
                                       (try rw [show ((5 : Int)).toNat = 5 from rfl] at hx149_0)
                                       replace hx149_0 := (HB.out.cell (World.block_lt_of_cell? w _ hx149_0)).trans hx149_0
                                       replace p149 := eq_true p149
                                       replace q149 := eq_true q149
                                       have p151 : 0 ≤ (6 : Int) := (by omega)
                                       have q151 : 6 < (((rd_T48 l0 x14_1).f1).length : Int) := of_decide_eq_true (by first | (with_reducible assumption) | assumption)
                                       obtain ⟨ad151, e151, hx151_0⟩ := Kd.at_int HR137_1.out 6 p151 q151
                                       have hw151_0 := hx151_0
                                       (try rw [show ((6 : Int)).toNat = 6 from rfl] at hw151_0)
                                       (try rw [show 6 * 1 = 6 from rfl] at hw151_0)
                                       (try simp only [Nat.reduceMul, Nat.reduceEqDiff, Go.Addr.add, ↓reduceIte] at hw151_0)
                                       obtain rfl : ad139 = ad151 := (by injection e151)
                                       (try simp only [show (6 : Int).toNat = 6 from rfl, Nat.reduceMul, Nat.reduceEqDiff, Go.Addr.add, ↓reduceIte] at hx151_0)
                                       have qi151 : (6 < ((rd_T48 l0 x14_1).f1).length) = True := eq_true (by omega)
                                       (try rw [show ((6 : Int)).toNat = 6 from rfl] at hx151_0)
                                       replace hx151_0 := (HB.out.cell (World.block_lt_of_cell? w _ hx151_0)).trans hx151_0
                                       replace p151 := eq_true p151
                                       replace q151 := eq_true q151
                                       have p153 : 0 ≤ (7 : Int) := (by omega)
                                       have q153 : 7 < (((rd_T48 l0 x14_1).f1).length : Int) := of_decide_eq_true (by first | (with_reducible assumption) | assumption)
                                       obtain ⟨ad153, e153, hx153_0⟩ := Kd.at_int HR137_1.out 7 p153 q153
                                       have hw153_0 := hx153_0
                                       (try rw [show ((7 : Int)).toNat = 7 from rfl] at hw153_0)
                                       (try rw [show 7 * 1 = 7 from rfl] at hw153_0)
                                       (try simp only [Nat.reduceMul, Nat.reduceEqDiff, Go.Addr.add, ↓reduceIte] at hw153_0)
                                       obtain rfl : ad139 = ad153 := (by injection e153)
                                       (try simp only [show (7 : Int).toNat = 7 from rfl, Nat.reduceMul, Nat.reduceEqDiff, Go.Addr.add, ↓reduceIte] at hx153_0)
                                       have qi153 : (7 < ((rd_T48 l0 x14_1).f1).length) = True := eq_true (by omega)
                                       (try rw [show ((7 : Int)).toNat = 7 from rfl] at hx153_0)
                                       replace hx153_0 := (HB.out.cell (World.block_lt_of_cell? w _ hx153_0)).trans hx153_0
                                       replace p153 := eq_true p153
                                       replace q153 := eq_true q153
                                       have p155 : 0 ≤ (8 : Int) := (by omega)
                                       have q155 : 8 < (((rd_T48 l0 x14_1).f1).length : Int) := of_decide_eq_true (by first | (with_reducible assumption) | assumption)
                                       obtain ⟨ad155, e155, hx155_0⟩ := Kd.at_int HR137_1.out 8 p155 q155
                                       have hw155_0 := hx155_0
                                       (try rw [show ((8 : Int)).toNat = 8 from rfl] at hw155_0)
                                       (try rw [show 8 * 1 = 8 from rfl] at hw155_0)
                                       (try simp only [Nat.reduceMul, Nat.reduceEqDiff, Go.Addr.add, ↓reduceIte] at hw155_0)
                                       obtain rfl : ad139 = ad155 := (by injection e155)
                                       (try simp only [show (8 : Int).toNat = 8 from rfl, Nat.reduceMul, Nat.reduceEqDiff, Go.Addr.add, ↓reduceIte] at hx155_0)
                                       have qi155 : (8 < ((rd_T48 l0 x14_1).f1).length) = True := eq_true (by omega)
                                       (try rw [show ((8 : Int)).toNat = 8 from rfl] at hx155_0)
                                       replace hx155_0 := (HB.out.cell (World.block_lt_of_cell? w _ hx155_0)).trans hx155_0
                                       replace p155 := eq_true p155
                                       replace q155 := eq_true q155
                                       have p157 : 0 ≤ (9 : Int) := (by omega)
                                       have q157 : 9 < (((rd_T48 l0 x14_1).f1).length : Int) := of_decide_eq_true (by first | (with_reducible assumption) | assumption)
                                       obtain ⟨ad157, e157, hx157_0⟩ := Kd.at_int HR137_1.out 9 p157 q157
                                       have hw157_0 := hx157_0
                                       (try rw [show ((9 : Int)).toNat = 9 from rfl] at hw157_0)
                                       (try rw [show 9 * 1 = 9 from rfl] at hw157_0)
                                       (try simp only [Nat.reduceMul, Nat.reduceEqDiff, Go.Addr.add, ↓reduceIte] at hw157_0)
                                       obtain rfl : ad139 = ad157 := (by injection e157)
                                       (try simp only [show (9 : Int).toNat = 9 from rfl, Nat.reduceMul, Nat.reduceEqDiff, Go.Addr.add, ↓reduceIte] at hx157_0)
                                       have qi157 : (9 < ((rd_T48 l0 x14_1).f1).length) = True := eq_true (by omega)
                                       (try rw [show ((9 : Int)).toNat = 9 from rfl] at hx157_0)
                                       replace hx157_0 := (HB.out.cell (World.block_lt_of_cell? w _ hx157_0)).trans hx157_0
                                       replace p157 := eq_true p157
                                       replace q157 := eq_true q157
                                       refine start_ (n := 63) (S := fun w' => w'.cell? ⟨gb138, 0, none⟩ = some (.string ((rd_T48 l0 x14_1).f0)) ∧ w'.cell? ⟨gb138, 1, none⟩ = some (.slice (some ad139) ((rd_T48 l0 x14_1).f1).length c137_1) ∧ w'.cell? ⟨gb138, 2, none⟩ = some (.slice A137_2 ((rd_T48 l0 x14_1).f2).length c137_2) ∧ w'.cell? ad139 = some (.int .u64 (rd ((rd_T48 l0 x14_1).f1) 0)) ∧ w'.cell? ⟨ad139.block, ad139.off + 1, none⟩ = some (.int .u64 (rd ((rd_T48 l0 x14_1).f1) 1)) ∧ w'.cell? ⟨ad139.block, ad139.off + 2, none⟩ = some (.int .u64 (rd ((rd_T48 l0 x14_1).f1) 2)) ∧ w'.cell? ⟨ad139.block, ad139.off + 3, none⟩ = some (.int .u64 (rd ((rd_T48 l0 x14_1).f1) 3)) ∧ w'.cell? ⟨ad139.block, ad139.off + 4, none⟩ = some (.int .u64 (rd ((rd_T48 l0 x14_1).f1) 4)) ∧ w'.cell? ⟨ad139.block, ad139.off + 5, none⟩ = some (.int .u64 (rd ((rd_T48 l0 x14_1).f1) 5)) ∧ w'.cell? ⟨ad139.block, ad139.off + 6, none⟩ = some (.int .u64 (rd ((rd_T48 l0 x14_1).f1) 6)) ∧ w'.cell? ⟨ad139.block, ad139.off + 7, none⟩ = some (.int .u64 (rd ((rd_T48 l0 x14_1).f1) 7)) ∧ w'.cell? ⟨ad139.block, ad139.off + 8, none⟩ = some (.int .u64 (rd ((rd_T48 l0 x14_1).f1) 8)) ∧ w'.cell? ⟨ad139.block, ad139.off + 9, none⟩ = some (.int .u64 (rd ((rd_T48 l0 x14_1).f1) 9))) (ds := []) (tfA 0 63) (by kernel_rfl) rfl rfl ⟨(blk_cell BK138.out 0).trans rfl, (blk_cell BK138.out 1).trans rfl, (blk_cell BK138.out 2).trans rfl, ((HB.out.cell (World.block_lt_of_cell? w _ hw139_0)).trans hw139_0), ((HB.out.cell (World.block_lt_of_cell? w _ hw141_0)).trans hw141_0), ((HB.out.cell (World.block_lt_of_cell? w _ hw143_0)).trans hw143_0), ((HB.out.cell (World.block_lt_of_cell? w _ hw145_0)).trans hw145_0), ((HB.out.cell (World.block_lt_of_cell? w _ hw147_0)).trans hw147_0), ((HB.out.cell (World.block_lt_of_cell? w _ hw149_0)).trans hw149_0), ((HB.out.cell (World.block_lt_of_cell? w _ hw151_0)).trans hw151_0), ((HB.out.cell (World.block_lt_of_cell? w _ hw153_0)).trans hw153_0), ((HB.out.cell (World.block_lt_of_cell? w _ hw155_0)).trans hw155_0), ((HB.out.cell (World.block_lt_of_cell? w _ hw157_0)).trans hw157_0)⟩ (fun hHeld => ?_); refine with_tabW spec_RoutePrint.tab8 spec_RoutePrint.bits8 (fun HT_ HW_ => ?_)
                                       generalize w53.drew = w54 at BK138 HB hx139_0 hx141_0 hx143_0 hx145_0 hx147_0 hx149_0 hx151_0 hx153_0 hx155_0 hx157_0 hHeld ⊢
                                       refine pure_ (i := 0) (N := some 20) (v := ?_) (a' := ?_) (tfA 1 62) rfl rfl (any_of HT_.out (by kernel_rfl)) (fun _ _ _ h => h) (Or.inl ⟨by rfl, ?_⟩) ?_ ?_
                                       rotate_left
                                       ·intro w'
                                        go_simp
                                        first | with_reducible rfl | (rw [if_neg (by omega)])
                                       rotate_left
                                       ·simp only [Act.put, sA, s0, s1, i64_w, i32_w]
                                        rfl
                                       refine pure_ (i := 3) (N := some 23) (v := ?_) (a' := ?_) (bnA 63 9) rfl rfl (any_of HT_.out (by kernel_rfl)) (fun _ _ _ h => h) (Or.inl ⟨by rfl, ?_⟩) ?_ ?_
                                       rotate_left
                                       ·intro w'
                                        go_simp
                                        first | with_reducible rfl | (rw [if_neg (by omega)])
                                       rotate_left
                                       ·simp only [Act.put, sA, s0, s1, i64_w, i32_w]
                                        rfl
                                       refine pure_ (i := 4) (N := some 24) (v := ?_) (a' := ?_) (bnA 63 25) rfl rfl (any_of HT_.out (by kernel_rfl)) (fun _ _ _ h => h) (Or.inl ⟨by rfl, ?_⟩) ?_ ?_
                                       rotate_left
                                       ·intro w'
                                        go_simp
                                        first | with_reducible rfl | (rw [if_neg (by omega)])
                                       rotate_left
                                       ·simp only [Act.put, sA, s0, s1, i64_w, i32_w]
                                        rfl
                                       refine pure_ (i := 9) (N := some 29) (v := ?_) (a' := ?_) (bnA 63 537) rfl rfl (any_of HT_.out (by kernel_rfl)) (fun _ _ _ h => h) (Or.inl ⟨by rfl, ?_⟩) ?_ ?_
                                       rotate_left
                                       ·intro w'
                                        go_simp
                                        first | with_reducible rfl | (rw [if_neg (by omega)])
                                       rotate_left
                                       ·simp only [Act.put, sA, s0, s1, i64_w, i32_w]
                                        rfl
                                       refine pure_ (i := 10) (N := some 30) (v := ?_) (a' := ?_) (bnA 63 1561) rfl rfl (any_of HT_.out (by kernel_rfl)) (fun _ _ _ h => h) (Or.inl ⟨by rfl, ?_⟩) ?_ ?_
                                       rotate_left
                                       ·intro w'
                                        go_simp
                                        first | with_reducible rfl | (rw [if_neg (by omega)])
                                       rotate_left
                                       ·simp only [Act.put, sA, s0, s1, i64_w, i32_w]
                                        rfl
                                       refine pure_ (i := 15) (N := some 35) (v := ?_) (a' := ?_) (bnA 63 34329) rfl rfl (any_of HT_.out (by kernel_rfl)) (fun _ _ _ h => h) (Or.inl ⟨by rfl, ?_⟩) ?_ ?_
                                       rotate_left
                                       ·intro w'
                                        go_simp
                                        first | with_reducible rfl | (rw [if_neg (by omega)])
                                       rotate_left
                                       ·simp only [Act.put, sA, s0, s1, i64_w, i32_w]
                                        rfl
                                       refine pure_ (i := 16) (N := some 36) (v := ?_) (a' := ?_) (bnA 63 99865) rfl rfl (any_of HT_.out (by kernel_rfl)) (fun _ _ _ h => h) (Or.inl ⟨by rfl, ?_⟩) ?_ ?_
                                       rotate_left
                                       ·intro w'
                                        go_simp
                                        first | with_reducible rfl | (rw [if_neg (by omega)])
                                       rotate_left
                                       ·simp only [Act.put, sA, s0, s1, i64_w, i32_w]
                                        rfl
                                       refine pure_ (i := 21) (N := some 41) (v := ?_) (a' := ?_) (bnA 63 2197017) rfl rfl (any_of HT_.out (by kernel_rfl)) (fun _ _ _ h => h) (Or.inl ⟨by rfl, ?_⟩) ?_ ?_
                                       rotate_left
                                       ·intro w'
                                        go_simp
                                        first | with_reducible rfl | (rw [if_neg (by omega)])
                                       rotate_left
                                       ·simp only [Act.put, sA, s0, s1, i64_w, i32_w]
                                        rfl
                                       refine pure_ (i := 22) (N := some 42) (v := ?_) (a' := ?_) (bnA 63 6391321) rfl rfl (any_of HT_.out (by kernel_rfl)) (fun _ _ _ h => h) (Or.inl ⟨by rfl, ?_⟩) ?_ ?_
                                       rotate_left
                                       ·intro w'
                                        go_simp
                                        first | with_reducible rfl | (rw [if_neg (by omega)])
                                       rotate_left
                                       ·simp only [Act.put, sA, s0, s1, i64_w, i32_w]
                                        rfl
                                       refine pure_ (i := 27) (N := some 47) (v := ?_) (a' := ?_) (bnA 63 140609049) rfl rfl (any_of HT_.out (by kernel_rfl)) (fun _ _ _ h => h) (Or.inl ⟨by rfl, ?_⟩) ?_ ?_
                                       rotate_left
                                       ·intro w'
                                        go_simp
                                        first | with_reducible rfl | (rw [if_neg (by omega)])
                                       rotate_left
                                       ·simp only [Act.put, sA, s0, s1, i64_w, i32_w]
                                        rfl
                                       refine pure_ (i := 28) (N := some 48) (v := ?_) (a' := ?_) (bnA 63 409044505) rfl rfl (any_of HT_.out (by kernel_rfl)) (fun _ _ _ h => h) (Or.inl ⟨by rfl, ?_⟩) ?_ ?_
                                       rotate_left
                                       ·intro w'
                                        go_simp
                                        first | with_reducible rfl | (rw [if_neg (by omega)])
                                       rotate_left
                                       ·simp only [Act.put, sA, s0, s1, i64_w, i32_w]
                                        rfl
                                       refine pure_ (i := 33) (N := some 53) (v := ?_) (a' := ?_) (bnA 63 8998979097) rfl rfl (any_of HT_.out (by kernel_rfl)) (fun _ _ _ h => h) (Or.inl ⟨by rfl, ?_⟩) ?_ ?_
                                       rotate_left
                                       ·intro w'
                                        go_simp
                                        first | with_reducible rfl | (rw [if_neg (by omega)])
                                       rotate_left
                                       ·simp only [Act.put, sA, s0, s1, i64_w, i32_w]
                                        rfl
                                       refine pure_ (i := 34) (N := some 54) (v := ?_) (a' := ?_) (bnA 63 26178848281) rfl rfl (any_of HT_.out (by kernel_rfl)) (fun _ _ _ h => h) (Or.inl ⟨by rfl, ?_⟩) ?_ ?_
                                       rotate_left
                                       ·intro w'
                                        go_simp
                                        first | with_reducible rfl | (rw [if_neg (by omega)])
                                       rotate_left
                                       ·simp only [Act.put, sA, s0, s1, i64_w, i32_w]
                                        rfl
                                       refine pure_ (i := 39) (N := some 59) (v := ?_) (a' := ?_) (bnA 63 575934662169) rfl rfl (any_of HT_.out (by kernel_rfl)) (fun _ _ _ h => h) (Or.inl ⟨by rfl, ?_⟩) ?_ ?_
                                       rotate_left
                                       ·intro w'
                                        go_simp
                                        first | with_reducible rfl | (rw [if_neg (by omega)])
                                       rotate_left
                                       ·simp only [Act.put, sA, s0, s1, i64_w, i32_w]
                                        rfl
                                       refine pure_ (i := 40) (N := some 60) (v := ?_) (a' := ?_) (bnA 63 1675446289945) rfl rfl (any_of HT_.out (by kernel_rfl)) (fun _ _ _ h => h) (Or.inl ⟨by rfl, ?_⟩) ?_ ?_
                                       rotate_left
                                       ·intro w'
                                        go_simp
                                        first | with_reducible rfl | (rw [if_neg (by omega)])
                                       rotate_left
                                       ·simp only [Act.put, sA, s0, s1, i64_w, i32_w]
                                        rfl
                                       refine pure_ (i := 45) (N := some 65) (v := ?_) (a' := ?_) (bnA 63 36859818378777) rfl rfl (any_of HT_.out (by kernel_rfl)) (fun _ _ _ h => h) (Or.inl ⟨by rfl, ?_⟩) ?_ ?_
                                       rotate_left
                                       ·intro w'
                                        go_simp
                                        first | with_reducible rfl | (rw [if_neg (by omega)])
                                       rotate_left
                                       ·simp only [Act.put, sA, s0, s1, i64_w, i32_w]
                                        rfl
                                       refine pure_ (i := 46) (N := some 66) (v := ?_) (a' := ?_) (bnA 63 107228562556441) rfl rfl (any_of HT_.out (by kernel_rfl)) (fun _ _ _ h => h) (Or.inl ⟨by rfl, ?_⟩) ?_ ?_
                                       rotate_left
                                       ·intro w'
                                        go_simp
                                        first | with_reducible rfl | (rw [if_neg (by omega)])
                                       rotate_left
                                       ·simp only [Act.put, sA, s0, s1, i64_w, i32_w]
                                        rfl
                                       refine pure_ (i := 51) (N := some 71) (v := ?_) (a' := ?_) (bnA 63 2359028376241689) rfl rfl (any_of HT_.out (by kernel_rfl)) (fun _ _ _ h => h) (Or.inl ⟨by rfl, ?_⟩) ?_ ?_
                                       rotate_left
                                       ·intro w'
                                        go_simp
                                        first | with_reducible rfl | (rw [if_neg (by omega)])
                                       rotate_left
                                       ·simp only [Act.put, sA, s0, s1, i64_w, i32_w]
                                        rfl
                                       refine pure_ (i := 52) (N := some 72) (v := ?_) (a' := ?_) (bnA 63 6862628003612185) rfl rfl (any_of HT_.out (by kernel_rfl)) (fun _ _ _ h => h) (Or.inl ⟨by rfl, ?_⟩) ?_ ?_
                                       rotate_left
                                       ·intro w'
                                        go_simp
                                        first | with_reducible rfl | (rw [if_neg (by omega)])
                                       rotate_left
                                       ·simp only [Act.put, sA, s0, s1, i64_w, i32_w]
                                        rfl
                                       refine pure_ (i := 57) (N := some 77) (v := ?_) (a' := ?_) (bnA 63 150977816079468057) rfl rfl (any_of HT_.out (by kernel_rfl)) (fun _ _ _ h => h) (Or.inl ⟨by rfl, ?_⟩) ?_ ?_
                                       rotate_left
                                       ·intro w'
                                        go_simp
                                        first | with_reducible rfl | (rw [if_neg (by omega)])
                                       rotate_left
                                       ·simp only [Act.put, sA, s0, s1, i64_w, i32_w]
                                        rfl
                                       refine pure_ (i := 58) (N := some 78) (v := ?_) (a' := ?_) (bnA 63 439208192231179801) rfl rfl (any_of HT_.out (by kernel_rfl)) (fun _ _ _ h => h) (Or.inl ⟨by rfl, ?_⟩) ?_ ?_
                                       rotate_left
                                       ·intro w'
                                        go_simp
                                        first | with_reducible rfl | (rw [if_neg (by omega)])
                                       rotate_left
                                       ·simp only [Act.put, sA, s0, s1, i64_w, i32_w]
                                        rfl
                                       refine take_ (i := 1) (N := some 21) (v := ?_) (a' := ?_) (bnA 63 439208192231179803) rfl rfl (take_ofW HT_.out HW_.out (by kernel_rfl)) (fun _ _ _ h => h) (Or.inl ⟨by rfl, ?_⟩) hHeld ?_ ?_
                                       rotate_left
                                       ·rintro w' ⟨s0, s1, s2, s3, s4, s5, s6, s7, s8, s9, s10, s11, s12⟩
                                        go_simp
                                        first | with_reducible rfl | (rw [if_neg (by omega)])
                                       rotate_left
                                       ·simp only [Act.put, sA, s0, s1, i64_w, i32_w]
                                        rfl
                                       refine pure_ (i := 2) (N := some 22) (v := ?_) (a' := ?_) (bnA 63 439208192231179807) rfl rfl (any_of HT_.out (by kernel_rfl)) (fun _ _ _ h => h) (Or.inl ⟨by rfl, ?_⟩) ?_ ?_
                                       rotate_left
                                       ·intro w'
                                        go_simp
                                        first | with_reducible rfl | (rw [if_neg (by omega)])
                                       rotate_left
                                       ·simp only [Act.put, sA, s0, s1, i64_w, i32_w]
                                        rfl
                                       refine take_ (i := 5) (N := some 25) (v := ?_) (a' := ?_) (bnA 63 439208192231179839) rfl rfl (take_ofW HT_.out HW_.out (by kernel_rfl)) (fun _ _ _ h => h) (Or.inl ⟨by rfl, ?_⟩) hHeld ?_ ?_
                                       rotate_left
                                       ·rintro w' ⟨s0, s1, s2, s3, s4, s5, s6, s7, s8, s9, s10, s11, s12⟩
                                        go_simp
                                        first | with_reducible rfl | (rw [if_neg (by omega)])
                                       rotate_left
                                       ·simp only [Act.put, sA, s0, s1, i64_w, i32_w]
                                        rfl
                                       refine take_ (i := 11) (N := some 31) (v := ?_) (a' := ?_) (bnA 63 439208192231181887) rfl rfl (take_ofW HT_.out HW_.out (by kernel_rfl)) (fun _ _ _ h => h) (Or.inl ⟨by rfl, ?_⟩) hHeld ?_ ?_
                                       rotate_left
                                       ·rintro w' ⟨s0, s1, s2, s3, s4, s5, s6, s7, s8, s9, s10, s11, s12⟩
                                        go_simp
                                        first | with_reducible rfl | (rw [if_neg (by omega)])
                                       rotate_left
                                       ·simp only [Act.put, sA, s0, s1, i64_w, i32_w]
                                        rfl
                                       refine take_ (i := 17) (N := some 37) (v := ?_) (a' := ?_) (bnA 63 439208192231312959) rfl rfl (take_ofW HT_.out HW_.out (by kernel_rfl)) (fun _ _ _ h => h) (Or.inl ⟨by rfl, ?_⟩) hHeld ?_ ?_
                                       rotate_left
                                       ·rintro w' ⟨s0, s1, s2, s3, s4, s5, s6, s7, s8, s9, s10, s11, s12⟩
                                        go_simp
                                        first | with_reducible rfl | (rw [if_neg (by omega)])
                                       rotate_left
                                       ·simp only [Act.put, sA, s0, s1, i64_w, i32_w]
                                        rfl
                                       refine take_ (i := 23) (N := some 43) (v := ?_) (a' := ?_) (bnA 63 439208192239701567) rfl rfl (take_ofW HT_.out HW_.out (by kernel_rfl)) (fun _ _ _ h => h) (Or.inl ⟨by rfl, ?_⟩) hHeld ?_ ?_
                                       rotate_left
                                       ·rintro w' ⟨s0, s1, s2, s3, s4, s5, s6, s7, s8, s9, s10, s11, s12⟩
                                        go_simp
                                        first | with_reducible rfl | (rw [if_neg (by omega)])
                                       rotate_left
                                       ·simp only [Act.put, sA, s0, s1, i64_w, i32_w]
                                        rfl
                                       refine take_ (i := 29) (N := some 49) (v := ?_) (a' := ?_) (bnA 63 439208192776572479) rfl rfl (take_ofW HT_.out HW_.out (by kernel_rfl)) (fun _ _ _ h => h) (Or.inl ⟨by rfl, ?_⟩) hHeld ?_ ?_
                                       rotate_left
                                       ·rintro w' ⟨s0, s1, s2, s3, s4, s5, s6, s7, s8, s9, s10, s11, s12⟩
                                        go_simp
                                        first | with_reducible rfl | (rw [if_neg (by omega)])
                                       rotate_left
                                       ·simp only [Act.put, sA, s0, s1, i64_w, i32_w]
                                        rfl
                                       refine take_ (i := 35) (N := some 55) (v := ?_) (a' := ?_) (bnA 63 439208227136310847) rfl rfl (take_ofW HT_.out HW_.out (by kernel_rfl)) (fun _ _ _ h => h) (Or.inl ⟨by rfl, ?_⟩) hHeld ?_ ?_
                                       rotate_left
                                       ·rintro w' ⟨s0, s1, s2, s3, s4, s5, s6, s7, s8, s9, s10, s11, s12⟩
                                        go_simp
                                        first | with_reducible rfl | (rw [if_neg (by omega)])
                                       rotate_left
                                       ·simp only [Act.put, sA, s0, s1, i64_w, i32_w]
                                        rfl
                                       refine take_ (i := 41) (N := some 61) (v := ?_) (a' := ?_) (bnA 63 439210426159566399) rfl rfl (take_ofW HT_.out HW_.out (by kernel_rfl)) (fun _ _ _ h => h) (Or.inl ⟨by rfl, ?_⟩) hHeld ?_ ?_
                                       rotate_left
                                       ·rintro w' ⟨s0, s1, s2, s3, s4, s5, s6, s7, s8, s9, s10, s11, s12⟩
                                        go_simp
                                        first | with_reducible rfl | (rw [if_neg (by omega)])
                                       rotate_left
                                       ·simp only [Act.put, sA, s0, s1, i64_w, i32_w]
                                        rfl
                                       refine take_ (i := 47) (N := some 67) (v := ?_) (a' := ?_) (bnA 63 439351163647921727) rfl rfl (take_ofW HT_.out HW_.out (by kernel_rfl)) (fun _ _ _ h => h) (Or.inl ⟨by rfl, ?_⟩) hHeld ?_ ?_
                                       rotate_left
                                       ·rintro w' ⟨s0, s1, s2, s3, s4, s5, s6, s7, s8, s9, s10, s11, s12⟩
                                        go_simp
                                        first | with_reducible rfl | (rw [if_neg (by omega)])
                                       rotate_left
                                       ·simp only [Act.put, sA, s0, s1, i64_w, i32_w]
                                        rfl
                                       refine take_ (i := 53) (N := some 73) (v := ?_) (a' := ?_) (bnA 63 448358362902662719) rfl rfl (take_ofW HT_.out HW_.out (by kernel_rfl)) (fun _ _ _ h => h) (Or.inl ⟨by rfl, ?_⟩) hHeld ?_ ?_
                                       rotate_left
                                       ·rintro w' ⟨s0, s1, s2, s3, s4, s5, s6, s7, s8, s9, s10, s11, s12⟩
                                        go_simp
                                        first | with_reducible rfl | (rw [if_neg (by omega)])
                                       rotate_left
                                       ·simp only [Act.put, sA, s0, s1, i64_w, i32_w]
                                        rfl
                                       refine take_ (i := 59) (N := some 79) (v := ?_) (a' := ?_) (bnA 63 1024819115206086207) rfl rfl (take_ofW HT_.out HW_.out (by kernel_rfl)) (fun _ _ _ h => h) (Or.inl ⟨by rfl, ?_⟩) hHeld ?_ ?_
                                       rotate_left
                                       ·rintro w' ⟨s0, s1, s2, s3, s4, s5, s6, s7, s8, s9, s10, s11, s12⟩
                                        go_simp
                                        first | with_reducible rfl | (rw [if_neg (by omega)])
                                       rotate_left
                                       ·simp only [Act.put, sA, s0, s1, i64_w, i32_w]
                                        rfl
                                       refine one_ (i := 6) (N := some 26) (bnA 63 1024819115206086271) rfl rfl (one_of HT_.out (by kernel_rfl)) (by decide) (fun K hK => ?_)
                                       refine goes_ Tryz.func99 (by kernel_rfl) rfl #[.int .u64 (rd ((rd_T48 l0 x14_1).f1) 0), .int .i64 8] (by rfl) rfl rfl (by (try simp only [List.map_toArray, List.map_cons, List.map_nil]); first | done | rfl | (simp only [List.length_drop, List.length_take]; rfl)) ?_
                                       with_reducible refine (spec_upper.calls k1 (rd ((rd_T48 l0 x14_1).f1) 0) 8 t140 _ A10.out).mono ?_
                                       rintro e w55 ⟨rfl, hb⟩
                                       refine ⟨_, rfl, ?_⟩
                                       have n0_ := Aside0.mk (blk_below (g := gb138) (o := .cells #[.string ((rd_T48 l0 x14_1).f0), .slice (some ad139) ((rd_T48 l0 x14_1).f1).length c137_1, .slice A137_2 ((rd_T48 l0 x14_1).f2).length c137_2] 48 (0, 0)) (by refine bY ?_; exact BK138.out) hb)
                                       have n1_ := Aside0.mk (below_step belS hb)
                                       clear BK138
                                       clear HB
                                       have BK138 := n0_
                                       have HB := n1_
                                       clear n0_ n1_
                                       (try clear hb)
                                       (try clear hb2)
                                       (try clear hk)
                                       (try clear hi)
                                       refine hK.out _ _ ⟨(blk_cell BK138.out 0).trans rfl, (blk_cell BK138.out 1).trans rfl, (blk_cell BK138.out 2).trans rfl, ((HB.out.cell (World.block_lt_of_cell? w _ hw139_0)).trans hw139_0), ((HB.out.cell (World.block_lt_of_cell? w _ hw141_0)).trans hw141_0), ((HB.out.cell (World.block_lt_of_cell? w _ hw143_0)).trans hw143_0), ((HB.out.cell (World.block_lt_of_cell? w _ hw145_0)).trans hw145_0), ((HB.out.cell (World.block_lt_of_cell? w _ hw147_0)).trans hw147_0), ((HB.out.cell (World.block_lt_of_cell? w _ hw149_0)).trans hw149_0), ((HB.out.cell (World.block_lt_of_cell? w _ hw151_0)).trans hw151_0), ((HB.out.cell (World.block_lt_of_cell? w _ hw153_0)).trans hw153_0), ((HB.out.cell (World.block_lt_of_cell? w _ hw155_0)).trans hw155_0), ((HB.out.cell (World.block_lt_of_cell? w _ hw157_0)).trans hw157_0)⟩ (fun hHeld => ?_)
                                       clear hK K
                                       refine norm_ (a' := ?_) ?_ ?_
                                       rotate_left
                                       ·show Act.put _ (some 26) _ = _
                                        simp only [Act.put, sA, s0, s1, i64_w, i32_w]
                                        rfl
                                       refine pure_ (i := 7) (N := some 27) (v := ?_) (a' := ?_) (bnA 63 1024819115206086399) rfl rfl (any_of HT_.out (by kernel_rfl)) (fun _ _ _ h => h) (Or.inl ⟨by rfl, ?_⟩) ?_ ?_
                                       rotate_left
                                       ·intro w'
                                        go_simp
                                        first | with_reducible rfl | (rw [if_neg (by omega)])
                                       rotate_left
                                       ·simp only [Act.put, sA, s0, s1, i64_w, i32_w]
                                        rfl
                                       refine pure_ (i := 8) (N := some 28) (v := ?_) (a' := ?_) (bnA 63 1024819115206086655) rfl rfl (any_of HT_.out (by kernel_rfl)) (fun _ _ _ h => h) (Or.inl ⟨by rfl, ?_⟩) ?_ ?_
                                       rotate_left
                                       ·intro w'
                                        go_simp
                                        first | with_reducible rfl | (rw [if_neg (by omega)])
                                       rotate_left
                                       ·simp only [Act.put, sA, s0, s1, i64_w, i32_w]
                                        rfl
                                       refine one_ (i := 12) (N := some 32) (bnA 63 1024819115206090751) rfl rfl (one_of HT_.out (by kernel_rfl)) (by decide) (fun K hK => ?_)
                                       refine goes_ Tryz.func99 (by kernel_rfl) rfl #[.int .u64 (rd ((rd_T48 l0 x14_1).f1) 1), .int .i64 8] (by rfl) rfl rfl (by (try simp only [List.map_toArray, List.map_cons, List.map_nil]); first | done | rfl | (simp only [List.length_drop, List.length_take]; rfl)) ?_
                                       with_reducible refine (spec_upper.calls k1 (rd ((rd_T48 l0 x14_1).f1) 1) 8 t142 _ A14.out).mono ?_
                                       rintro e w56 ⟨rfl, hb⟩
                                       refine ⟨_, rfl, ?_⟩
                                       have n0_ := Aside0.mk (blk_below (g := gb138) (o := .cells #[.string ((rd_T48 l0 x14_1).f0), .slice (some ad139) ((rd_T48 l0 x14_1).f1).length c137_1, .slice A137_2 ((rd_T48 l0 x14_1).f2).length c137_2] 48 (0, 0)) (by refine bY ?_; exact BK138.out) hb)
                                       have n1_ := Aside0.mk (below_step belS hb)
                                       clear BK138
                                       clear HB
                                       have BK138 := n0_
                                       have HB := n1_
                                       clear n0_ n1_
                                       (try clear hb)
                                       (try clear hb2)
                                       (try clear hk)
                                       (try clear hi)
                                       refine hK.out _ _ ⟨(blk_cell BK138.out 0).trans rfl, (blk_cell BK138.out 1).trans rfl, (blk_cell BK138.out 2).trans rfl, ((HB.out.cell (World.block_lt_of_cell? w _ hw139_0)).trans hw139_0), ((HB.out.cell (World.block_lt_of_cell? w _ hw141_0)).trans hw141_0), ((HB.out.cell (World.block_lt_of_cell? w _ hw143_0)).trans hw143_0), ((HB.out.cell (World.block_lt_of_cell? w _ hw145_0)).trans hw145_0), ((HB.out.cell (World.block_lt_of_cell? w _ hw147_0)).trans hw147_0), ((HB.out.cell (World.block_lt_of_cell? w _ hw149_0)).trans hw149_0), ((HB.out.cell (World.block_lt_of_cell? w _ hw151_0)).trans hw151_0), ((HB.out.cell (World.block_lt_of_cell? w _ hw153_0)).trans hw153_0), ((HB.out.cell (World.block_lt_of_cell? w _ hw155_0)).trans hw155_0), ((HB.out.cell (World.block_lt_of_cell? w _ hw157_0)).trans hw157_0)⟩ (fun hHeld => ?_)
                                       clear hK K
                                       refine norm_ (a' := ?_) ?_ ?_
                                       rotate_left
                                       ·show Act.put _ (some 32) _ = _
                                        simp only [Act.put, sA, s0, s1, i64_w, i32_w]
                                        rfl
                                       refine pure_ (i := 13) (N := some 33) (v := ?_) (a' := ?_) (bnA 63 1024819115206098943) rfl rfl (any_of HT_.out (by kernel_rfl)) (fun _ _ _ h => h) (Or.inl ⟨by rfl, ?_⟩) ?_ ?_
                                       rotate_left
                                       ·intro w'
                                        go_simp
                                        first | with_reducible rfl | (rw [if_neg (by omega)])
                                       rotate_left
                                       ·simp only [Act.put, sA, s0, s1, i64_w, i32_w]
                                        rfl
                                       refine pure_ (i := 14) (N := some 34) (v := ?_) (a' := ?_) (bnA 63 1024819115206115327) rfl rfl (any_of HT_.out (by kernel_rfl)) (fun _ _ _ h => h) (Or.inl ⟨by rfl, ?_⟩) ?_ ?_
                                       rotate_left
                                       ·intro w'
                                        go_simp
                                        first | with_reducible rfl | (rw [if_neg (by omega)])
                                       rotate_left
                                       ·simp only [Act.put, sA, s0, s1, i64_w, i32_w]
                                        rfl
                                       refine one_ (i := 18) (N := some 38) (bnA 63 1024819115206377471) rfl rfl (one_of HT_.out (by kernel_rfl)) (by decide) (fun K hK => ?_)
                                       refine goes_ Tryz.func99 (by kernel_rfl) rfl #[.int .u64 (rd ((rd_T48 l0 x14_1).f1) 2), .int .i64 4] (by rfl) rfl rfl (by (try simp only [List.map_toArray, List.map_cons, List.map_nil]); first | done | rfl | (simp only [List.length_drop, List.length_take]; rfl)) ?_
                                       with_reducible refine (spec_upper.calls k1 (rd ((rd_T48 l0 x14_1).f1) 2) 4 t144 _ A18.out).mono ?_
                                       rintro e w57 ⟨rfl, hb⟩
                                       refine ⟨_, rfl, ?_⟩
                                       have n0_ := Aside0.mk (blk_below (g := gb138) (o := .cells #[.string ((rd_T48 l0 x14_1).f0), .slice (some ad139) ((rd_T48 l0 x14_1).f1).length c137_1, .slice A137_2 ((rd_T48 l0 x14_1).f2).length c137_2] 48 (0, 0)) (by refine bY ?_; exact BK138.out) hb)
                                       have n1_ := Aside0.mk (below_step belS hb)
                                       clear BK138
                                       clear HB
                                       have BK138 := n0_
                                       have HB := n1_
                                       clear n0_ n1_
                                       (try clear hb)
                                       (try clear hb2)
                                       (try clear hk)
                                       (try clear hi)
                                       refine hK.out _ _ ⟨(blk_cell BK138.out 0).trans rfl, (blk_cell BK138.out 1).trans rfl, (blk_cell BK138.out 2).trans rfl, ((HB.out.cell (World.block_lt_of_cell? w _ hw139_0)).trans hw139_0), ((HB.out.cell (World.block_lt_of_cell? w _ hw141_0)).trans hw141_0), ((HB.out.cell (World.block_lt_of_cell? w _ hw143_0)).trans hw143_0), ((HB.out.cell (World.block_lt_of_cell? w _ hw145_0)).trans hw145_0), ((HB.out.cell (World.block_lt_of_cell? w _ hw147_0)).trans hw147_0), ((HB.out.cell (World.block_lt_of_cell? w _ hw149_0)).trans hw149_0), ((HB.out.cell (World.block_lt_of_cell? w _ hw151_0)).trans hw151_0), ((HB.out.cell (World.block_lt_of_cell? w _ hw153_0)).trans hw153_0), ((HB.out.cell (World.block_lt_of_cell? w _ hw155_0)).trans hw155_0), ((HB.out.cell (World.block_lt_of_cell? w _ hw157_0)).trans hw157_0)⟩ (fun hHeld => ?_)
                                       clear hK K
                                       refine norm_ (a' := ?_) ?_ ?_
                                       rotate_left
                                       ·show Act.put _ (some 38) _ = _
                                        simp only [Act.put, sA, s0, s1, i64_w, i32_w]
                                        rfl
                                       refine pure_ (i := 19) (N := some 39) (v := ?_) (a' := ?_) (bnA 63 1024819115206901759) rfl rfl (any_of HT_.out (by kernel_rfl)) (fun _ _ _ h => h) (Or.inl ⟨by rfl, ?_⟩) ?_ ?_
                                       rotate_left
                                       ·intro w'
                                        go_simp
                                        first | with_reducible rfl | (rw [if_neg (by omega)])
                                       rotate_left
                                       ·simp only [Act.put, sA, s0, s1, i64_w, i32_w]
                                        rfl
                                       refine pure_ (i := 20) (N := some 40) (v := ?_) (a' := ?_) (bnA 63 1024819115207950335) rfl rfl (any_of HT_.out (by kernel_rfl)) (fun _ _ _ h => h) (Or.inl ⟨by rfl, ?_⟩) ?_ ?_
                                       rotate_left
                                       ·intro w'
                                        go_simp
                                        first | with_reducible rfl | (rw [if_neg (by omega)])
                                       rotate_left
                                       ·simp only [Act.put, sA, s0, s1, i64_w, i32_w]
                                        rfl
                                       refine one_ (i := 24) (N := some 44) (bnA 63 1024819115224727551) rfl rfl (one_of HT_.out (by kernel_rfl)) (by decide) (fun K hK => ?_)
                                       refine goes_ Tryz.func48 (by kernel_rfl) rfl #[.int .u64 (rd ((rd_T48 l0 x14_1).f1) 3)] (by rfl) rfl rfl (by (try simp only [List.map_toArray, List.map_cons, List.map_nil]); first | done | rfl | (simp only [List.length_drop, List.length_take]; rfl)) ?_
                                       with_reducible refine (spec_Text.calls k1 (rd ((rd_T48 l0 x14_1).f1) 3) t146 _ A22.out).mono ?_
                                       rintro e w58 ⟨rfl, hb⟩
                                       refine ⟨_, rfl, ?_⟩
                                       have n0_ := Aside0.mk (blk_below (g := gb138) (o := .cells #[.string ((rd_T48 l0 x14_1).f0), .slice (some ad139) ((rd_T48 l0 x14_1).f1).length c137_1, .slice A137_2 ((rd_T48 l0 x14_1).f2).length c137_2] 48 (0, 0)) (by refine bY ?_; exact BK138.out) hb)
                                       have n1_ := Aside0.mk (below_step belS hb)
                                       clear BK138
                                       clear HB
                                       have BK138 := n0_
                                       have HB := n1_
                                       clear n0_ n1_
                                       (try clear hb)
                                       (try clear hb2)
                                       (try clear hk)
                                       (try clear hi)
                                       refine hK.out _ _ ⟨(blk_cell BK138.out 0).trans rfl, (blk_cell BK138.out 1).trans rfl, (blk_cell BK138.out 2).trans rfl, ((HB.out.cell (World.block_lt_of_cell? w _ hw139_0)).trans hw139_0), ((HB.out.cell (World.block_lt_of_cell? w _ hw141_0)).trans hw141_0), ((HB.out.cell (World.block_lt_of_cell? w _ hw143_0)).trans hw143_0), ((HB.out.cell (World.block_lt_of_cell? w _ hw145_0)).trans hw145_0), ((HB.out.cell (World.block_lt_of_cell? w _ hw147_0)).trans hw147_0), ((HB.out.cell (World.block_lt_of_cell? w _ hw149_0)).trans hw149_0), ((HB.out.cell (World.block_lt_of_cell? w _ hw151_0)).trans hw151_0), ((HB.out.cell (World.block_lt_of_cell? w _ hw153_0)).trans hw153_0), ((HB.out.cell (World.block_lt_of_cell? w _ hw155_0)).trans hw155_0), ((HB.out.cell (World.block_lt_of_cell? w _ hw157_0)).trans hw157_0)⟩ (fun hHeld => ?_)
                                       clear hK K
                                       refine norm_ (a' := ?_) ?_ ?_
                                       rotate_left
                                       ·show Act.put _ (some 44) _ = _
                                        simp only [Act.put, sA, s0, s1, i64_w, i32_w]
                                        rfl
                                       refine pure_ (i := 25) (N := some 45) (v := ?_) (a' := ?_) (bnA 63 1024819115258281983) rfl rfl (any_of HT_.out (by kernel_rfl)) (fun _ _ _ h => h) (Or.inl ⟨by rfl, ?_⟩) ?_ ?_
                                       rotate_left
                                       ·intro w'
                                        go_simp
                                        first | with_reducible rfl | (rw [if_neg (by omega)])
                                       rotate_left
                                       ·simp only [Act.put, sA, s0, s1, i64_w, i32_w]
                                        rfl
                                       refine pure_ (i := 26) (N := some 46) (v := ?_) (a' := ?_) (bnA 63 1024819115325390847) rfl rfl (any_of HT_.out (by kernel_rfl)) (fun _ _ _ h => h) (Or.inl ⟨by rfl, ?_⟩) ?_ ?_
                                       rotate_left
                                       ·intro w'
                                        go_simp
                                        first | with_reducible rfl | (rw [if_neg (by omega)])
                                       rotate_left
                                       ·simp only [Act.put, sA, s0, s1, i64_w, i32_w]
                                        rfl
                                       refine one_ (i := 30) (N := some 50) (bnA 63 1024819116399132671) rfl rfl (one_of HT_.out (by kernel_rfl)) (by decide) (fun K hK => ?_)
                                       refine goes_ Tryz.func48 (by kernel_rfl) rfl #[.int .u64 (rd ((rd_T48 l0 x14_1).f1) 4)] (by rfl) rfl rfl (by (try simp only [List.map_toArray, List.map_cons, List.map_nil]); first | done | rfl | (simp only [List.length_drop, List.length_take]; rfl)) ?_
                                       with_reducible refine (spec_Text.calls k1 (rd ((rd_T48 l0 x14_1).f1) 4) t148 _ A26.out).mono ?_
                                       rintro e w59 ⟨rfl, hb⟩
                                       refine ⟨_, rfl, ?_⟩
                                       have n0_ := Aside0.mk (blk_below (g := gb138) (o := .cells #[.string ((rd_T48 l0 x14_1).f0), .slice (some ad139) ((rd_T48 l0 x14_1).f1).length c137_1, .slice A137_2 ((rd_T48 l0 x14_1).f2).length c137_2] 48 (0, 0)) (by refine bY ?_; exact BK138.out) hb)
                                       have n1_ := Aside0.mk (below_step belS hb)
                                       clear BK138
                                       clear HB
                                       have BK138 := n0_
                                       have HB := n1_
                                       clear n0_ n1_
                                       (try clear hb)
                                       (try clear hb2)
                                       (try clear hk)
                                       (try clear hi)
                                       refine hK.out _ _ ⟨(blk_cell BK138.out 0).trans rfl, (blk_cell BK138.out 1).trans rfl, (blk_cell BK138.out 2).trans rfl, ((HB.out.cell (World.block_lt_of_cell? w _ hw139_0)).trans hw139_0), ((HB.out.cell (World.block_lt_of_cell? w _ hw141_0)).trans hw141_0), ((HB.out.cell (World.block_lt_of_cell? w _ hw143_0)).trans hw143_0), ((HB.out.cell (World.block_lt_of_cell? w _ hw145_0)).trans hw145_0), ((HB.out.cell (World.block_lt_of_cell? w _ hw147_0)).trans hw147_0), ((HB.out.cell (World.block_lt_of_cell? w _ hw149_0)).trans hw149_0), ((HB.out.cell (World.block_lt_of_cell? w _ hw151_0)).trans hw151_0), ((HB.out.cell (World.block_lt_of_cell? w _ hw153_0)).trans hw153_0), ((HB.out.cell (World.block_lt_of_cell? w _ hw155_0)).trans hw155_0), ((HB.out.cell (World.block_lt_of_cell? w _ hw157_0)).trans hw157_0)⟩ (fun hHeld => ?_)
                                       clear hK K
                                       refine norm_ (a' := ?_) ?_ ?_
                                       rotate_left
                                       ·show Act.put _ (some 50) _ = _
                                        simp only [Act.put, sA, s0, s1, i64_w, i32_w]
                                        rfl
                                       refine pure_ (i := 31) (N := some 51) (v := ?_) (a' := ?_) (bnA 63 1024819118546616319) rfl rfl (any_of HT_.out (by kernel_rfl)) (fun _ _ _ h => h) (Or.inl ⟨by rfl, ?_⟩) ?_ ?_
                                       rotate_left
                                       ·intro w'
                                        go_simp
                                        first | with_reducible rfl | (rw [if_neg (by omega)])
                                       rotate_left
                                       ·simp only [Act.put, sA, s0, s1, i64_w, i32_w]
                                        rfl
                                       refine pure_ (i := 32) (N := some 52) (v := ?_) (a' := ?_) (bnA 63 1024819122841583615) rfl rfl (any_of HT_.out (by kernel_rfl)) (fun _ _ _ h => h) (Or.inl ⟨by rfl, ?_⟩) ?_ ?_
                                       rotate_left
                                       ·intro w'
                                        go_simp
                                        first | with_reducible rfl | (rw [if_neg (by omega)])
                                       rotate_left
                                       ·simp only [Act.put, sA, s0, s1, i64_w, i32_w]
                                        rfl
                                       refine one_ (i := 36) (N := some 56) (bnA 63 1024819191561060351) rfl rfl (one_of HT_.out (by kernel_rfl)) (by decide) (fun K hK => ?_)
                                       refine goes_ Tryz.func48 (by kernel_rfl) rfl #[.int .u64 (rd ((rd_T48 l0 x14_1).f1) 5)] (by rfl) rfl rfl (by (try simp only [List.map_toArray, List.map_cons, List.map_nil]); first | done | rfl | (simp only [List.length_drop, List.length_take]; rfl)) ?_
                                       with_reducible refine (spec_Text.calls k1 (rd ((rd_T48 l0 x14_1).f1) 5) t150 _ A30.out).mono ?_
                                       rintro e w60 ⟨rfl, hb⟩
                                       refine ⟨_, rfl, ?_⟩
                                       have n0_ := Aside0.mk (blk_below (g := gb138) (o := .cells #[.string ((rd_T48 l0 x14_1).f0), .slice (some ad139) ((rd_T48 l0 x14_1).f1).length c137_1, .slice A137_2 ((rd_T48 l0 x14_1).f2).length c137_2] 48 (0, 0)) (by refine bY ?_; exact BK138.out) hb)
                                       have n1_ := Aside0.mk (below_step belS hb)
                                       clear BK138
                                       clear HB
                                       have BK138 := n0_
                                       have HB := n1_
                                       clear n0_ n1_
                                       (try clear hb)
                                       (try clear hb2)
                                       (try clear hk)
                                       (try clear hi)
                                       refine hK.out _ _ ⟨(blk_cell BK138.out 0).trans rfl, (blk_cell BK138.out 1).trans rfl, (blk_cell BK138.out 2).trans rfl, ((HB.out.cell (World.block_lt_of_cell? w _ hw139_0)).trans hw139_0), ((HB.out.cell (World.block_lt_of_cell? w _ hw141_0)).trans hw141_0), ((HB.out.cell (World.block_lt_of_cell? w _ hw143_0)).trans hw143_0), ((HB.out.cell (World.block_lt_of_cell? w _ hw145_0)).trans hw145_0), ((HB.out.cell (World.block_lt_of_cell? w _ hw147_0)).trans hw147_0), ((HB.out.cell (World.block_lt_of_cell? w _ hw149_0)).trans hw149_0), ((HB.out.cell (World.block_lt_of_cell? w _ hw151_0)).trans hw151_0), ((HB.out.cell (World.block_lt_of_cell? w _ hw153_0)).trans hw153_0), ((HB.out.cell (World.block_lt_of_cell? w _ hw155_0)).trans hw155_0), ((HB.out.cell (World.block_lt_of_cell? w _ hw157_0)).trans hw157_0)⟩ (fun hHeld => ?_)
                                       clear hK K
                                       refine norm_ (a' := ?_) ?_ ?_
                                       rotate_left
                                       ·show Act.put _ (some 56) _ = _
                                        simp only [Act.put, sA, s0, s1, i64_w, i32_w]
                                        rfl
                                       refine pure_ (i := 37) (N := some 57) (v := ?_) (a' := ?_) (bnA 63 1024819329000013823) rfl rfl (any_of HT_.out (by kernel_rfl)) (fun _ _ _ h => h) (Or.inl ⟨by rfl, ?_⟩) ?_ ?_
                                       rotate_left
                                       ·intro w'
                                        go_simp
                                        first | with_reducible rfl | (rw [if_neg (by omega)])
                                       rotate_left
                                       ·simp only [Act.put, sA, s0, s1, i64_w, i32_w]
                                        rfl
                                       refine pure_ (i := 38) (N := some 58) (v := ?_) (a' := ?_) (bnA 63 1024819603877920767) rfl rfl (any_of HT_.out (by kernel_rfl)) (fun _ _ _ h => h) (Or.inl ⟨by rfl, ?_⟩) ?_ ?_
                                       rotate_left
                                       ·intro w'
                                        go_simp
                                        first | with_reducible rfl | (rw [if_neg (by omega)])
                                       rotate_left
                                       ·simp only [Act.put, sA, s0, s1, i64_w, i32_w]
                                        rfl
                                       refine one_ (i := 42) (N := some 62) (bnA 63 1024824001924431871) rfl rfl (one_of HT_.out (by kernel_rfl)) (by decide) (fun K hK => ?_)
                                       refine goes_ Tryz.func99 (by kernel_rfl) rfl #[.int .u64 (rd ((rd_T48 l0 x14_1).f1) 6), .int .i64 8] (by rfl) rfl rfl (by (try simp only [List.map_toArray, List.map_cons, List.map_nil]); first | done | rfl | (simp only [List.length_drop, List.length_take]; rfl)) ?_
                                       with_reducible refine (spec_upper.calls k1 (rd ((rd_T48 l0 x14_1).f1) 6) 8 t152 _ A34.out).mono ?_
                                       rintro e w61 ⟨rfl, hb⟩
                                       refine ⟨_, rfl, ?_⟩
                                       have n0_ := Aside0.mk (blk_below (g := gb138) (o := .cells #[.string ((rd_T48 l0 x14_1).f0), .slice (some ad139) ((rd_T48 l0 x14_1).f1).length c137_1, .slice A137_2 ((rd_T48 l0 x14_1).f2).length c137_2] 48 (0, 0)) (by refine bY ?_; exact BK138.out) hb)
                                       have n1_ := Aside0.mk (below_step belS hb)
                                       clear BK138
                                       clear HB
                                       have BK138 := n0_
                                       have HB := n1_
                                       clear n0_ n1_
                                       (try clear hb)
                                       (try clear hb2)
                                       (try clear hk)
                                       (try clear hi)
                                       refine hK.out _ _ ⟨(blk_cell BK138.out 0).trans rfl, (blk_cell BK138.out 1).trans rfl, (blk_cell BK138.out 2).trans rfl, ((HB.out.cell (World.block_lt_of_cell? w _ hw139_0)).trans hw139_0), ((HB.out.cell (World.block_lt_of_cell? w _ hw141_0)).trans hw141_0), ((HB.out.cell (World.block_lt_of_cell? w _ hw143_0)).trans hw143_0), ((HB.out.cell (World.block_lt_of_cell? w _ hw145_0)).trans hw145_0), ((HB.out.cell (World.block_lt_of_cell? w _ hw147_0)).trans hw147_0), ((HB.out.cell (World.block_lt_of_cell? w _ hw149_0)).trans hw149_0), ((HB.out.cell (World.block_lt_of_cell? w _ hw151_0)).trans hw151_0), ((HB.out.cell (World.block_lt_of_cell? w _ hw153_0)).trans hw153_0), ((HB.out.cell (World.block_lt_of_cell? w _ hw155_0)).trans hw155_0), ((HB.out.cell (World.block_lt_of_cell? w _ hw157_0)).trans hw157_0)⟩ (fun hHeld => ?_)
                                       clear hK K
                                       refine norm_ (a' := ?_) ?_ ?_
                                       rotate_left
                                       ·show Act.put _ (some 62) _ = _
                                        simp only [Act.put, sA, s0, s1, i64_w, i32_w]
                                        rfl
                                       refine pure_ (i := 43) (N := some 63) (v := ?_) (a' := ?_) (bnA 63 1024832798017454079) rfl rfl (any_of HT_.out (by kernel_rfl)) (fun _ _ _ h => h) (Or.inl ⟨by rfl, ?_⟩) ?_ ?_
                                       rotate_left
                                       ·intro w'
                                        go_simp
                                        first | with_reducible rfl | (rw [if_neg (by omega)])
                                       rotate_left
                                       ·simp only [Act.put, sA, s0, s1, i64_w, i32_w]
                                        rfl
                                       refine pure_ (i := 44) (N := some 64) (v := ?_) (a' := ?_) (bnA 63 1024850390203498495) rfl rfl (any_of HT_.out (by kernel_rfl)) (fun _ _ _ h => h) (Or.inl ⟨by rfl, ?_⟩) ?_ ?_
                                       rotate_left
                                       ·intro w'
                                        go_simp
                                        first | with_reducible rfl | (rw [if_neg (by omega)])
                                       rotate_left
                                       ·simp only [Act.put, sA, s0, s1, i64_w, i32_w]
                                        rfl
                                       refine one_ (i := 48) (N := some 68) (bnA 63 1025131865180209151) rfl rfl (one_of HT_.out (by kernel_rfl)) (by decide) (fun K hK => ?_)
                                       refine goes_ Tryz.func48 (by kernel_rfl) rfl #[.int .u64 (rd ((rd_T48 l0 x14_1).f1) 7)] (by rfl) rfl rfl (by (try simp only [List.map_toArray, List.map_cons, List.map_nil]); first | done | rfl | (simp only [List.length_drop, List.length_take]; rfl)) ?_
                                       with_reducible refine (spec_Text.calls k1 (rd ((rd_T48 l0 x14_1).f1) 7) t154 _ A38.out).mono ?_
                                       rintro e w62 ⟨rfl, hb⟩
                                       refine ⟨_, rfl, ?_⟩
                                       have n0_ := Aside0.mk (blk_below (g := gb138) (o := .cells #[.string ((rd_T48 l0 x14_1).f0), .slice (some ad139) ((rd_T48 l0 x14_1).f1).length c137_1, .slice A137_2 ((rd_T48 l0 x14_1).f2).length c137_2] 48 (0, 0)) (by refine bY ?_; exact BK138.out) hb)
                                       have n1_ := Aside0.mk (below_step belS hb)
                                       clear BK138
                                       clear HB
                                       have BK138 := n0_
                                       have HB := n1_
                                       clear n0_ n1_
                                       (try clear hb)
                                       (try clear hb2)
                                       (try clear hk)
                                       (try clear hi)
                                       refine hK.out _ _ ⟨(blk_cell BK138.out 0).trans rfl, (blk_cell BK138.out 1).trans rfl, (blk_cell BK138.out 2).trans rfl, ((HB.out.cell (World.block_lt_of_cell? w _ hw139_0)).trans hw139_0), ((HB.out.cell (World.block_lt_of_cell? w _ hw141_0)).trans hw141_0), ((HB.out.cell (World.block_lt_of_cell? w _ hw143_0)).trans hw143_0), ((HB.out.cell (World.block_lt_of_cell? w _ hw145_0)).trans hw145_0), ((HB.out.cell (World.block_lt_of_cell? w _ hw147_0)).trans hw147_0), ((HB.out.cell (World.block_lt_of_cell? w _ hw149_0)).trans hw149_0), ((HB.out.cell (World.block_lt_of_cell? w _ hw151_0)).trans hw151_0), ((HB.out.cell (World.block_lt_of_cell? w _ hw153_0)).trans hw153_0), ((HB.out.cell (World.block_lt_of_cell? w _ hw155_0)).trans hw155_0), ((HB.out.cell (World.block_lt_of_cell? w _ hw157_0)).trans hw157_0)⟩ (fun hHeld => ?_)
                                       clear hK K
                                       refine norm_ (a' := ?_) ?_ ?_
                                       rotate_left
                                       ·show Act.put _ (some 68) _ = _
                                        simp only [Act.put, sA, s0, s1, i64_w, i32_w]
                                        rfl
                                       refine pure_ (i := 49) (N := some 69) (v := ?_) (a' := ?_) (bnA 63 1025694815133630463) rfl rfl (any_of HT_.out (by kernel_rfl)) (fun _ _ _ h => h) (Or.inl ⟨by rfl, ?_⟩) ?_ ?_
                                       rotate_left
                                       ·intro w'
                                        go_simp
                                        first | with_reducible rfl | (rw [if_neg (by omega)])
                                       rotate_left
                                       ·simp only [Act.put, sA, s0, s1, i64_w, i32_w]
                                        rfl
                                       refine pure_ (i := 50) (N := some 70) (v := ?_) (a' := ?_) (bnA 63 1026820715040473087) rfl rfl (any_of HT_.out (by kernel_rfl)) (fun _ _ _ h => h) (Or.inl ⟨by rfl, ?_⟩) ?_ ?_
                                       rotate_left
                                       ·intro w'
                                        go_simp
                                        first | with_reducible rfl | (rw [if_neg (by omega)])
                                       rotate_left
                                       ·simp only [Act.put, sA, s0, s1, i64_w, i32_w]
                                        rfl
                                       refine one_ (i := 54) (N := some 74) (bnA 63 1044835113549955071) rfl rfl (one_of HT_.out (by kernel_rfl)) (by decide) (fun K hK => ?_)
                                       refine goes_ Tryz.func48 (by kernel_rfl) rfl #[.int .u64 (rd ((rd_T48 l0 x14_1).f1) 8)] (by rfl) rfl rfl (by (try simp only [List.map_toArray, List.map_cons, List.map_nil]); first | done | rfl | (simp only [List.length_drop, List.length_take]; rfl)) ?_
                                       with_reducible refine (spec_Text.calls k1 (rd ((rd_T48 l0 x14_1).f1) 8) t156 _ A42.out).mono ?_
                                       rintro e w63 ⟨rfl, hb⟩
                                       refine ⟨_, rfl, ?_⟩
                                       have n0_ := Aside0.mk (blk_below (g := gb138) (o := .cells #[.string ((rd_T48 l0 x14_1).f0), .slice (some ad139) ((rd_T48 l0 x14_1).f1).length c137_1, .slice A137_2 ((rd_T48 l0 x14_1).f2).length c137_2] 48 (0, 0)) (by refine bY ?_; exact BK138.out) hb)
                                       have n1_ := Aside0.mk (below_step belS hb)
                                       clear BK138
                                       clear HB
                                       have BK138 := n0_
                                       have HB := n1_
                                       clear n0_ n1_
                                       (try clear hb)
                                       (try clear hb2)
                                       (try clear hk)
                                       (try clear hi)
                                       refine hK.out _ _ ⟨(blk_cell BK138.out 0).trans rfl, (blk_cell BK138.out 1).trans rfl, (blk_cell BK138.out 2).trans rfl, ((HB.out.cell (World.block_lt_of_cell? w _ hw139_0)).trans hw139_0), ((HB.out.cell (World.block_lt_of_cell? w _ hw141_0)).trans hw141_0), ((HB.out.cell (World.block_lt_of_cell? w _ hw143_0)).trans hw143_0), ((HB.out.cell (World.block_lt_of_cell? w _ hw145_0)).trans hw145_0), ((HB.out.cell (World.block_lt_of_cell? w _ hw147_0)).trans hw147_0), ((HB.out.cell (World.block_lt_of_cell? w _ hw149_0)).trans hw149_0), ((HB.out.cell (World.block_lt_of_cell? w _ hw151_0)).trans hw151_0), ((HB.out.cell (World.block_lt_of_cell? w _ hw153_0)).trans hw153_0), ((HB.out.cell (World.block_lt_of_cell? w _ hw155_0)).trans hw155_0), ((HB.out.cell (World.block_lt_of_cell? w _ hw157_0)).trans hw157_0)⟩ (fun hHeld => ?_)
                                       clear hK K
                                       refine norm_ (a' := ?_) ?_ ?_
                                       rotate_left
                                       ·show Act.put _ (some 74) _ = _
                                        simp only [Act.put, sA, s0, s1, i64_w, i32_w]
                                        rfl
                                       refine pure_ (i := 55) (N := some 75) (v := ?_) (a' := ?_) (bnA 63 1080863910568919039) rfl rfl (any_of HT_.out (by kernel_rfl)) (fun _ _ _ h => h) (Or.inl ⟨by rfl, ?_⟩) ?_ ?_
                                       rotate_left
                                       ·intro w'
                                        go_simp
                                        first | with_reducible rfl | (rw [if_neg (by omega)])
                                       rotate_left
                                       ·simp only [Act.put, sA, s0, s1, i64_w, i32_w]
                                        rfl
                                       refine pure_ (i := 56) (N := some 76) (v := ?_) (a' := ?_) (tfA 60 3) rfl rfl (any_of HT_.out (by kernel_rfl)) (fun _ _ _ h => h) (Or.inl ⟨by rfl, ?_⟩) ?_ ?_
                                       rotate_left
                                       ·intro w'
                                        go_simp
                                        first | with_reducible rfl | (rw [if_neg (by omega)])
                                       rotate_left
                                       ·simp only [Act.put, sA, s0, s1, i64_w, i32_w]
                                        rfl
                                       refine one_ (i := 60) (N := some 80) (tfA 61 2) rfl rfl (one_of HT_.out (by kernel_rfl)) (by decide) (fun K hK => ?_)
                                       refine goes_ Tryz.func48 (by kernel_rfl) rfl #[.int .u64 (rd ((rd_T48 l0 x14_1).f1) 9)] (by rfl) rfl rfl (by (try simp only [List.map_toArray, List.map_cons, List.map_nil]); first | done | rfl | (simp only [List.length_drop, List.length_take]; rfl)) ?_
                                       with_reducible refine (spec_Text.calls k1 (rd ((rd_T48 l0 x14_1).f1) 9) t158 _ A46.out).mono ?_
                                       rintro e w64 ⟨rfl, hb⟩
                                       refine ⟨_, rfl, ?_⟩
                                       have n0_ := Aside0.mk (blk_below (g := gb138) (o := .cells #[.string ((rd_T48 l0 x14_1).f0), .slice (some ad139) ((rd_T48 l0 x14_1).f1).length c137_1, .slice A137_2 ((rd_T48 l0 x14_1).f2).length c137_2] 48 (0, 0)) (by refine bY ?_; exact BK138.out) hb)
                                       have n1_ := Aside0.mk (below_step belS hb)
                                       clear BK138
                                       clear HB
                                       have BK138 := n0_
                                       have HB := n1_
                                       clear n0_ n1_
                                       (try clear hb)
                                       (try clear hb2)
                                       (try clear hk)
                                       (try clear hi)
                                       refine hK.out _ _ ⟨(blk_cell BK138.out 0).trans rfl, (blk_cell BK138.out 1).trans rfl, (blk_cell BK138.out 2).trans rfl, ((HB.out.cell (World.block_lt_of_cell? w _ hw139_0)).trans hw139_0), ((HB.out.cell (World.block_lt_of_cell? w _ hw141_0)).trans hw141_0), ((HB.out.cell (World.block_lt_of_cell? w _ hw143_0)).trans hw143_0), ((HB.out.cell (World.block_lt_of_cell? w _ hw145_0)).trans hw145_0), ((HB.out.cell (World.block_lt_of_cell? w _ hw147_0)).trans hw147_0), ((HB.out.cell (World.block_lt_of_cell? w _ hw149_0)).trans hw149_0), ((HB.out.cell (World.block_lt_of_cell? w _ hw151_0)).trans hw151_0), ((HB.out.cell (World.block_lt_of_cell? w _ hw153_0)).trans hw153_0), ((HB.out.cell (World.block_lt_of_cell? w _ hw155_0)).trans hw155_0), ((HB.out.cell (World.block_lt_of_cell? w _ hw157_0)).trans hw157_0)⟩ (fun hHeld => ?_)
                                       clear hK K
                                       refine norm_ (a' := ?_) ?_ ?_
                                       rotate_left
                                       ·show Act.put _ (some 80) _ = _
                                        simp only [Act.put, sA, s0, s1, i64_w, i32_w]
                                        rfl
                                       refine pure_ (i := 61) (N := some 81) (v := ?_) (a' := ?_) (tfA 62 1) rfl rfl (any_of HT_.out (by kernel_rfl)) (fun _ _ _ h => h) (Or.inl ⟨by rfl, ?_⟩) ?_ ?_
                                       rotate_left
                                       ·intro w'
                                        go_simp
                                        first | with_reducible rfl | (rw [if_neg (by omega)])
                                       rotate_left
                                       ·simp only [Act.put, sA, s0, s1, i64_w, i32_w]
                                        rfl
                                       refine pure_ (i := 62) (N := some 8) (v := ?_) (a' := ?_) (tfA 63 0) rfl rfl (any_of HT_.out (by kernel_rfl)) (fun _ _ _ h => h) (Or.inl ⟨by rfl, ?_⟩) ?_ ?_
                                       rotate_left
                                       ·intro w'
                                        go_simp
                                        first | with_reducible rfl | (rw [if_neg (by omega)])
                                       rotate_left
                                       ·simp only [Act.put, sA, s0, s1, i64_w, i32_w]
                                        rfl
                                       refine done_ (done_of HT_.out (by kernel_rfl)) ?_
                                       try go_wp2_with (first | ((with_reducible refine gate_callee (f := 100) rfl ?_); refine goesL_ (some 84) rfl rfl Tryz.func100 (by kernel_rfl) rfl #[.string ((((((((((((((((((((((rd_T48 l0 x14_1).f0) ++ (⟨#[9]⟩ : ByteArray)) ++ t140) ++ (⟨#[9]⟩ : ByteArray)) ++ t142) ++ (⟨#[9]⟩ : ByteArray)) ++ t144) ++ (⟨#[9]⟩ : ByteArray)) ++ t146) ++ (⟨#[9]⟩ : ByteArray)) ++ t148) ++ (⟨#[9]⟩ : ByteArray)) ++ t150) ++ (⟨#[9]⟩ : ByteArray)) ++ t152) ++ (⟨#[9]⟩ : ByteArray)) ++ t154) ++ (⟨#[9]⟩ : ByteArray)) ++ t156) ++ (⟨#[9]⟩ : ByteArray)) ++ t158), .int .i64 127] rfl (by (try simp only [List.map_toArray, List.map_cons, List.map_nil]); first | done | rfl | (simp only [List.length_drop, List.length_take]; rfl)) ?_; (with_reducible refine (spec_Left.calls k1 ((((((((((((((((((((((rd_T48 l0 x14_1).f0) ++ (⟨#[9]⟩ : ByteArray)) ++ t140) ++ (⟨#[9]⟩ : ByteArray)) ++ t142) ++ (⟨#[9]⟩ : ByteArray)) ++ t144) ++ (⟨#[9]⟩ : ByteArray)) ++ t146) ++ (⟨#[9]⟩ : ByteArray)) ++ t148) ++ (⟨#[9]⟩ : ByteArray)) ++ t150) ++ (⟨#[9]⟩ : ByteArray)) ++ t152) ++ (⟨#[9]⟩ : ByteArray)) ++ t154) ++ (⟨#[9]⟩ : ByteArray)) ++ t156) ++ (⟨#[9]⟩ : ByteArray)) ++ t158) 127 t159 _ A48.out).mono ?_); rintro e w' ⟨rfl, ⟨nd, rfl⟩⟩; refine ⟨_, rfl, ?_⟩))
                                       go_roundg k1
                                       case measure => have := HK1.out; omega
                                       case rel => exact ⟨(x4_1 ++ (t159 ++ (⟨#[10]⟩ : ByteArray))), (wrap64 (x14_1 + 1)), (by first | rfl | (simp; done) | (simp [*]; done) | (simp [bne_nil]; done) | (simp [bne_nil, *]; done)), (by first | rfl | (simp; done) | (simp [*]; done) | (simp [bne_nil]; done) | (simp [bne_nil, *]; done)), H', ⟨by have := HK1.out; omega⟩, ⟨by repeat (first | (with_reducible first | exact HB.out | apply below_alloc | apply pw_below_drewN | apply below_drew1 | refine below_set ?_ GE138.out) | exact HB.out)⟩⟩
                                      ·rw [if_neg c50] at H
                                       exact absurd H (by simp)
                                     ·rw [if_neg c49] at H
                                      exact absurd H (by simp)
                                    ·rw [if_neg c47] at H
                                     exact absurd H (by simp)
                                   ·rw [if_neg c45] at H
                                    exact absurd H (by simp)
                                  ·rw [if_neg c44] at H
                                   exact absurd H (by simp)
                                 ·rw [if_neg c43] at H
                                  exact absurd H (by simp)
                                ·rw [if_neg c41] at H
                                 exact absurd H (by simp)
                               ·rw [if_neg c40] at H
                                exact absurd H (by simp)
                              ·rw [if_neg c39] at H
                               exact absurd H (by simp)
                             ·rw [if_neg c37] at H
                              exact absurd H (by simp)
                            ·rw [if_neg c36] at H
                             exact absurd H (by simp)
                           ·rw [if_neg c35] at H
                            exact absurd H (by simp)
                          ·rw [if_neg c33] at H
                           exact absurd H (by simp)
                         ·rw [if_neg c32] at H
                          exact absurd H (by simp)
                        ·rw [if_neg c31] at H
                         exact absurd H (by simp)
                       ·rw [if_neg c29] at H
                        exact absurd H (by simp)
                      ·rw [if_neg c28] at H
                       exact absurd H (by simp)
                     ·rw [if_neg c27] at H
                      exact absurd H (by simp)
                    ·rw [if_neg c25] at H
                     exact absurd H (by simp)
                   ·rw [if_neg c24] at H
                    exact absurd H (by simp)
                  ·rw [if_neg c23] at H
                   exact absurd H (by simp)
                 ·rw [if_neg c21] at H
                  exact absurd H (by simp)
                ·rw [if_neg c20] at H
                 exact absurd H (by simp)
               ·rw [if_neg c19] at H
                exact absurd H (by simp)
              ·rw [if_neg c17] at H
               exact absurd H (by simp)
             ·rw [if_neg c16] at H
              exact absurd H (by simp)
            ·rw [if_neg c15] at H
             exact absurd H (by simp)
           ·rw [if_neg c13] at H
            exact absurd H (by simp)
          ·rw [if_neg c12] at H
           exact absurd H (by simp)
         ·rw [if_neg c11] at H
          exact absurd H (by simp)
        ·rw [if_neg c9] at H
         exact absurd H (by simp)
       ·rw [if_neg c8] at H
        exact absurd H (by simp)
      ·rw [if_neg c7] at H
       exact absurd H (by simp)
     ·rw [if_neg c6] at H
      exact absurd H (by simp)
    ·rw [if_neg c5] at H
     have c5b0 : decide (x14_1 < (l0.length : Int)) = false := decide_eq_false c5
     clear c5
     simp only [Option.some.injEq, Prod.mk.injEq] at H
     obtain ⟨rfl, rfl⟩ := H
     go_wp2
     go_ret2
     exact ⟨by first | rfl | (simp [errW_none, errW_some] <;> rfl) | (simp [*, errW_none, errW_some] <;> rfl), by repeat (first | (with_reducible first | exact HB.out | apply below_alloc | apply pw_below_drewN | apply below_drew1) | exact HB.out)⟩
 ·replace c3 := Bool.eq_false_iff.mpr c3
  subst c3
  have H1 : (some ((⟨#[]⟩ : ByteArray), 2)) = some (r1, r2) := by rw [if_neg (show ¬ (false = true) by decide)] at H; exact H
  clear H
  have H := H1
  clear H1
  simp only [Option.some.injEq, Prod.mk.injEq] at H
  obtain ⟨rfl, rfl⟩ := H
  go_enter Tryz.func31, Tryz.ntmps31
  go_wp2_with (first | ((with_reducible refine gate_callee (f := 98) rfl ?_); refine goesL_ (some 10) rfl rfl Tryz.func98 (by kernel_rfl) rfl #[.slice A0 l0.length c0] rfl (by (try simp only [List.map_toArray, List.map_cons, List.map_nil]); first | done | rfl | (simp only [List.length_drop, List.length_take]; rfl)) ?_; (with_reducible refine (spec_routeFine.calls k _ _ l0 false _ ?side1 ?side2 A2.out).mono ?_); (case side1 => repeat (first | exact HR0.out | (with_reducible refine Kd.C_alloc ?_ _) | (with_reducible refine Kd.C_drewN ?_ _) | (with_reducible refine Kd.C_drew ?_))); (case side2 => exact HC0.out); rintro e w65 ⟨rfl, hb⟩; refine ⟨_, rfl, ?_⟩; have n0_ := Aside0.mk (below_step belH hb); clear HB; have HB := n0_; clear n0_; (try clear hb); (try clear hb2); (try clear hk); (try clear hi)))
  go_ret2
  exact ⟨by first | rfl | (simp [errW_none, errW_some] <;> rfl) | (simp [*, errW_none, errW_some] <;> rfl), by repeat (first | (with_reducible first | exact HB.out | apply below_alloc | apply pw_below_drewN | apply below_drew1) | exact HB.out)⟩

end Go.Proofs.YtdmpbaanonafbaaGreatDoor.U
