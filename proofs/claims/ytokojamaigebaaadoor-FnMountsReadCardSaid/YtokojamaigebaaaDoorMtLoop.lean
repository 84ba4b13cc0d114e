/- mountinfo.GetMountsFromReader by hand: lines that are mounts, through a filter. -/
import Derived.Test.YtokojamaigebaaaDoorM0
import Derived.Test.YtokojamaigebaaaDoorU1
import Derived.Test.YtokojamaigebaaaDoorU2
import Derived.Test.YtokojamaigebaaaDoorGivM
import Derived.Test.YtokojamaigebaaaDoorMtScan
import Derived.Deep.LoopGhost
import Derived.Tactics
import Derived.Tactics2
import Derived.Lib.Hide
namespace Go.Proofs.YtokojamaigebaaaDoor.MtLoop
open Go.RowKit Go.Proofs.YtokojamaigebaaaDoorW.PrintWords Go.Proofs.YtokojamaigebaaaDoorW.PrintLast Go.Proofs.YtokojamaigebaaaDoorW.PrintMore Go.Proofs.YtokojamaigebaaaDoor.Scan Go.Proofs.YtokojamaigebaaaDoor.ScanL Go.Proofs.YtokojamaigebaaaDoor.GivM Go.Proofs.YtokojamaigebaaaDoor.M Go.Proofs.YtokojamaigebaaaDoor.U
attribute [local go_sem] max2_int min2_int max_two min_two max_three min_three max_four min_four
set_option linter.unusedVariables false
set_option linter.unusedSimpArgs false
def mt_T17 : Bool × List (List Nat × List Nat) := (true, [([], []), ([0], [0]), ([1], [1]), ([2], [2]), ([], []), ([4], [4]), ([5], [5]), ([6, 3], [6]), ([], []), ([8, 7], [8]), ([], []), ([10, 9], [10]), ([], []), ([12], [12]), ([13], [13]), ([14, 11], [14]), ([], []), ([16], [16]), ([17], [17]), ([18, 15], [18]), ([], []), ([20], [20]), ([21], [21]), ([], []), ([], []), ([23, 24], [23, 24]), ([25, 19], [25]), ([], []), ([], []), ([28], [28]), ([27, 29], [27, 29]), ([30], [30]), ([31, 26], [31]), ([], []), ([], []), ([34], [34]), ([33, 35], [33, 35]), ([36], [36]), ([37, 32], [37]), ([], []), ([], []), ([40], [40]), ([39, 41], [39, 41]), ([42], [42]), ([3, 7, 9, 11, 15, 19, 22, 26, 32, 38, 43], [3, 7, 9, 11, 15, 19, 22, 26, 32, 38, 43]), ([44], [44]), ([45, 38, 0, 1, 2, 3, 4, 5, 6, 7, 8, 9, 10, 11, 12, 13, 14, 15, 16, 17, 18, 19, 20, 21, 22, 23, 24, 25, 26, 27, 28, 29, 30, 31, 32, 33, 34, 35, 36, 37, 38, 39, 40, 41, 42, 43, 44, 45], [45])])
def mt_B17 : List Nat := [0, 1, 3, 7, 0, 16, 48, 127, 0, 511, 0, 2047, 0, 4096, 12288, 32767, 0, 65536, 196608, 524287, 0, 1048576, 3145728, 0, 0, 25165824, 59768831, 0, 0, 268435456, 939524096, 2013265920, 4287627263, 0, 0, 17179869184, 60129542144, 128849018880, 274870566911, 0, 0, 1099511627776, 3848290697216, 8246337208320, 17592186044415, 35184372088831, 70368744177663]
theorem mt_tab17 : rtab .any (opsOf Tryd.f25 17) = mt_T17 := by kernel_rfl
theorem mt_bits17 : waitsOk mt_T17.2 mt_B17 = true := by kernel_rfl

theorem run_equalIn_func_nil {P : Program} (w : World) (d : Nat) (t : TypeId) (a b : Array TypeId) (c : Bool) (fn : Fn) (x y : Array Value) (h : P.underlying t = some (.func a b c)) : (Op.equalIn (d + 1) t (.func fn x y) .nilFunc).run P w = .ok false w := by
  simp [Op.equalIn, run_underlying h]
theorem run_equalIn_nil_nil {P : Program} (w : World) (d : Nat) (t : TypeId) (a b : Array TypeId) (c : Bool) (h : P.underlying t = some (.func a b c)) : (Op.equalIn (d + 1) t .nilFunc .nilFunc).run P w = .ok true w := by
  simp [Op.equalIn, run_underlying h]
theorem run_neq_func {P : Program} (w : World) (t : TypeId) (a b : Array TypeId) (c : Bool) (fn : Fn) (x y : Array Value) (h : P.underlying t = some (.func a b c)) : (binOp .neq t (.func fn x y) .nilFunc).run P w = .ok (.bool true) w := by
  simp only [binOp]
  simp [Op.equal, Op.maxDepth, run_equalIn_func_nil w 9999 t a b c fn x y h]
theorem run_neq_func_nil {P : Program} (w : World) (t : TypeId) (a b : Array TypeId) (c : Bool) (h : P.underlying t = some (.func a b c)) : (binOp .neq t .nilFunc .nilFunc).run P w = .ok (.bool false) w := by
  simp only [binOp]
  simp [Op.equal, Op.maxDepth, run_equalIn_nil_nil w 9999 t a b c h]
theorem info_pi : (Tryd.prog.info? 58).map (fun i => (i.zero, i.size, i.bytes)) = some (some (.pointer none), 1, 8) := by kernel_rfl
def mtCells (x : S23) : Array Value := #[.int .i64 x.f0, .int .i64 x.f1, .int .i64 x.f2, .int .i64 x.f3, .string x.f4, .string x.f5, .string x.f6, .string x.f7, .string x.f8, .string x.f9, .string x.f10]
/-- A pointer to a mount's record: each in a block of its own. -/
def pmnt : Kd S23 where
  sz := 1
  E := [59]
  K := fun w x cs => ∃ g, cs = [.pointer (some ⟨g, 0, none⟩)] ∧ w.heap[g]? = some (.cells (mtCells x) 59 (0, 0))
  M := fun w base ok x cs => ∃ g, cs = [.pointer (some ⟨g, 0, none⟩)] ∧ base ≤ g ∧ ok g ∧ w.heap[g]? = some (.cells (mtCells x) 59 (0, 0))
  K_len := by rintro w x cs ⟨g, rfl, _⟩; rfl
  K_one := by rintro w x cs ⟨g, rfl, _⟩ u hu; rw [List.mem_singleton.1 hu]; rfl
  K_below := by rintro w w1 x cs hb ⟨g, rfl, h⟩; exact ⟨g, rfl, blk_below h hb⟩
  K_of_M := by rintro w base ok x cs ⟨g, rfl, _, _, h⟩; exact ⟨g, rfl, h⟩
  M_mono := by rintro w base ok ok' x cs hok ⟨g, rfl, h1, h2, h3⟩; exact ⟨g, rfl, h1, hok g h2, h3⟩
  M_bound := by rintro w base ok x cs ⟨g, rfl, h1, h2, h3⟩; exact ⟨g, rfl, h1, ⟨h2, h1, blk_lt h3, _, List.mem_singleton.2 rfl, _, h3⟩, h3⟩
  M_move := by rintro w w1 base ok x cs hm ⟨g, rfl, h1, h2, h3⟩; exact ⟨g, rfl, h1, h2, (hm g h2).trans h3⟩
  M_lower := by rintro w base base' ok x cs hb ⟨g, rfl, h1, h2, h3⟩; exact ⟨g, rfl, Nat.le_trans hb h1, h2, h3⟩
/-- Where the dash stands that ends the optional fields. -/
structure SepAt (ps : List ByteArray) (a1 : Int) : Prop where
  lo : 6 ≤ a1
  hi : a1 + 4 ≤ ps.length
  is : (rdOf ByteArray.empty ps a1).toList = [45]
  no : ∀ j : Int, a1 < j → j + 4 ≤ ps.length → ¬ (rdOf ByteArray.empty ps j).toList = [45]
  few : ps.length ≤ 1000000
/-- A line that is a mount. -/
def MtL (l : ByteArray) (m : S23) : Prop := ∃ (ku : Nat) (ps : List ByteArray) (a1 : Int) (a2 a3 : ByteArray), mountinfo_zzSplit.f ku l (⟨#[32]⟩ : ByteArray) = some ps ∧ SepAt ps a1 ∧ mountinfo_zzCut.f ku (rdOf ByteArray.empty ps 2) (⟨#[58]⟩ : ByteArray) = some (a2, a3, true) ∧
  mountinfo_toInt.f (rdOf ByteArray.empty ps 0) = some m.f0 ∧ mountinfo_toInt.f (rdOf ByteArray.empty ps 1) = some m.f1 ∧ mountinfo_toInt.f a2 = some m.f2 ∧ mountinfo_toInt.f a3 = some m.f3 ∧
  mountinfo_unescape.f ku (rdOf ByteArray.empty ps 3) = some m.f4 ∧ mountinfo_unescape.f ku (rdOf ByteArray.empty ps 4) = some m.f5 ∧ rdOf ByteArray.empty ps 5 = m.f6 ∧ strings_Join.f ((ps.take a1.toNat).drop 6) (⟨#[32]⟩ : ByteArray) = some m.f7 ∧
  mountinfo_unescape.f ku (rdOf ByteArray.empty ps (a1 + 1)) = some m.f8 ∧ mountinfo_unescape.f ku (rdOf ByteArray.empty ps (a1 + 2)) = some m.f9 ∧ rdOf ByteArray.empty ps (a1 + 3) = m.f10 ∧ m.f5.size ≤ 1000000
end Go.Proofs.YtokojamaigebaaaDoor.MtLoop
