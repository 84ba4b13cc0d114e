/- What the print does not take, by hand, in the print's form: strings.Fields (ASCII), texts.Read, strconv.ParseUint (base 10); the library's tables as a premise on the world (Tabs). The laying of strings.Fields' contract: printed by the kit's lay-plain.mjs. -/
import Derived.Shelf.Strings.Fields
import Derived.WalkSmall
import Derived.Test.YtdmpbaanonafbaaGreatDoorGivDec
import Derived.Test.YtdmpbaanonafbaaGreatDoorWMore
namespace Go.Proofs.YtdmpbaanonafbaaGreatDoor.GivZ
open Go.Shelf
def lays157_ren : Go.Shelf.Ren := ⟨fun | 157 => 155 | 229 => 166 | 199 => 167 | 261 => 180 | 311 => 187 | 312 => 188 | n => n, fun | 9 => 9 | 31 => 42 | 3 => 3 | 5 => 5 | 4 => 4 | 119 => 210 | 0 => 0 | 40 => 212 | 152 => 226 | 21 => 21 | 154 => 228 | 51 => 121 | 141 => 230 | 196 => 243 | 193 => 240 | 198 => 246 | 49 => 244 | 194 => 241 | 201 => 249 | 226 => 258 | 46 => 198 | 227 => 259 | n => n, fun | 0 => 1 | 6 => 2 | n => n⟩
theorem lays157 : Go.Proofs.Lays.n157 Tryz.prog lays157_ren := {
  mixed := by kernel_rfl
  f157 := Tryz.func155.trans (congrArg some (by kernel_rfl))
  f199 := Tryz.func167.trans (congrArg some (by kernel_rfl))
  f229 := Tryz.func166.trans (congrArg some (by kernel_rfl))
  f261 := Tryz.func180.trans (congrArg some (by kernel_rfl))
  f311 := Tryz.func187.trans (congrArg some (by kernel_rfl))
  f312 := Tryz.func188.trans (congrArg some (by kernel_rfl))
  t0 := Tryz.underlying0
  a0 := Tryz.isAgg0
  z0 := Tryz.sizeOf0
  v0 := Tryz.zeroValue0
  t3 := Tryz.underlying3
  a3 := Tryz.isAgg3
  z3 := Tryz.sizeOf3
  v3 := Tryz.zeroValue3
  t4 := Tryz.underlying4
  a4 := Tryz.isAgg4
  z4 := Tryz.sizeOf4
  v4 := Tryz.zeroValue4
  t5 := Tryz.underlying5
  a5 := Tryz.isAgg5
  z5 := Tryz.sizeOf5
  v5 := Tryz.zeroValue5
  t9 := Tryz.underlying9
  a9 := Tryz.isAgg9
  z9 := Tryz.sizeOf9
  v9 := Tryz.zeroValue9
  t21 := Tryz.underlying21
  a21 := Tryz.isAgg21
  z21 := Tryz.sizeOf21
  v21 := Tryz.zeroValue21
  t31 := Tryz.underlying42
  a31 := Tryz.isAgg42
  z31 := Tryz.sizeOf42
  v31 := Tryz.zeroValue42
  t40 := Tryz.underlying212
  a40 := Tryz.isAgg212
  z40 := Tryz.sizeOf212
  v40 := Tryz.zeroValue212
  t46 := Tryz.underlying198
  a46 := Tryz.isAgg198
  z46 := Tryz.sizeOf198
  v46 := Tryz.zeroValue198
  t49 := Tryz.underlying244
  a49 := Tryz.isAgg244
  z49 := Tryz.sizeOf244
  v49 := Tryz.zeroValue244
  t51 := Tryz.underlying121
  a51 := Tryz.isAgg121
  z51 := Tryz.sizeOf121
  v51 := Tryz.zeroValue121
  t119 := Tryz.underlying210
  a119 := Tryz.isAgg210
  z119 := Tryz.sizeOf210
  t141 := Tryz.underlying230
  a141 := Tryz.isAgg230
  z141 := Tryz.sizeOf230
  v141 := Tryz.zeroValue230
  t152 := Tryz.underlying226
  a152 := Tryz.isAgg226
  z152 := Tryz.sizeOf226
  v152 := Tryz.zeroValue226
  t154 := Tryz.underlying228
  a154 := Tryz.isAgg228
  z154 := Tryz.sizeOf228
  v154 := Tryz.zeroValue228
  t193 := Tryz.underlying240
  a193 := Tryz.isAgg240
  z193 := Tryz.sizeOf240
  v193 := Tryz.zeroValue240
  t194 := Tryz.underlying241
  a194 := Tryz.isAgg241
  z194 := Tryz.sizeOf241
  v194 := Tryz.zeroValue241
  t196 := Tryz.underlying243
  a196 := Tryz.isAgg243
  z196 := Tryz.sizeOf243
  v196 := Tryz.zeroValue243
  t198 := Tryz.underlying246
  a198 := Tryz.isAgg246
  z198 := Tryz.sizeOf246
  v198 := Tryz.zeroValue246
  t201 := Tryz.underlying249
  a201 := Tryz.isAgg249
  z201 := Tryz.sizeOf249
  v201 := Tryz.zeroValue249
  t226 := Tryz.underlying258
  a226 := Tryz.isAgg258
  z226 := Tryz.sizeOf258
  v226 := Tryz.zeroValue258
  t227 := Tryz.underlying259
  a227 := Tryz.isAgg259
  z227 := Tryz.sizeOf259
  v227 := Tryz.zeroValue259
  g0 := by kernel_rfl
  g6 := by kernel_rfl }
open Go.RowKit Go.Proofs.YtdmpbaanonafbaaGreatDoorW.PrintWords Go.Proofs.YtdmpbaanonafbaaGreatDoor.GivDec
set_option linter.unusedVariables false

theorem strings_Fields_ascii (s : ByteArray) (w : World) (hs : s.size < 4294967281) (hascii : ∀ (j : Nat) b, s.data.toList[j]? = some b → b.toNat < 128) (htab : Lib.TabIs Tryz.prog w "strings.asciiSpace" .u8 Lib.asciiSpaceTab) :
    Calls Tryz.prog 155 #[.string s] w fun e w' =>
      e = .returned (.slice (some ⟨w.heap.size, 0, none⟩) (Lib.fields s.data.toList).length (Lib.fields s.data.toList).length) ∧ w' = w.alloc (.cells ((Lib.fields s.data.toList).map fun l => Value.string ⟨l.toArray⟩).toArray 9) := Any.strings_Fields lays157 (by kernel_rfl) (by kernel_rfl) s w hs hascii htab

/-- internal/strconv's table of powers of ten, as bits. -/
def pows10 : List Nat := [4607182418800017408, 4621819117588971520, 4636737291354636288, 4652007308841189376, 4666723172467343360, 4681608360884174848, 4696837146684686336, 4711630319722168320, 4726483295884279808, 4741671816366391296, 4756540486875873280, 4771362005757984768, 4786511204640096256, 4801453603149578240, 4816244402031689728, 4831355200913801216, 4846369599423283200, 4861130398305394688, 4876203697187506176, 4891288408196988160, 4906019910204099648, 4921056587992461136, 4936209963552724370]
/-- What the world holds of the library's tables: strings.asciiSpace; internal/strconv's optimize and float64pow10. -/
def Tabs (w : World) : Prop :=
  Lib.TabIs Tryz.prog w "strings.asciiSpace" .u8 Lib.asciiSpaceTab ∧ w.cell? ⟨6, 0, none⟩ = some (.bool true) ∧ w.cell? ⟨7, 0, none⟩ = some (.int .u64 52) ∧
  ∃ ad c, w.cell? ⟨10, 0, none⟩ = some (.slice (some ad) 23 c) ∧ 23 ≤ c ∧ ∀ i, i < 23 → w.cell? (ad.add i) = some (.float .f64 (pows10.getD i 0))
theorem cell_lt {w : World} {a : Addr} {v : Value} (h : w.cell? a = some v) : a.block < w.heap.size := by
  rcases Nat.lt_or_ge a.block w.heap.size with h' | h'
  · exact h'
  · simp [World.cell?, Array.getElem?_eq_none h'] at h
theorem cell_below {w w' : World} (hb : Below w.heap.size w w') {a : Addr} {v : Value} (h : w.cell? a = some v) : w'.cell? a = some v := by
  rw [hb.cell (cell_lt h)]
  exact h
theorem Tabs.below {w w' : World} (h : Tabs w) (hb : Below w.heap.size w w') : Tabs w' := by
  obtain ⟨h1, h2, h5, ad, c, h3, hc, h4⟩ := h
  refine ⟨?_, cell_below hb h2, cell_below hb h5, ad, c, cell_below hb h3, hc, fun i hi => cell_below hb (h4 i hi)⟩
  have hg : Tryz.prog.globalNamed "strings.asciiSpace" = some 1 := by kernel_rfl
  have hlt : 1 < w.heap.size := Nat.lt_trans (by decide) (cell_lt h2)
  exact var?_below hb hg hlt h1

/-- An error of internal/strconv as a value. -/
def errW : Option Int → Value
  | none => .nilIface
  | some c => .iface 213 (.int .i64 c)
theorem errW_none : errW none = .nilIface := rfl
theorem errW_some (c : Int) : errW (some c) = .iface 213 (.int .i64 c) := rfl

/-- A row of texts, newly laid. -/
theorem strs_row (w : World) (l : List ByteArray) (hl : l.length ≤ 4294967296) :
    Kd.R Kd.string 9 (w.alloc (.cells (l.map Value.string).toArray 9)) w.heap.size (fun _ => True) (.slice (some ⟨w.heap.size, 0, none⟩) l.length l.length) l := by
  refine ⟨fun _ _ => trivial, l.map Value.string, ⟨by show (l.map Value.string).length = l.length * 1; simp, .inr ⟨w.heap.size, l.length, (l.map Value.string).toArray, rfl, Nat.le_refl _, ?_, Nat.le_refl _, by unfold maxLen; omega, ?_, ?_⟩⟩, ?_, ?_⟩
  · show (w.heap.push _)[w.heap.size]? = _
    simp
  · show (l.map Value.string).toArray.size = l.length * 1
    simp
  · show (l.map Value.string).toArray.toList.take (l.length * 1) = _
    rw [Nat.mul_one]
    exact List.take_of_length_le (by simp)
  · show (l.map Value.string).length = l.length * 1
    simp
  · intro j p hp
    show ((l.map Value.string).drop (j * 1)).take 1 = [Value.string p]
    rw [Nat.mul_one, ← List.map_drop, ← List.map_take]
    have hj : j < l.length := (List.getElem?_eq_some_iff.1 hp).1
    rw [List.drop_eq_getElem_cons hj]
    simp [(List.getElem?_eq_some_iff.1 hp).2]

/-- What strings.Fields answers, of ASCII. -/
def strings_Fields.f (a0 : ByteArray) : Option (List ByteArray) :=
  if a0.size < 4294967281 ∧ a0.data.toList.all (fun b => decide (b.toNat < 128)) = true then some ((Lib.fields a0.data.toList).map fun l => ⟨l.toArray⟩) else none
theorem fieldsGo_len : ∀ (l cur : List UInt8), (Lib.fieldsGo cur l).length ≤ l.length + 1
  | [], cur => by unfold Lib.fieldsGo; split <;> simp
  | b :: l, cur => by
    unfold Lib.fieldsGo
    have h1 := fieldsGo_len l []
    have h2 := fieldsGo_len l (cur ++ [b])
    split
    · split <;> simp <;> omega
    · simp; omega
theorem strings_Fields.calls (a0 : ByteArray) (r : List ByteArray) (w : World) (h : strings_Fields.f a0 = some r) (hTabs : Tabs w := by first | exact hTabs | exact Tabs.below hTabs (by repeat (first | (with_reducible first | exact HB.out | apply below_alloc | apply pw_below_drewN | apply below_drew1 | refine below_set ?_ (Aside0.out (by assumption))) | exact HB.out))) :
    Calls Tryz.prog 155 #[.string a0] w fun e w' => ∃ v0_ : Value, e = .returned v0_ ∧ Kd.R Kd.string 9 w' w.heap.size (fun _ => True) v0_ r ∧ Below w.heap.size w w' := by
  unfold strings_Fields.f at h
  by_cases c : a0.size < 4294967281 ∧ a0.data.toList.all (fun b => decide (b.toNat < 128)) = true
  · rw [if_pos c] at h
    obtain rfl := Option.some.inj h
    refine (strings_Fields_ascii a0 w c.1 (fun j b hj => by have := List.all_eq_true.1 c.2 b (List.mem_of_getElem? hj); simpa using this) hTabs.1).mono ?_
    rintro e w' ⟨rfl, rfl⟩
    have hlen : ((Lib.fields a0.data.toList).map fun l => (⟨l.toArray⟩ : ByteArray)).length ≤ 4294967296 := by
      rw [List.length_map]
      have := fieldsGo_len a0.data.toList []
      have h2 := c.1
      have h3 : a0.data.toList.length = a0.size := Lib.size_eq _ |>.symm
      unfold Lib.fields
      omega
    have hR := strs_row w ((Lib.fields a0.data.toList).map fun l => (⟨l.toArray⟩ : ByteArray)) hlen
    rw [List.map_map, List.length_map] at hR
    exact ⟨_, rfl, hR, (Below.refl _ _).alloc (Nat.le_refl _) _⟩
  · rw [if_neg c] at h; cases h

theorem bytesWorld_below (w : World) (e : TypeId) (s : ByteArray) : Below w.heap.size w (Lib.bytesWorld w e s) := bytes_below (Below.refl _ _) (Nat.le_refl _) e s
/-- What texts.Read answers: a text of a megabyte at the most. -/
def texts_Read.f (a0 : ByteArray) : Option (List Int × Option Int) := if a0.size ≤ 1048576 then some (bytesOf a0, none) else none
theorem bytes_F (w : World) (s : ByteArray) (hs : s.size ≤ 1048576) : Kd.F (Kd.int .u8) (Lib.bytesWorld w 5 s) (fun k_ => w.heap.size ≤ k_) (some ⟨w.heap.size, 0, none⟩) (bytesOf s).length (bytesOf s) := by
  intro W' hW
  refine ⟨rfl, by rw [bytesOf_length]; omega, fun _ => ⟨_, rfl, fun j p hp => ⟨[.int .u8 p], rfl, rfl, fun i u hu => ?_⟩⟩⟩
  have hj : j < (bytesOf s).length := (List.getElem?_eq_some_iff.1 hp).1
  rw [bytesOf_length] at hj
  cases i with
  | succ i => simp at hu
  | zero =>
    obtain rfl : Value.int .u8 p = u := by simpa using hu
    rw [add_plain]
    have e1 : (Kd.int .u8).sz = 1 := rfl
    rw [e1, Nat.mul_one, Nat.add_zero]
    have hb := hW w.heap.size (Nat.le_refl _) (by rw [Lib.bytesWorld_size]; omega)
    have hc : W'.cell? ⟨w.heap.size, j, none⟩ = (Lib.bytesWorld w 5 s).cell? ⟨w.heap.size, j, none⟩ := World.cell?_of_block (w := Lib.bytesWorld w 5 s) hb
    rw [hc, Lib.bytesWorld_cell w 5 s j hj]
    have h2 := (List.getElem?_eq_some_iff.1 hp).2
    have hj2 : j < s.data.toList.length := by rw [← Lib.size_eq]; exact hj
    have : p = ((s.data.toList[j]'hj2).toNat : Int) := by rw [← h2]; simp [bytesOf]
    rw [this]
    simp [List.getD_eq_getElem?_getD, List.getElem?_eq_getElem hj2]
set_option maxRecDepth 100000 in
theorem texts_Read.calls (a0 : ByteArray) (r1 : List Int) (r2 : Option Int) (w : World) (h : texts_Read.f a0 = some (r1, r2)) :
    Calls Tryz.prog 120 #[.string a0] w fun e w' => ∃ v0_ : Value, e = .returned (.tuple #[v0_, errW r2]) ∧ Kd.V (Kd.int .u8) 5 w' w.heap.size (fun k_ => w.heap.size ≤ k_) v0_ r1 ∧ Below w.heap.size w w' := by
  unfold texts_Read.f at h
  by_cases c : a0.size ≤ 1048576
  · rw [if_pos c] at h
    obtain ⟨rfl, rfl⟩ := Prod.mk.inj (Option.some.inj h)
    have hcv := Lib.run_convert_string_bytes (P := Tryz.prog) w 9 152 5 a0 (u := .string) Tryz.underlying9 Tryz.underlying152 Tryz.underlying5
    have hF := Aside0.mk (bytes_F w a0 c)
    have hlt : (a0.size : Int) ≤ 1048576 := by omega
    have hcap := grownCap_ge w a0.size 0 5
    go_enter Tryz.func120, Tryz.ntmps120
    go_wp2
    go_ret2
    refine ⟨.slice (some ⟨w.heap.size, 0, none⟩) a0.size (grownCap w a0.size 0 5), rfl, ⟨_, _, by rw [bytesOf_length], by rw [bytesOf_length]; exact hcap, hF.out⟩, bytesWorld_below _ _ _⟩
  · rw [if_neg c] at h; cases h

end Go.Proofs.YtdmpbaanonafbaaGreatDoor.GivZ
