/- The library's functions that the mounts reach, in the print's form: strings.Join, strconv.Atoi (whole), strings.HasPrefix: laid by the kit's lay-plain.mjs; mountinfo.toInt. -/
import Derived.Shelf.Strings.OnBuilder
import Derived.Shelf.Strconv.AtoiAll
import Derived.Shelf.Strings.Prefix
import Derived.Shelf.LaysC
import Derived.Test.YtokojamaigebaaaDoorProg
import Derived.WalkSmall
import Derived.Test.YtokojamaigebaaaDoorWMore
namespace Go.Proofs.YtokojamaigebaaaDoor.GivM
open Go.Shelf Go.RowKit Go.Proofs.YtokojamaigebaaaDoorW.PrintWords
set_option linter.unusedVariables false
set_option linter.unusedSimpArgs false
def lays156_ren : Go.Shelf.Ren := ⟨fun | 156 => 47 | 165 => 55 | 166 => 56 | 169 => 57 | 240 => 61 | 241 => 62 | 276 => 69 | 277 => 70 | n => n, fun | 31 => 31 | 9 => 9 | 3 => 3 | 4 => 4 | 0 => 0 | 20 => 20 | 72 => 97 | 76 => 92 | 70 => 95 | 37 => 82 | 75 => 54 | 127 => 100 | 164 => 107 | 5 => 5 | 80 => 73 | n => n, fun | n => n⟩
theorem lays156 : Go.Proofs.Lays.n156 Tryd.prog lays156_ren := {
  mixed := by kernel_rfl
  f156 := Tryd.func47.trans (congrArg some (by kernel_rfl))
  f165 := Tryd.func55.trans (congrArg some (by kernel_rfl))
  f166 := Tryd.func56.trans (congrArg some (by kernel_rfl))
  f169 := Tryd.func57.trans (congrArg some (by kernel_rfl))
  f240 := Tryd.func61.trans (congrArg some (by kernel_rfl))
  f241 := Tryd.func62.trans (congrArg some (by kernel_rfl))
  f276 := Tryd.func69.trans (congrArg some (by kernel_rfl))
  f277 := Tryd.func70.trans (congrArg some (by kernel_rfl))
  t0 := Tryd.underlying0
  a0 := Tryd.isAgg0
  z0 := Tryd.sizeOf0
  v0 := Tryd.zeroValue0
  t3 := Tryd.underlying3
  a3 := Tryd.isAgg3
  z3 := Tryd.sizeOf3
  v3 := Tryd.zeroValue3
  t4 := Tryd.underlying4
  a4 := Tryd.isAgg4
  z4 := Tryd.sizeOf4
  v4 := Tryd.zeroValue4
  t9 := Tryd.underlying9
  a9 := Tryd.isAgg9
  z9 := Tryd.sizeOf9
  v9 := Tryd.zeroValue9
  t20 := Tryd.underlying20
  a20 := Tryd.isAgg20
  z20 := Tryd.sizeOf20
  v20 := Tryd.zeroValue20
  t31 := Tryd.underlying31
  a31 := Tryd.isAgg31
  z31 := Tryd.sizeOf31
  v31 := Tryd.zeroValue31
  t37 := Tryd.underlying82
  a37 := Tryd.isAgg82
  z37 := Tryd.sizeOf82
  v37 := Tryd.zeroValue82
  t70 := Tryd.underlying95
  a70 := Tryd.isAgg95
  z70 := Tryd.sizeOf95
  v70 := Tryd.zeroValue95
  t72 := Tryd.underlying97
  a72 := Tryd.isAgg97
  z72 := Tryd.sizeOf97
  v72 := Tryd.zeroValue97
  t75 := Tryd.underlying54
  a75 := Tryd.isAgg54
  z75 := Tryd.sizeOf54
  v75 := Tryd.zeroValue54
  t76 := Tryd.underlying92
  a76 := Tryd.isAgg92
  z76 := Tryd.sizeOf92
  v76 := Tryd.zeroValue92
  t127 := Tryd.underlying100
  a127 := Tryd.isAgg100
  z127 := Tryd.sizeOf100
  v127 := Tryd.zeroValue100
  t164 := Tryd.underlying107
  a164 := Tryd.isAgg107
  z164 := Tryd.sizeOf107
  v164 := Tryd.zeroValue107 }
theorem Builder_Extra_156 : Builder.Extra Tryd.prog lays156_ren := {
  sizeBuilder := by kernel_rfl
  liesBuilder := by kernel_rfl
  t5 := Tryd.underlying5
  a5 := Tryd.isAgg5
  z5 := Tryd.sizeOf5
  v5 := Tryd.zeroValue5
  infoByte := by kernel_rfl
  cellsByte := by kernel_rfl
  sizeByte := by kernel_rfl
  neB5 := by decide }
theorem lib_strings_Join_none (a : Option Addr) (c : Nat) (sep : ByteArray) (w : World) :
    Calls Tryd.prog 47 #[.slice a 0 c, .string sep] w fun e w' => e = .returned (.string ⟨#[]⟩) ∧ w' = w := Any.strings_Join_none lays156 Builder_Extra_156 a c sep w
theorem lib_strings_Join (bk o c : Nat) (xs : List ByteArray) (sep : ByteArray) (w : World) (hcells : ∀ (j : Nat) x, xs[j]? = some x → w.cell? ⟨bk, o + j, none⟩ = some (.string x)) (hbk : bk < w.heap.size) (hN : xs.length ≤ 140737488355328) (hcap : xs.length ≤ c) (hlen : (Lib.join (xs.map (·.data.toList)) sep.data.toList).length ≤ 140737488355328) :
    Calls Tryd.prog 47 #[.slice (some ⟨bk, o, none⟩) xs.length c, .string sep] w fun e w' => e = .returned (.string ⟨(Lib.join (xs.map (·.data.toList)) sep.data.toList).toArray⟩) ∧ Below w.heap.size w w' := Any.strings_Join lays156 Builder_Extra_156 bk o c xs sep w hcells hbk hN hcap hlen
def laysC172_ren : Go.Shelf.Ren := ⟨fun | 172 => 53 | 244 => 58 | 245 => 59 | 247 => 63 | 279 => 64 | 280 => 65 | 281 => 66 | 282 => 67 | 287 => 71 | 316 => 72 | 171 => 73 | 205 => 43 | 321 => 74 | 322 => 75 | 243 => 76 | 246 => 77 | 283 => 78 | 284 => 79 | 285 => 80 | 286 => 81 | 129 => 83 | 317 => 82 | 318 => 84 | 319 => 85 | 320 => 86 | 337 => 87 | 338 => 88 | n => n, fun | 9 => 9 | 3 => 3 | 75 => 54 | 76 => 92 | 4 => 4 | 5 => 5 | 167 => 101 | 37 => 82 | 0 => 0 | 85 => 102 | 2 => 2 | 168 => 104 | 53 => 110 | 175 => 111 | 46 => 85 | 210 => 114 | 127 => 100 | 145 => 91 | 143 => 89 | 21 => 21 | 171 => 117 | 173 => 120 | 212 => 124 | 51 => 125 | 20 => 20 | 213 => 126 | 232 => 130 | 233 => 131 | 80 => 73 | n => n, fun | 15 => 0 | 16 => 1 | 17 => 3 | 18 => 4 | 19 => 5 | n => n⟩
theorem laysC172 : Go.Proofs.LaysC.n172 Tryd.prog laysC172_ren := {
  mixed := by kernel_rfl
  f129 := Tryd.func83.trans (congrArg some (by kernel_rfl))
  f171 := Tryd.func73.trans (congrArg some (by kernel_rfl))
  f172 := Tryd.func53.trans (congrArg some (by kernel_rfl))
  f205 := Tryd.func43.trans (congrArg some (by kernel_rfl))
  f243 := Tryd.func76.trans (congrArg some (by kernel_rfl))
  f244 := Tryd.func58.trans (congrArg some (by kernel_rfl))
  f245 := Tryd.func59.trans (congrArg some (by kernel_rfl))
  f246 := Tryd.func77.trans (congrArg some (by kernel_rfl))
  f247 := Tryd.func63.trans (congrArg some (by kernel_rfl))
  f279 := Tryd.func64.trans (congrArg some (by kernel_rfl))
  f280 := Tryd.func65.trans (congrArg some (by kernel_rfl))
  f281 := Tryd.func66.trans (congrArg some (by kernel_rfl))
  f282 := Tryd.func67.trans (congrArg some (by kernel_rfl))
  f283 := Tryd.func78.trans (congrArg some (by kernel_rfl))
  f284 := Tryd.func79.trans (congrArg some (by kernel_rfl))
  f285 := Tryd.func80.trans (congrArg some (by kernel_rfl))
  f286 := Tryd.func81.trans (congrArg some (by kernel_rfl))
  f287 := Tryd.func71.trans (congrArg some (by kernel_rfl))
  f316 := Tryd.func72.trans (congrArg some (by kernel_rfl))
  f317 := Tryd.func82.trans (congrArg some (by kernel_rfl))
  f318 := Tryd.func84.trans (congrArg some (by kernel_rfl))
  f319 := Tryd.func85.trans (congrArg some (by kernel_rfl))
  f320 := Tryd.func86.trans (congrArg some (by kernel_rfl))
  f321 := Tryd.func74.trans (congrArg some (by kernel_rfl))
  f322 := Tryd.func75.trans (congrArg some (by kernel_rfl))
  f337 := Tryd.func87.trans (congrArg some (by kernel_rfl))
  f338 := Tryd.func88.trans (congrArg some (by kernel_rfl))
  t0 := Tryd.underlying0
  a0 := Tryd.isAgg0
  z0 := Tryd.sizeOf0
  v0 := Tryd.zeroValue0
  t2 := Tryd.underlying2
  a2 := Tryd.isAgg2
  z2 := Tryd.sizeOf2
  v2 := Tryd.zeroValue2
  t3 := Tryd.underlying3
  a3 := Tryd.isAgg3
  z3 := Tryd.sizeOf3
  v3 := Tryd.zeroValue3
  t4 := Tryd.underlying4
  a4 := Tryd.isAgg4
  z4 := Tryd.sizeOf4
  v4 := Tryd.zeroValue4
  t5 := Tryd.underlying5
  a5 := Tryd.isAgg5
  z5 := Tryd.sizeOf5
  v5 := Tryd.zeroValue5
  t9 := Tryd.underlying9
  a9 := Tryd.isAgg9
  z9 := Tryd.sizeOf9
  v9 := Tryd.zeroValue9
  t20 := Tryd.underlying20
  a20 := Tryd.isAgg20
  z20 := Tryd.sizeOf20
  v20 := Tryd.zeroValue20
  t21 := Tryd.underlying21
  a21 := Tryd.isAgg21
  z21 := Tryd.sizeOf21
  v21 := Tryd.zeroValue21
  t37 := Tryd.underlying82
  a37 := Tryd.isAgg82
  z37 := Tryd.sizeOf82
  v37 := Tryd.zeroValue82
  t46 := Tryd.underlying85
  a46 := Tryd.isAgg85
  z46 := Tryd.sizeOf85
  v46 := Tryd.zeroValue85
  t51 := Tryd.underlying125
  a51 := Tryd.isAgg125
  z51 := Tryd.sizeOf125
  v51 := Tryd.zeroValue125
  t53 := Tryd.underlying110
  a53 := Tryd.isAgg110
  z53 := Tryd.sizeOf110
  v53 := Tryd.zeroValue110
  t75 := Tryd.underlying54
  a75 := Tryd.isAgg54
  z75 := Tryd.sizeOf54
  v75 := Tryd.zeroValue54
  t76 := Tryd.underlying92
  a76 := Tryd.isAgg92
  z76 := Tryd.sizeOf92
  v76 := Tryd.zeroValue92
  t85 := Tryd.underlying102
  a85 := Tryd.isAgg102
  z85 := Tryd.sizeOf102
  v85 := Tryd.zeroValue102
  t127 := Tryd.underlying100
  a127 := Tryd.isAgg100
  z127 := Tryd.sizeOf100
  v127 := Tryd.zeroValue100
  t143 := Tryd.underlying89
  a143 := Tryd.isAgg89
  z143 := Tryd.sizeOf89
  v143 := Tryd.zeroValue89
  t145 := Tryd.underlying91
  a145 := Tryd.isAgg91
  z145 := Tryd.sizeOf91
  v145 := Tryd.zeroValue91
  t167 := Tryd.underlying101
  a167 := Tryd.isAgg101
  z167 := Tryd.sizeOf101
  v167 := Tryd.zeroValue101
  t168 := Tryd.underlying104
  a168 := Tryd.isAgg104
  z168 := Tryd.sizeOf104
  v168 := Tryd.zeroValue104
  t171 := Tryd.underlying117
  a171 := Tryd.isAgg117
  z171 := Tryd.sizeOf117
  v171 := Tryd.zeroValue117
  t173 := Tryd.underlying120
  a173 := Tryd.isAgg120
  z173 := Tryd.sizeOf120
  v173 := Tryd.zeroValue120
  t175 := Tryd.underlying111
  a175 := Tryd.isAgg111
  z175 := Tryd.sizeOf111
  v175 := Tryd.zeroValue111
  t210 := Tryd.underlying114
  a210 := Tryd.isAgg114
  z210 := Tryd.sizeOf114
  v210 := Tryd.zeroValue114
  t212 := Tryd.underlying124
  a212 := Tryd.isAgg124
  z212 := Tryd.sizeOf124
  v212 := Tryd.zeroValue124
  t213 := Tryd.underlying126
  a213 := Tryd.isAgg126
  z213 := Tryd.sizeOf126
  t232 := Tryd.underlying130
  a232 := Tryd.isAgg130
  z232 := Tryd.sizeOf130
  v232 := Tryd.zeroValue130
  t233 := Tryd.underlying131
  a233 := Tryd.isAgg131
  z233 := Tryd.sizeOf131
  v233 := Tryd.zeroValue131
  g15 := by kernel_rfl
  g16 := by kernel_rfl
  g17 := by kernel_rfl
  g18 := by kernel_rfl
  g19 := by kernel_rfl
  t80 := Tryd.underlying73
  a80 := Tryd.isAgg73
  z80 := Tryd.sizeOf73
  v80 := Tryd.zeroValue73
  i0 := by kernel_rfl
  i2 := by kernel_rfl
  i3 := by kernel_rfl
  i4 := by kernel_rfl
  i5 := by kernel_rfl
  i9 := by kernel_rfl
  i20 := by kernel_rfl
  i21 := by kernel_rfl
  i37 := by kernel_rfl
  i46 := by kernel_rfl
  i51 := by kernel_rfl
  i53 := by kernel_rfl
  i75 := by kernel_rfl
  i76 := by kernel_rfl
  i80 := by kernel_rfl
  i85 := by kernel_rfl
  i127 := by kernel_rfl
  i143 := by kernel_rfl
  i145 := by kernel_rfl
  i167 := by kernel_rfl
  i168 := by kernel_rfl
  i171 := by kernel_rfl
  i173 := by kernel_rfl
  i175 := by kernel_rfl
  i210 := by kernel_rfl
  i212 := by kernel_rfl
  i232 := by kernel_rfl
  i233 := by kernel_rfl
  m15 := by kernel_rfl
  m16 := by kernel_rfl
  m17 := by kernel_rfl
  m18 := by kernel_rfl
  m19 := by kernel_rfl
  c0 := by kernel_rfl
  c2 := by kernel_rfl
  c3 := by kernel_rfl
  c4 := by kernel_rfl
  c5 := by kernel_rfl
  c9 := by kernel_rfl
  c20 := by kernel_rfl
  c21 := by kernel_rfl
  c37 := by kernel_rfl
  c46 := by kernel_rfl
  c51 := by kernel_rfl
  c53 := by kernel_rfl
  c75 := by kernel_rfl
  c76 := by kernel_rfl
  c80 := by kernel_rfl
  c85 := by kernel_rfl
  c127 := by kernel_rfl
  c143 := by kernel_rfl
  c145 := by kernel_rfl
  c167 := by kernel_rfl
  c168 := by kernel_rfl
  c171 := by kernel_rfl
  c173 := by kernel_rfl
  c175 := by kernel_rfl
  c210 := by kernel_rfl
  c212 := by kernel_rfl
  c213 := by kernel_rfl
  c232 := by kernel_rfl
  c233 := by kernel_rfl }
theorem lib_strconv_Atoi_ok (s : ByteArray) (hmax : s.size ≤ 9223372036854775806) (v : Int) (h : Lib.atoiAll s.data.toList = .ok v) (w : World) :
    Calls Tryd.prog 53 #[.string s] w fun e w' => e = .returned (.tuple #[.int .i64 v, .nilIface]) ∧ (w' = w ∨ ∃ t, w' = Lib.bytesWorld w 5 t) := Any.strconv_Atoi_ok laysC172 s hmax v h w
theorem lib_strconv_Atoi_syntax (s : ByteArray) (hlim : s.size ≤ 281474976710656) (h : Lib.atoiAll s.data.toList = Lib.atoiAll []) (ev : Value) (w : World) (hv : w.cell? ⟨0, 0, none⟩ = some ev) (hev : ev = .nilIface ∨ ∃ te pe, ev = .iface te pe) :
    Calls Tryd.prog 53 #[.string s] w fun e w' => ∃ N, e = .returned (.tuple #[.int .i64 (0), .iface 104 (.pointer (some ⟨N, 0, none⟩))]) ∧ w.heap.size ≤ N ∧ w'.heap[N]? = some (.cells #[.string ⟨#[65, 116, 111, 105]⟩, .string s, ev] 114 (0, 0)) ∧ Below w.heap.size w w' := Any.strconv_Atoi_syntax laysC172 s hlim h ev w hv hev
theorem lib_strconv_Atoi_range (s : ByteArray) (hlim : s.size ≤ 281474976710656) (h : Lib.atoiAll s.data.toList = .range) (ev : Value) (w : World) (hv : w.cell? ⟨1, 0, none⟩ = some ev) (hev : ev = .nilIface ∨ ∃ te pe, ev = .iface te pe) :
    Calls Tryd.prog 53 #[.string s] w fun e w' => ∃ N, e = .returned (.tuple #[.int .i64 (Lib.atoiSat s.data.toList), .iface 104 (.pointer (some ⟨N, 0, none⟩))]) ∧ w.heap.size ≤ N ∧ w'.heap[N]? = some (.cells #[.string ⟨#[65, 116, 111, 105]⟩, .string s, ev] 114 (0, 0)) ∧ Below w.heap.size w w' := Any.strconv_Atoi_range laysC172 s hlim h ev w hv hev
def lays99_ren : Go.Shelf.Ren := ⟨fun | 99 => 36 | 206 => 51 | n => n, fun | 9 => 9 | 4 => 4 | 3 => 3 | n => n, fun | n => n⟩
theorem lays99 : Go.Proofs.Lays.n99 Tryd.prog lays99_ren := {
  mixed := by kernel_rfl
  f99 := Tryd.func36.trans (congrArg some (by kernel_rfl))
  f206 := Tryd.func51.trans (congrArg some (by kernel_rfl))
  t3 := Tryd.underlying3
  a3 := Tryd.isAgg3
  z3 := Tryd.sizeOf3
  v3 := Tryd.zeroValue3
  t4 := Tryd.underlying4
  a4 := Tryd.isAgg4
  z4 := Tryd.sizeOf4
  v4 := Tryd.zeroValue4
  t9 := Tryd.underlying9
  a9 := Tryd.isAgg9
  z9 := Tryd.sizeOf9
  v9 := Tryd.zeroValue9 }
theorem lib_strings_HasPrefix (s p : ByteArray) (w : World) :
    Calls Tryd.prog 36 #[.string s, .string p] w fun e w' => e = .returned (.bool (Lib.hasPrefix s.data.toList p.data.toList)) ∧ w' = w := Any.strings_HasPrefix lays99 s p w

/-- What the world holds of the library's two errors. -/
def MTabs (w : World) : Prop := (∃ ev, w.cell? ⟨0, 0, none⟩ = some ev ∧ (ev = .nilIface ∨ ∃ te pe, ev = .iface te pe)) ∧ ∃ ev, w.cell? ⟨1, 0, none⟩ = some ev ∧ (ev = .nilIface ∨ ∃ te pe, ev = .iface te pe)
theorem MTabs.below {w w' : World} (h : MTabs w) (hb : Below w.heap.size w w') : MTabs w' := by
  obtain ⟨⟨a, h1, h2⟩, ⟨b, h3, h4⟩⟩ := h
  exact ⟨⟨a, pw_cell_below hb h1, h2⟩, ⟨b, pw_cell_below hb h3, h4⟩⟩
/-- The number that mountinfo.toInt takes a text for. -/
def toIntV (l : List UInt8) : Int := match Lib.atoiAll l with
  | .ok v => v
  | .range => Lib.atoiSat l
  | _ => 0
def mountinfo_toInt.f (a0 : ByteArray) : Option Int := if a0.size ≤ 281474976710656 then some (toIntV a0.data.toList) else none
set_option maxRecDepth 100000 in
theorem mountinfo_toInt.calls (a0 : ByteArray) (r : Int) (w : World) (h : mountinfo_toInt.f a0 = some r) (hTabs : MTabs w := by first | exact hTabs | exact MTabs.below HT.out (by repeat (first | (with_reducible first | exact HB.out | apply below_alloc | apply pw_below_drewN | apply below_drew1) | exact HB.out))) :
    Calls Tryd.prog 45 #[.string a0] w fun e w' => e = .returned (.int .i64 r) ∧ Below w.heap.size w w' := by
  unfold mountinfo_toInt.f at h
  by_cases c : a0.size ≤ 281474976710656
  · rw [if_pos c] at h
    obtain rfl := Option.some.inj h
    obtain ⟨⟨ev1, h1, h2⟩, ⟨ev2, h3, h4⟩⟩ := hTabs
    have hA : Calls Tryd.prog 53 #[.string a0] w fun e w' => ∃ x, e = .returned (.tuple #[.int .i64 (toIntV a0.data.toList), x]) ∧ Below w.heap.size w w' := by
      unfold toIntV
      cases hc : Lib.atoiAll a0.data.toList with
      | ok v =>
        refine (lib_strconv_Atoi_ok a0 (by omega) v hc w).mono ?_
        rintro e w' ⟨rfl, h⟩
        refine ⟨_, rfl, ?_⟩
        rcases h with rfl | ⟨t, rfl⟩
        · exact Below.refl _ _
        · exact Lib.bytesWorld_below _ _ _
      | range =>
        refine (lib_strconv_Atoi_range a0 c hc ev2 w h3 h4).mono ?_
        rintro e w' ⟨n, rfl, _, _, hb⟩
        exact ⟨_, rfl, hb⟩
      | _ =>
        refine (lib_strconv_Atoi_syntax a0 c hc ev1 w h1 h2).mono ?_
        rintro e w' ⟨n, rfl, _, _, hb⟩
        exact ⟨_, rfl, hb⟩
    have HA := Lib.hid hA
    clear hA h1 h2 h3 h4 h
    go_enter Tryd.func45, Tryd.ntmps45
    go_wp2_with (go_at_call 53; refine HA.out.mono ?_; rintro e w' ⟨x, rfl, hb⟩; have HB := Aside0.mk hb; clear hb)
    go_ret
    exact ⟨rfl, HB.out⟩
  · rw [if_neg c] at h; cases h
/-- What strings.Join answers. -/
def strings_Join.f (l : List ByteArray) (sep : ByteArray) : Option ByteArray := if l.length ≤ 1000000 ∧ (Lib.join (l.map (·.data.toList)) sep.data.toList).length ≤ 1000000000 then some ⟨(Lib.join (l.map (·.data.toList)) sep.data.toList).toArray⟩ else none
theorem strings_Join.calls (A : Option Addr) (c : Nat) (l : List ByteArray) (sep r : ByteArray) (w : World) (hC : Kd.C Kd.string w A l.length l) (hc : l.length ≤ c) (h : strings_Join.f l sep = some r) :
    Calls Tryd.prog 47 #[.slice A l.length c, .string sep] w fun e w' => e = .returned (.string r) ∧ Below w.heap.size w w' := by
  unfold strings_Join.f at h
  by_cases k : l.length ≤ 1000000 ∧ (Lib.join (l.map (·.data.toList)) sep.data.toList).length ≤ 1000000000
  · rw [if_pos k] at h
    obtain rfl := Option.some.inj h
    by_cases k0 : l.length = 0
    · obtain rfl := List.eq_nil_of_length_eq_zero k0
      refine (lib_strings_Join_none A c sep w).mono ?_
      rintro e w' ⟨rfl, rfl⟩
      exact ⟨rfl, Below.refl _ _⟩
    · obtain ⟨ad, eA, x0⟩ := Kd.at_string hC 0 (by omega) (by omega)
      subst eA
      have hsp : ad.spot = none := by
        cases hs : ad.spot with
        | none => rfl
        | some z =>
          have e : (ad.add 0).spot.isSome = true := by simp [Addr.add, hs]
          rw [show ((0 : Int)).toNat = 0 from rfl] at x0
          unfold World.cell? at x0
          split at x0
          · rw [if_pos e] at x0; cases x0
          · cases x0
      have hca : ∀ (j : Nat) x, l[j]? = some x → w.cell? ⟨ad.block, ad.off + j, none⟩ = some (.string x) := by
        intro j x hx
        obtain ⟨hj, rfl⟩ := List.getElem?_eq_some_iff.1 hx
        obtain ⟨ad', e', x1⟩ := Kd.at_string hC (j : Int) (by omega) (by omega)
        obtain rfl : ad = ad' := by injection e'
        rw [Int.toNat_natCast] at x1
        have e2 : ad.add j = ⟨ad.block, ad.off + j, none⟩ := by
          cases ad
          simp only at hsp
          subst hsp
          simp [Addr.add]
        rw [e2] at x1
        rw [x1]
        unfold rdOf
        rw [Int.toNat_natCast, List.getD_eq_getElem?_getD, List.getElem?_eq_getElem hj]
        rfl
      have hbk : ad.block < w.heap.size := by
        have h0 := hca 0 _ (List.getElem?_eq_getElem (by omega : 0 < l.length))
        exact World.block_lt_of_cell? w ⟨ad.block, ad.off + 0, none⟩ h0
      have e3 : (some ad : Option Addr) = some ⟨ad.block, ad.off, none⟩ := by
        cases ad
        simp only at hsp
        subst hsp
        rfl
      rw [e3]
      refine (lib_strings_Join ad.block ad.off c l sep w hca hbk (by omega) hc (by omega)).mono ?_
      rintro e w' ⟨rfl, hb⟩
      exact ⟨rfl, hb⟩
  · rw [if_neg k] at h; cases h
def strings_HasPrefix.f (a0 a1 : ByteArray) : Option Bool := some (Lib.hasPrefix a0.data.toList a1.data.toList)
theorem strings_HasPrefix.calls (a0 a1 : ByteArray) (r : Bool) (w : World) (h : strings_HasPrefix.f a0 a1 = some r) :
    Calls Tryd.prog 36 #[.string a0, .string a1] w fun e w' => e = .returned (.bool r) ∧ w = w' := by
  obtain rfl := Option.some.inj h
  refine (lib_strings_HasPrefix a0 a1 w).mono ?_
  rintro e w' ⟨rfl, rfl⟩
  exact ⟨rfl, rfl⟩
end Go.Proofs.YtokojamaigebaaaDoor.GivM
