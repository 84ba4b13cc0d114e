/- impl.Conntrack by hand, in the print's form: the door's defer and recover; what is told: texts that are read without an error. -/
import Derived.Test.YtdmpbaanonafbaaGreatDoorCtLoop
import Derived.Test.YtdmpbaanonafbaaGreatDoorK1
import Derived.Test.YtdmpbaanonafbaaGreatDoorE0
import Derived.Test.YtdmpbaanonafbaaGreatDoorF1
import Derived.Test.YtdmpbaanonafbaaGreatDoorG1
import Derived.Test.YtdmpbaanonafbaaGreatDoorPlz
import Derived.Test.YtdmpbaanonafbaaGreatDoorSq
import Derived.Tactics
import Derived.Tactics2
import Derived.Defers
import Derived.Recover
import Derived.Laws.Pointers
import Derived.Lib.Hide
namespace Go.Proofs.YtdmpbaanonafbaaGreatDoor.DoorCt
open Go.RowKit Go.Proofs.YtdmpbaanonafbaaGreatDoorPt Go.Proofs.YtdmpbaanonafbaaGreatDoorW.PrintWords Go.Proofs.YtdmpbaanonafbaaGreatDoorW.PrintLast Go.Proofs.YtdmpbaanonafbaaGreatDoor.Flt Go.Proofs.YtdmpbaanonafbaaGreatDoor.GivZ Go.Proofs.YtdmpbaanonafbaaGreatDoorW.PrintMore Go.Proofs.YtdmpbaanonafbaaGreatDoor.E Go.Proofs.YtdmpbaanonafbaaGreatDoor.G Go.Proofs.YtdmpbaanonafbaaGreatDoor.K Go.Proofs.YtdmpbaanonafbaaGreatDoor.ScanL Go.Proofs.YtdmpbaanonafbaaGreatDoor.CtLine Go.Proofs.YtdmpbaanonafbaaGreatDoor.CtLoop Go.Proofs.YtdmpbaanonafbaaGreatDoor.GivPW
attribute [local go_sem] max2_int min2_int max_two min_two max_three min_three max_four min_four
set_option linter.unusedVariables false
set_option linter.unusedSimpArgs false

/-- A line as a row. -/
def ctNum (ps : List ByteArray) (i : Nat) : Option Int := (strconv_ParseU.f (rdOf ByteArray.empty ps (i : Int)) 16 64).bind fun r => if r.2 = none ∧ 0 ≤ r.1 ∧ r.1 ≤ 18446744073709551615 then some r.1 else none
def ctRow (l : List UInt8) : Option S113 := (strings_Fields.f (toB l)).bind fun ps => if ps.length = 17 then (mapO (ctNum ps) (List.range 17)).bind fun vs => some (rowS vs) else none
theorem ctNum_is {ps : List ByteArray} {i : Nat} {v : Int} (h : ctNum ps i = some v) : strconv_ParseU.f (rdOf ByteArray.empty ps (i : Int)) 16 64 = some (v, none) ∧ 0 ≤ v ∧ v ≤ 18446744073709551615 := by
  unfold ctNum at h
  obtain ⟨⟨r1, r2⟩, hr, h⟩ := Option.bind_eq_some_iff.1 h
  by_cases c : r2 = none ∧ 0 ≤ r1 ∧ r1 ≤ 18446744073709551615
  · rw [if_pos c] at h
    obtain rfl := Option.some.inj h
    obtain ⟨rfl, c2, c3⟩ := c
    exact ⟨hr, c2, c3⟩
  · rw [if_neg c] at h; cases h
theorem ctRow_is (l : List UInt8) (z : S113) (h : ctRow l = some z) : CtL (toB l) z := by
  unfold ctRow at h
  obtain ⟨ps, hp, h⟩ := Option.bind_eq_some_iff.1 h
  by_cases c : ps.length = 17
  · rw [if_pos c] at h
    obtain ⟨vs, hv, h⟩ := Option.bind_eq_some_iff.1 h
    obtain rfl := Option.some.inj h
    have ha := mapO_all2 _ _ hv
    refine ⟨ps, vs, hp, ⟨c, ?_, fun i hi => ?_⟩, rfl⟩
    · have := all2_len _ _ ha
      rw [List.length_range] at this
      omega
    · have h2 := all2_get (0 : Nat) (0 : Int) _ _ ha i (by rw [List.length_range]; exact hi)
      have e : (List.range 17).getD i 0 = i := by rw [List.getD_eq_getElem?_getD, List.getElem?_range hi]; rfl
      rw [e] at h2
      exact ctNum_is h2
  · rw [if_neg c] at h; cases h
set_option maxHeartbeats 8000000 in
set_option maxRecDepth 100000 in
theorem rd_is (a : ByteArray) (zs : List S113) (w : World) (ha : a.size ≤ 1048576) (hr : ∃ n0, LineAt a n0 ∧ ScanRun CtL (rest a n0) zs) (hl : zs.length ≤ 1000000) (hTabs : Tabs w) :
    Calls Tryz.prog 146 #[.string a] w fun e w' => ∃ v, e = .returned (.tuple #[v, .nilIface]) ∧ Kd.R k113 113 w' w.heap.size (fun _ => True) v zs ∧ Below w.heap.size w w' := by
  have HF := Lib.hid (show ∃ l0 : List Int, texts_Read.f a = some (l0, none) ∧ ∃ n0, LineAt (strOfNums l0) n0 ∧ ScanRun CtL (rest (strOfNums l0) n0) zs from ⟨bytesOf a, by unfold texts_Read.f; rw [if_pos ha], by rw [Plz.ofNums_bytes]; exact hr⟩)
  have HLN := Lib.hid hl
  have HT := Lib.hid hTabs
  clear hr hl hTabs ha
  obtain ⟨l0, hrd, n0, hfl, hfl2⟩ := HF.out
  have HRD := Aside0.mk hrd
  have HFL := Lib.hid hfl
  have HFL2 := Lib.hid hfl2
  clear hrd hfl HF hfl2
  have HB := Aside0.mk (Below.refl w.heap.size w)
  go_enter Tryz.func146, Tryz.ntmps146
  go_wp2_with (first
    | (go_at_call 120; refine (texts_Read.calls a l0 none _ HRD.out).mono ?_; rintro e w3 ⟨v0, rfl, hv, hb⟩
       obtain ⟨A0, c0, rfl, hcl, hF⟩ := hv
       have hcv := Kd.C_string (P := Tryz.prog) (A := A0) (c := c0) Tryz.underlying152 Tryz.underlying5 Tryz.underlying60 (show Kd.C (Kd.int .u8) w3 A0 l0.length l0 from hF w3 (fun _ _ _ => rfl))
       try simp only [errW_none]
       have n0 := Aside0.mk (below_step HB.out hb); clear HB; have HB := n0; clear n0 hb hF hcl)
    | (go_at_call 161; refine (ctLoop_is _ n0 zs _ HFL.out HFL2.out HLN.out (Tabs.below HT.out HB.out)).mono ?_; rintro e w4 ⟨v, rfl, ho, hb⟩
       have HL := Aside0.mk (Kd.R_lower ho (below_size HB.out))
       have n0 := Aside0.mk (below_step HB.out hb); clear HB; have HB := n0; clear n0 ho hb))
  go_ret2
  exact ⟨v, rfl, HL.out, HB.out⟩

set_option maxHeartbeats 8000000 in
set_option maxRecDepth 100000 in
theorem Fs_is (a : ByteArray) (zs : List S113) (w : World) (ha : a.size ≤ 1048576) (hr : ∃ n0, LineAt a n0 ∧ ScanRun CtL (rest a n0) zs) (hl : zs.length ≤ 1000000) (hTabs : Tabs w) :
    Calls Tryz.prog 86 #[.agg #[.string a]] w fun e w' => ∃ v, e = .returned (.tuple #[v, .nilIface]) ∧ Kd.R k113 113 w' w.heap.size (fun _ => True) v zs ∧ Below w.heap.size w w' := by
  have HR := Lib.hid hr
  have HLN := Lib.hid hl
  have HA := Lib.hid ha
  have HT := Lib.hid hTabs
  have hu62 := Tryz.underlying62
  clear hr hl hTabs ha
  have HB := Aside0.mk (Below.refl w.heap.size w)
  go_enter Tryz.func86, Tryz.ntmps86
  go_wp2_with (first
    | ((with_reducible refine gate_dst (N := 1) rfl ?_); refine box_event ?hg (N := 1) ?hd (cs := #[.string a]) (t := 62) ?hr ?_; (case hd => rfl); (case hg => rfl); (case hr => first | (go_simp; done) | (go_simp; rfl)); intro g1 hg w1 hbox hb
       have hc0 : w1.cell? ⟨g1, 0, none⟩ = some (.string a) := (blk_cell hbox 0).trans rfl
       have n0 := Aside0.mk (below_step HB.out hb); clear HB; have HB := n0; clear n0 hb hbox hg)
    | (go_at_call 119; refine (texts_Text_Path.calls a _ _ [(⟨#[110, 101, 116]⟩ : ByteArray), (⟨#[115, 116, 97, 116]⟩ : ByteArray), (⟨#[110, 102, 95, 99, 111, 110, 110, 116, 114, 97, 99, 107]⟩ : ByteArray)] a _ (Kd.R_reads' (strs_row _ [(⟨#[110, 101, 116]⟩ : ByteArray), (⟨#[115, 116, 97, 116]⟩ : ByteArray), (⟨#[110, 102, 95, 99, 111, 110, 110, 116, 114, 97, 99, 107]⟩ : ByteArray)] (by decide))).2.2 (by decide) rfl).mono ?_; rintro e w2 ⟨rfl, hb⟩
       obtain ⟨nd, hnd⟩ := hb.out
       have n0 := Aside0.mk (show Below w.heap.size w w2 by rw [hnd]; exact pw_below_drewN (below_alloc HB.out _) nd); clear HB; have HB := n0; clear n0 hb hnd)
    | (go_at_call 146; refine (rd_is a zs _ HA.out HR.out HLN.out (Tabs.below HT.out HB.out)).mono ?_; rintro e w4 ⟨v, rfl, ho, hb⟩
       have HL := Aside0.mk (Kd.R_lower ho (below_size HB.out))
       have n0 := Aside0.mk (below_step HB.out hb); clear HB; have HB := n0; clear n0 ho hb))
  go_ret2
  exact ⟨v, rfl, HL.out, HB.out⟩


set_option maxRecDepth 100000 in
theorem catch_idle (p q : Addr) (w : World) :
    CallsD Tryz.prog 145 #[.pointer (some p), .pointer (some q)] .returning w fun e u' w' => e = .returned (.tuple #[]) ∧ u' = .returning ∧ w' = w := by
  refine callsD_of_wpS Tryz.func145 rfl fun c₀ cs hu => ?_
  apply wpS_seq
  apply wpS_region
  simp [wpOpsS, go_sem, recoverD, hu, Tryz.ntmps145, Exit.thenS]
  refine wpS_cond (t := false) (by simp [Act.eval, Array.replicate]) ?_
  simp only [Bool.false_eq_true, if_false]
  refine wpS_of_wp (wp_skip ?_)
  cases c₀
  simp_all [bodyPostS, results, Tryz.results145]

set_option maxHeartbeats 8000000 in
set_option maxRecDepth 100000 in
theorem tree_is (a0 : ByteArray) (n1 : ByteArray) (n2 : Int) (n3 : Bool) (n4 n5 : Int) (n6 : Nat) (n7 : ByteArray) (n8 : List S35) (PR : World → World → Value → Prop) (w : World)
    (h1 : ∀ w, Tabs w → Calls Tryz.prog 86 #[.agg #[.string a0]] w fun e w' => ∃ v : Value, e = .returned (.tuple #[v, .nilIface]) ∧ PR w w' v ∧ Below w.heap.size w w')
    (h2 : ∀ w0 w v, PR w0 w v → Calls Tryz.prog 87 #[v] w fun e w' => ∃ v7_ : Value, e = .returned (.agg #[.string n1, .int .i64 n2, .bool n3, .int .i64 n4, .int .u64 n5, .float .f64 n6, .string n7, v7_]) ∧ Kd.R k35 35 w' w.heap.size (fun _ => True) v7_ n8 ∧ Below w.heap.size w w') (hTabs : Tabs w) :
    Calls Tryz.prog 85 #[.func (.func 86) #[.agg #[.string a0]] #[], .func (.func 87) #[] #[]] w fun e w' => ∃ v7_ : Value, e = .returned (.tuple #[.agg #[.string n1, .int .i64 n2, .bool n3, .int .i64 n4, .int .u64 n5, .float .f64 n6, .string n7, v7_], .int .i64 0]) ∧ Kd.R k35 35 w' w.heap.size (fun _ => True) v7_ n8 ∧ Below w.heap.size w w' := by
  have hmf : ∀ (fn : Fn) (first cap : Array Value) (w : World), (Instr.makeFunc fn first cap).run Tryz.prog w = .ok (.func fn first cap) w := fun _ _ _ _ => rfl
  have hu35 := Tryz.underlying35
  have HA := Lib.hid h1
  have HA2 := Lib.hid h2
  clear h1 h2
  have HB := Aside0.mk (Below.refl w.heap.size w)
  go_enter_defers Tryz.func85, Tryz.ntmps85
  go_wp2_with (first
    | ((with_reducible refine gate_dst (N := 4) rfl ?_); refine box_event ?hg (N := 4) ?hd (cs := #[.string (⟨#[]⟩ : ByteArray), .int .i64 0, .bool false, .int .i64 0, .int .u64 0, .float .f64 0, .string (⟨#[]⟩ : ByteArray), .slice none 0 0]) (t := 35) ?hr ?_; (case hd => rfl); (case hg => rfl); (case hr => first | (go_simp; done) | (go_simp; rfl)); intro g4 hg w1 hbox hb
       have BK4 := Aside0.mk hbox
       have GE4 := Aside0.mk (show w.heap.size ≤ g4 by rw [hg]; exact below_size HB.out)
       have n0 := Aside0.mk (below_step HB.out hb); clear HB; have HB := n0; clear n0 hb hbox hg)
    | ((with_reducible refine gate_dst (N := 5) rfl ?_); refine box_event ?hg (N := 5) ?hd (cs := #[.int .i64 0]) (t := 3) ?hr ?_; (case hd => rfl); (case hg => rfl); (case hr => first | (go_simp; done) | (go_simp; rfl)); intro g5 hg w2 hbox hb
       have BK5 := Aside0.mk hbox
       have NE := Aside0.mk (show g4 ≠ g5 by rw [hg]; exact Nat.ne_of_lt (blk_lt BK4.out))
       have n1 := Aside0.mk (blk_below BK4.out hb); clear BK4; have BK4 := n1; clear n1
       have GE5 := Aside0.mk (show w.heap.size ≤ g5 by rw [hg]; exact below_size HB.out)
       have n0 := Aside0.mk (below_step HB.out hb); clear HB; have HB := n0; clear n0 hb hbox hg)
    | (go_at_call 86; refine (HA.out _ (Tabs.below hTabs HB.out)).mono ?_; rintro e w3 ⟨vr, rfl, hp, hb⟩
       have HP := Aside0.mk hp
       have n1 := Aside0.mk (blk_below BK4.out hb); clear BK4; have BK4 := n1; clear n1
       have n1 := Aside0.mk (blk_below BK5.out hb); clear BK5; have BK5 := n1; clear n1
       have n0 := Aside0.mk (below_step HB.out hb); clear HB; have HB := n0; clear n0 hb hp))
  refine (HA2.out _ _ _ HP.out).mono ?_
  rintro e w5 ⟨v7, rfl, ho, hb⟩
  have B4 := blk_below BK4.out hb
  have B5 := blk_below BK5.out hb
  have HB5 := below_step HB.out hb
  have HR := Kd.R_newB (Kd.R_newB ho BK4.out) BK5.out
  have HR2 := Aside0.mk (Kd.R_lower HR (below_size HB.out))
  have HBW := Aside0.mk HB5
  obtain ⟨A7, c7, e7⟩ := Kd.R_slice HR2.out
  subst e7
  have hne := NE.out
  have hne2 := NE.out.symm
  have xc0 : w5.cell? ⟨g4, 0, none⟩ = some (.string (⟨#[]⟩ : ByteArray)) := (blk_cell B4 0).trans rfl
  have xf0 := blk_frozen B4 0
  have xc1 : w5.cell? ⟨g4, 1, none⟩ = some (.int .i64 0) := (blk_cell B4 1).trans rfl
  have xf1 := blk_frozen B4 1
  have xc2 : w5.cell? ⟨g4, 2, none⟩ = some (.bool false) := (blk_cell B4 2).trans rfl
  have xf2 := blk_frozen B4 2
  have xc3 : w5.cell? ⟨g4, 3, none⟩ = some (.int .i64 0) := (blk_cell B4 3).trans rfl
  have xf3 := blk_frozen B4 3
  have xc4 : w5.cell? ⟨g4, 4, none⟩ = some (.int .u64 0) := (blk_cell B4 4).trans rfl
  have xf4 := blk_frozen B4 4
  have xc5 : w5.cell? ⟨g4, 5, none⟩ = some (.float .f64 0) := (blk_cell B4 5).trans rfl
  have xf5 := blk_frozen B4 5
  have xc6 : w5.cell? ⟨g4, 6, none⟩ = some (.string (⟨#[]⟩ : ByteArray)) := (blk_cell B4 6).trans rfl
  have xf6 := blk_frozen B4 6
  have xc7 : w5.cell? ⟨g4, 7, none⟩ = some (.slice none 0 0) := (blk_cell B4 7).trans rfl
  have xf7 := blk_frozen B4 7
  have yc0 : w5.cell? ⟨g5, 0, none⟩ = some (.int .i64 0) := (blk_cell B5 0).trans rfl
  have yf0 := blk_frozen B5 0
  clear B4 B5 HR HB5 ho hb BK4 BK5 HB HP
  go_wp2
  refine leaves_cons (f := 145) (args := #[.pointer (some ⟨g4, 0, none⟩), .pointer (some ⟨g5, 0, none⟩)]) (by simp) (by simp [go_sem]) ?_
  refine (catch_idle ⟨g4, 0, none⟩ ⟨g5, 0, none⟩ _).mono ?_
  rintro e u' w'' ⟨rfl, rfl, rfl⟩
  simp [Leaves, settle, results, Tryz.results85, go_sem, xc0, xc1, xc2, xc3, xc4, xc5, xc6, xc7, yc0, hne, hne2]
  refine ⟨Kd.R_mono (ok := fun k => (True ∧ k ≠ g4) ∧ k ≠ g5) (by refine Kd.R_far (p := ⟨g5, 0, none⟩) ?_ (fun _ hk => hk.2) _; refine Kd.R_far8 (g := g4) ?_ (fun _ hk => hk.1.2) _ _ _ _ _ _ _ _; exact HR2.out) (fun _ _ => trivial), by refine below_set ?_ GE5.out; refine below_set ?_ GE4.out; refine below_set ?_ GE4.out; refine below_set ?_ GE4.out; refine below_set ?_ GE4.out; refine below_set ?_ GE4.out; refine below_set ?_ GE4.out; refine below_set ?_ GE4.out; refine below_set ?_ GE4.out; exact HBW.out⟩

set_option maxHeartbeats 8000000 in
set_option maxRecDepth 100000 in
theorem door_is (a0 : ByteArray) (n1 : ByteArray) (n2 : Int) (n3 : Bool) (n4 n5 : Int) (n6 : Nat) (n7 : ByteArray) (n8 : List S35) (PR : World → World → Value → Prop) (w : World)
    (h1 : ∀ w, Tabs w → Calls Tryz.prog 86 #[.agg #[.string a0]] w fun e w' => ∃ v : Value, e = .returned (.tuple #[v, .nilIface]) ∧ PR w w' v ∧ Below w.heap.size w w')
    (h2 : ∀ w0 w v, PR w0 w v → Calls Tryz.prog 87 #[v] w fun e w' => ∃ v7_ : Value, e = .returned (.agg #[.string n1, .int .i64 n2, .bool n3, .int .i64 n4, .int .u64 n5, .float .f64 n6, .string n7, v7_]) ∧ Kd.R k35 35 w' w.heap.size (fun _ => True) v7_ n8 ∧ Below w.heap.size w w') (hTabs : Tabs w) :
    Calls Tryz.prog 26 #[.string a0] w fun e w' => ∃ v7_ : Value, e = .returned (.tuple #[.agg #[.string n1, .int .i64 n2, .bool n3, .int .i64 n4, .int .u64 n5, .float .f64 n6, .string n7, v7_], .int .i64 0]) ∧ Kd.R k35 35 w' w.heap.size (fun _ => True) v7_ n8 ∧ Below w.heap.size w w' := by
  have hmf : ∀ (fn : Fn) (first cap : Array Value) (w : World), (Instr.makeFunc fn first cap).run Tryz.prog w = .ok (.func fn first cap) w := fun _ _ _ _ => rfl
  have hu35 := Tryz.underlying35
  have HA := Lib.hid h1
  have HA2 := Lib.hid h2
  clear h1 h2
  have HB := Aside0.mk (Below.refl w.heap.size w)
  go_enter Tryz.func26, Tryz.ntmps26
  go_wp2_with (first
    | ((with_reducible refine gate_dst (N := 2) rfl ?_); refine box_event ?hg (N := 2) ?hd (cs := #[.string (⟨#[]⟩ : ByteArray), .int .i64 0, .bool false, .int .i64 0, .int .u64 0, .float .f64 0, .string (⟨#[]⟩ : ByteArray), .slice none 0 0]) (t := 35) ?hr ?_; (case hd => rfl); (case hg => rfl); (case hr => first | (go_simp; done) | (go_simp; rfl)); intro g4 hg w1 hbox hb
       have BK4 := Aside0.mk hbox
       have GE4 := Aside0.mk (show w.heap.size ≤ g4 by rw [hg]; exact below_size HB.out)
       have n0 := Aside0.mk (below_step HB.out hb); clear HB; have HB := n0; clear n0 hb hbox hg)
    | (go_at_call 50; refine (F.procfs_TextFS.calls a0 a0 _ rfl).mono ?_; rintro e w2 ⟨rfl, hb⟩
       have n1 := Aside0.mk (blk_below BK4.out hb); clear BK4; have BK4 := n1; clear n1
       have n0 := Aside0.mk (below_step HB.out hb); clear HB; have HB := n0; clear n0 hb))
  refine (tree_is a0 n1 n2 n3 n4 n5 n6 n7 n8 PR _ HA.out HA2.out (Tabs.below hTabs HB.out)).mono ?_
  rintro e w5 ⟨v7, rfl, ho, hb⟩
  have B4 := blk_below BK4.out hb
  have HR2 := Aside0.mk (Kd.R_lower (Kd.R_newB ho BK4.out) (below_size HB.out))
  have HBW := Aside0.mk (below_step HB.out hb)
  obtain ⟨A7, c7, e7⟩ := Kd.R_slice HR2.out
  subst e7
  have xc0 : w5.cell? ⟨g4, 0, none⟩ = some (.string (⟨#[]⟩ : ByteArray)) := (blk_cell B4 0).trans rfl
  have xf0 := blk_frozen B4 0
  have xc1 : w5.cell? ⟨g4, 1, none⟩ = some (.int .i64 0) := (blk_cell B4 1).trans rfl
  have xf1 := blk_frozen B4 1
  have xc2 : w5.cell? ⟨g4, 2, none⟩ = some (.bool false) := (blk_cell B4 2).trans rfl
  have xf2 := blk_frozen B4 2
  have xc3 : w5.cell? ⟨g4, 3, none⟩ = some (.int .i64 0) := (blk_cell B4 3).trans rfl
  have xf3 := blk_frozen B4 3
  have xc4 : w5.cell? ⟨g4, 4, none⟩ = some (.int .u64 0) := (blk_cell B4 4).trans rfl
  have xf4 := blk_frozen B4 4
  have xc5 : w5.cell? ⟨g4, 5, none⟩ = some (.float .f64 0) := (blk_cell B4 5).trans rfl
  have xf5 := blk_frozen B4 5
  have xc6 : w5.cell? ⟨g4, 6, none⟩ = some (.string (⟨#[]⟩ : ByteArray)) := (blk_cell B4 6).trans rfl
  have xf6 := blk_frozen B4 6
  have xc7 : w5.cell? ⟨g4, 7, none⟩ = some (.slice none 0 0) := (blk_cell B4 7).trans rfl
  have xf7 := blk_frozen B4 7
  have BW := Aside0.mk B4
  clear B4 ho hb BK4 HB
  go_wp2
  refine bodyPost_ret (results_ct rfl _ _ g4 35 #[.string n1, .int .i64 n2, .bool n3, .int .i64 n4, .int .u64 n5, .float .f64 n6, .string n7, .slice A7 n8.length c7] (0, 0) _ rfl (by exact blk_put8 BW.out) hu35 rfl rfl) rfl ?_
  exact ⟨_, rfl, Kd.R_mono (ok := fun k => True ∧ k ≠ g4) (by refine Kd.R_far8 (g := g4) ?_ (fun _ hk => hk.2) _ _ _ _ _ _ _ _; exact HR2.out) (fun _ _ => trivial), by refine below_set ?_ GE4.out; refine below_set ?_ GE4.out; refine below_set ?_ GE4.out; refine below_set ?_ GE4.out; refine below_set ?_ GE4.out; refine below_set ?_ GE4.out; refine below_set ?_ GE4.out; refine below_set ?_ GE4.out; exact HBW.out⟩

/-- What the door answers of a text of processors' connections. -/
def impl_Conntrack.f (a0 : ByteArray) : Option (ByteArray × Int × Bool × Int × Int × Nat × ByteArray × List S35 × Int) :=
  if a0.size ≤ 1048576 then (runH ctRow a0.data.toList).bind fun zs => if zs.length ≤ 1000000 then (impl_Conntrack_1.f (zs.length + 1) zs).bind fun m => some (m.1, m.2.1, m.2.2.1, m.2.2.2.1, m.2.2.2.2.1, m.2.2.2.2.2.1, m.2.2.2.2.2.2.1, m.2.2.2.2.2.2.2, 0) else none else none
set_option maxRecDepth 100000 in
set_option maxHeartbeats 8000000 in
theorem impl_Conntrack.calls (a0 : ByteArray) (n1 : ByteArray) (n2 : Int) (n3 : Bool) (n4 n5 : Int) (n6 : Nat) (n7 : ByteArray) (n8 : List S35) (n9 : Int) (w : World) (h : impl_Conntrack.f a0 = some (n1, n2, n3, n4, n5, n6, n7, n8, n9)) (hTabs : Tabs w := by first | exact hTabs | exact Tabs.below hTabs (by repeat (first | (with_reducible first | exact HB.out | apply below_alloc | apply pw_below_drewN | apply below_drew1 | refine below_set ?_ (Aside0.out (by assumption))) | exact HB.out))) :
    Calls Tryz.prog 26 #[.string a0] w fun e w' =>
      ∃ v7_ : Value, e = .returned (.tuple #[.agg #[.string n1, .int .i64 n2, .bool n3, .int .i64 n4, .int .u64 n5, .float .f64 n6, .string n7, v7_], .int .i64 n9]) ∧ Kd.R k35 35 w' w.heap.size (fun _ => True) v7_ n8 ∧ Below w.heap.size w w' := by
  unfold impl_Conntrack.f at h
  by_cases c1 : a0.size ≤ 1048576
  · rw [if_pos c1] at h
    obtain ⟨zs, hz, h1⟩ := Option.bind_eq_some_iff.1 h
    clear h
    by_cases c2 : zs.length ≤ 1000000
    · rw [if_pos c2] at h1
      obtain ⟨⟨m1, m2, m3, m4, m5, m6, m7, m8⟩, hm, h5⟩ := Option.bind_eq_some_iff.1 h1
      clear h1
      simp only [Option.some.injEq, Prod.mk.injEq] at h5
      obtain ⟨rfl, rfl, rfl, rfl, rfl, rfl, rfl, rfl, rfl⟩ := h5
      have hrun : ∃ n0, LineAt a0 n0 ∧ ScanRun CtL (rest a0 n0) zs := by have := runH_scan CtL ctRow ctRow_is _ _ hz; rw [toB_of] at this; exact this
      refine door_is a0 _ _ _ _ _ _ _ _ (fun w0 w' v => Kd.R k113 113 w' w0.heap.size (fun _ => True) v zs) w (fun w hT => Fs_is a0 zs w c1 hrun c2 hT) (fun w0 w v hp => ?_) hTabs
      obtain ⟨A, c, rfl⟩ := Kd.R_slice hp
      exact impl_Conntrack_1.calls (zs.length + 1) A c zs _ _ _ _ _ _ _ _ w (Kd.R_reads' hp).2.2 (Kd.R_reads' hp).2.1 hm
    · rw [if_neg c2] at h1; cases h1
  · rw [if_neg c1] at h; cases h
end Go.Proofs.YtdmpbaanonafbaaGreatDoor.DoorCt
