import Derived.Test.YtdmpbaanonafbaaGreatDoorGivPW
import Derived.Test.YtdmpbaanonafbaaGreatDoorScanL
import Derived.Deep.LoopGhost
import Derived.Tactics
import Derived.Tactics2
import Derived.Lib.Hide
import Derived.Test.YtdmpbaanonafbaaGreatDoorK1
import Derived.StillTailTactics
/- parsers.ParseHexUint64s by hand: words of hexadecimal digits are read as numbers of 64 bits; the list is one of pointers, each to a cell of its own. -/
namespace Go.Proofs.YtdmpbaanonafbaaGreatDoor.Hex64
open Go.RowKit Go.Proofs.YtdmpbaanonafbaaGreatDoorW.PrintWords Go.Proofs.YtdmpbaanonafbaaGreatDoorW.PrintLast Go.Proofs.YtdmpbaanonafbaaGreatDoor.GivZ Go.Proofs.YtdmpbaanonafbaaGreatDoorW.PrintMore Go.Proofs.YtdmpbaanonafbaaGreatDoor.GivPW
set_option linter.unusedVariables false
set_option linter.unusedSimpArgs false
/-- A pointer to a number: each number in a block of its own. -/
def ptr : Kd Int where
  sz := 1
  E := [31]
  K := fun w x cs => ∃ g, cs = [.pointer (some ⟨g, 0, none⟩)] ∧ w.cell? ⟨g, 0, none⟩ = some (.int .u64 x)
  M := fun w base ok x cs => ∃ g, cs = [.pointer (some ⟨g, 0, none⟩)] ∧ base ≤ g ∧ ok g ∧ w.heap[g]? = some (.cells #[.int .u64 x] 31 (0, 0))
  K_len := by rintro w x cs ⟨g, rfl, _⟩; rfl
  K_one := by rintro w x cs ⟨g, rfl, _⟩ u hu; rw [List.mem_singleton.1 hu]; rfl
  K_below := by rintro w w1 x cs hb ⟨g, rfl, h⟩; exact ⟨g, rfl, pw_cell_below hb h⟩
  K_of_M := by rintro w base ok x cs ⟨g, rfl, _, _, h⟩; exact ⟨g, rfl, (blk_cell h 0).trans rfl⟩
  M_mono := by rintro w base ok ok' x cs hok ⟨g, rfl, h1, h2, h3⟩; exact ⟨g, rfl, h1, hok g h2, h3⟩
  M_bound := by rintro w base ok x cs ⟨g, rfl, h1, h2, h3⟩; exact ⟨g, rfl, h1, ⟨h2, h1, blk_lt h3, _, List.mem_singleton.2 rfl, _, h3⟩, h3⟩
  M_move := by rintro w w1 base ok x cs hm ⟨g, rfl, h1, h2, h3⟩; exact ⟨g, rfl, h1, h2, (hm g h2).trans h3⟩
  M_lower := by rintro w base base' ok x cs hb ⟨g, rfl, h1, h2, h3⟩; exact ⟨g, rfl, Nat.le_trans hb h1, h2, h3⟩
theorem at_ptr {w : World} {A : Option Addr} {n : Nat} {xs : List Int} (h : ptr.C w A n xs) (i : Int) (h0 : 0 ≤ i) (h1 : i < n) : ∃ ad g, A = some ad ∧ w.cell? (ad.add i.toNat) = some (.pointer (some ⟨g, 0, none⟩)) ∧ w.cell? ⟨g, 0, none⟩ = some (.int .u64 (xs.getD i.toNat 0)) := by
  obtain ⟨ad, c, e, hl, ⟨g, rfl, hg⟩, hc⟩ := Kd.C_get h 0 i h0 h1
  refine ⟨ad, g, e, ?_, hg⟩
  have := hc 0 _ rfl
  rw [show i.toNat * ptr.sz + 0 = i.toNat from by simp [ptr]] at this
  exact this
theorem info_ptr : (Tryz.prog.info? 239).map (fun i => (i.zero, i.size, i.bytes)) = some (some (.pointer none), 1, 8) := by kernel_rfl
theorem make_cap (n : Nat) (hn : n ≤ 1000000) (w : World) : (Instr.makeSlice 236 (.int .i64 0) (.int .i64 (n : Int))).run Tryz.prog w = .ok (.slice (some ⟨w.heap.size, 0, none⟩) 0 n) (w.alloc (.cells (madeCells #[.pointer none] n) 239 (0, 0))) := by
  obtain ⟨i, hi, hz⟩ := Option.map_eq_some_iff.1 info_ptr
  simp only [Prod.mk.injEq] at hz
  have := run_make (P := Tryz.prog) w 236 239 i (.pointer none) Tryz.underlying236 hi hz.1 .i64 .i64 0 n (by omega) (by omega) (by rw [hz.2.2]; omega) (by omega)
  rw [this, hz.2.1]
  simp [Value.cells]
theorem made_R (w : World) (n : Nat) (hn : n ≤ 1000000) : Kd.R ptr 239 (w.alloc (.cells (madeCells #[.pointer none] n) 239 (0, 0))) w.heap.size (fun _ => True) (.slice (some ⟨w.heap.size, 0, none⟩) 0 n) [] := by
  refine ⟨fun _ _ => trivial, [], ⟨by rfl, .inr ⟨w.heap.size, n, madeCells #[.pointer none] n, rfl, Nat.le_refl _, ?_, by simp, by unfold maxLen; omega, ?_, ?_⟩⟩, by rfl, ?_⟩
  · show (w.heap.push _)[w.heap.size]? = _
    simp
  · simp [size_madeCells, ptr]
  · simp
  · intro j p hp
    simp at hp
section
variable {P : Program} {ops : Array Oper} {o : Oper} {rest : List Oper} {a : Act} {Q : Exit → Act → World → Prop} {W : World}
theorem make_event (hgd : o.guard = none) {N : Tmp} (_hd : o.dst = some N) {cs : Array Value} {t : TypeId} {n : Nat}
    (hrun : (execOp a.eval o).run P W = .ok (.value (.slice (some ⟨W.heap.size, 0, none⟩) 0 n)) (W.alloc (.cells cs t (0, 0))))
    (h : ∀ g, g = W.heap.size → ∀ w1, w1 = W.alloc (.cells cs t (0, 0)) → Below W.heap.size W w1 → wpList P ops Q rest (a.put o.dst (.slice (some ⟨g, 0, none⟩) 0 n)) w1) : wpList P ops Q (o :: rest) a W :=
  Kd.event_run hgd hrun (h _ rfl _ rfl (below_alloc (Below.refl _ _) _))
end
set_option maxHeartbeats 8000000 in
set_option maxRecDepth 100000 in
theorem parseHex64_is (A0 : Option Addr) (c0 : Nat) (ps : List ByteArray) (vs : List Int) (w : World) (hr0 : Kd.C Kd.string w A0 ps.length ps) (hn : ps.length ≤ 1000) (hl : vs.length = ps.length)
    (h : ∀ i : Nat, i < ps.length → strconv_ParseU.f (rdOf ByteArray.empty ps (i : Int)) 16 64 = some (vs.getD i 0, none) ∧ 0 ≤ vs.getD i 0 ∧ vs.getD i 0 ≤ 18446744073709551615) :
    Calls Tryz.prog 185 #[.slice A0 ps.length c0] w fun e w' => ∃ v, e = .returned (.tuple #[v, .nilIface]) ∧ Kd.R ptr 239 w' w.heap.size (fun _ => True) v vs ∧ Below w.heap.size w w' := by
  have HR0 := Aside0.mk hr0
  have H := Lib.hid h
  have HL := Aside0.mk hl
  clear hr0 h hl
  have HB := Aside0.mk (Below.refl w.heap.size w)
  go_enter Tryz.func185, Tryz.ntmps185
  go_wp2_with (first
    | ((with_reducible refine gate_dst (N := 11) rfl ?_); refine make_event ?hg (N := 11) ?hd (cs := madeCells #[.pointer none] ps.length) (t := 239) (n := ps.length) ?hr ?_; (case hd => rfl); (case hg => rfl); (case hr => simp [execOp, make_cap ps.length (by omega), go_sem]); intro g hg w1 hw1 hb
       have HO := Aside0.mk (show Kd.R ptr 239 w1 w.heap.size (fun _ => True) (.slice (some ⟨g, 0, none⟩) 0 ps.length) [] by rw [hw1, hg]; exact made_R w ps.length (by omega))
       have n0 := Aside0.mk (below_step HB.out hb); clear HB; have HB := n0; clear n0 hb hw1 hg))
  go_loopg [4, 14] (ps.length + 1) (fun kq v4 v14 w' => ∃ (i : Nat), v14 = .int .i64 (i : Int) ∧ Aside0 (i ≤ ps.length) ∧ Aside0 (ps.length + 1 - i ≤ kq) ∧ Aside0 (Kd.R ptr 239 w' w.heap.size (fun _ => True) v4 (vs.take i)) ∧ Aside0 (Below w.heap.size w w'))
  case atStart => exact ⟨0, rfl, ⟨Nat.zero_le _⟩, ⟨by omega⟩, ⟨by rw [List.take_zero]; exact HO.out⟩, HB⟩
  case round =>
    obtain ⟨i, rfl, hi0, hk, hro, hbw⟩ := hrel
    clear HB HO
    have hi := hi0.out
    by_cases hlt : i < ps.length
    · have hx := H.out i hlt
      have P1 := Aside0.mk hx.1
      have hx1 := hx.2.1
      have hx2 := hx.2.2
      have htake : vs.take (i + 1) = vs.take i ++ [vs.getD i 0] := by
        have hlv : i < vs.length := by rw [HL.out]; exact hlt
        rw [List.take_add_one, List.getElem?_eq_getElem hlv, List.getD_eq_getElem?_getD, List.getElem?_eq_getElem hlv]
        rfl
      have TK := Aside0.mk htake
      clear hx htake
      obtain ⟨u, hu⟩ : ∃ u, u = vs.getD i 0 := ⟨_, rfl⟩
      rw [← hu] at hx1 hx2
      have P2 := Aside0.mk (show strconv_ParseU.f (rdOf ByteArray.empty ps (i : Int)) 16 64 = some (u, none) by rw [hu]; exact P1.out)
      have TK2 := Aside0.mk (show vs.take (i + 1) = vs.take i ++ [u] by rw [hu]; exact TK.out)
      clear hu P1 TK
      have p1 : (0 : Int) ≤ (i : Int) := by omega
      have p2 : (i : Int) < (ps.length : Int) := by omega
      obtain ⟨ad, e1, hx0⟩ := Kd.at_string HR0.out (i : Int) p1 p2
      cases e1
      rw [Int.toNat_natCast] at hx0
      replace hx0 := (hbw.out.cell (World.block_lt_of_cell? w _ hx0)).trans hx0
      have LT := Aside0.mk hlt
      clear hlt
      go_wp2_with fail
      refine (strconv_ParseU.calls _ 16 64 u none _ P2.out).mono ?_
      rintro e w4 ⟨rfl, hb⟩
      try simp only [errW_none]
      have n0 := Aside0.mk (Kd.R_below hro.out hb); clear hro; have hro := n0; clear n0
      have n0 := Aside0.mk (below_step hbw.out hb); clear hbw; have hbw := n0; clear n0 hb hx0
      go_wp2_with (first
        | ((with_reducible refine gate_dst (N := 7) rfl ?_); refine box_event ?hg (N := 7) ?hd (cs := #[.int .u64 0]) (t := 31) ?hr ?_; (case hd => rfl); (case hg => rfl); (case hr => first | (go_simp; done) | (go_simp; rfl)); intro g hg w5 hbox hb
           have GE := (show w.heap.size ≤ g by rw [hg]; exact below_size hbw.out)
           have NE := Aside0.mk (show ∀ k, u4.ownBlock = some k → k ≠ g from fun k hk => by have := Kd.R_lt hro.out k hk; omega)
           have xc0 : w5.cell? ⟨g, 0, none⟩ = some (.int .u64 0) := (blk_cell hbox 0).trans rfl
           have xf0 := blk_frozen hbox 0
           have MP := Aside0.mk (show ptr.M (w5.setCell ⟨g, 0, none⟩ (.int .u64 u)) w.heap.size (fun k => k = g) u [.pointer (some ⟨g, 0, none⟩)] from ⟨g, rfl, GE, rfl, blk_put hbox 0 _ rfl⟩)
           have RO := Aside0.mk (show Kd.R ptr 239 (w5.setCell ⟨g, 0, none⟩ (.int .u64 u)) w.heap.size (fun _ => True) u4 (vs.take i) from Kd.R_step hro.out (fun k _ hk => (Below.heap_setCell w5 ⟨g, 0, none⟩ _ k (by show k ≠ g; omega)).trans (hb.block k hk)))
           have SZ := Aside0.mk (show (w5.setCell ⟨g, 0, none⟩ (.int .u64 u)).heap.size = w5.heap.size by simp [World.setCell])
           have HBW := Aside0.mk (below_set (j := 0) (v := .int .u64 u) (below_step hbw.out hb) GE)
           clear hb hbox hg hro hbw GE)
        | ((with_reducible refine gate_builtin (b := .append) (xs := #[.tmp 26, .tmp 27]) rfl ?_); at_builtin; refine Kd.R_append ptr (w0 := w) w.heap.size rfl (.tmp 26) (.tmp 27) 236 239 (.pointer none) 8 rfl Tryz.underlying236 info_ptr rfl (by decide) (by omega) u4 (vs.take i) u [.pointer (some ⟨g, 0, none⟩)] (fun _ => True) (fun k => k = g) rfl (by rw [SZ.out]; rfl) MP.out (fun k hk => ⟨trivial, fun he => NE.out k he.symm hk⟩) (fun _ _ => trivial) RO.out HBW.out (below_size HBW.out) ?aL ?_
           (case aL => have := LT.out; have := List.length_take_le i vs; omega)
           intro v8 w8 ho hb3 hg3 hat
           rw [← TK2.out] at ho
           have n0 := Aside0.mk ho
           have n2 := Aside0.mk hb3; clear RO HBW MP NE SZ; have hbw := n2; have hro := n0; clear n0 n2 ho hb3 hg3 hat))
      have hlk := hk.out
      have hlt := LT.out
      go_roundg (ps.length - i)
      case measure => omega
      case rel => exact ⟨i + 1, by first | rfl | (congr 1; omega), ⟨by omega⟩, ⟨by omega⟩, hro, hbw⟩
    · have hh : i = ps.length := by omega
      have hfull : vs.take i = vs := by rw [List.take_of_length_le]; rw [HL.out]; omega
      rw [hfull] at hro
      clear hfull
      go_wp2
      go_ret2
      exact ⟨_, rfl, hro.out, hbw.out⟩
end Go.Proofs.YtdmpbaanonafbaaGreatDoor.Hex64

/- procfs.parseConntrackStatEntry by hand: a line of seventeen numbers. -/
namespace Go.Proofs.YtdmpbaanonafbaaGreatDoor.CtLine
open Go.RowKit Go.Proofs.YtdmpbaanonafbaaGreatDoorW.PrintWords Go.Proofs.YtdmpbaanonafbaaGreatDoorW.PrintLast Go.Proofs.YtdmpbaanonafbaaGreatDoor.GivZ Go.Proofs.YtdmpbaanonafbaaGreatDoorW.PrintMore Go.Proofs.YtdmpbaanonafbaaGreatDoor.GivPW Go.Proofs.YtdmpbaanonafbaaGreatDoor.Hex64 Go.Proofs.YtdmpbaanonafbaaGreatDoor.Scan Go.Proofs.YtdmpbaanonafbaaGreatDoor.ScanL Go.Proofs.YtdmpbaanonafbaaGreatDoor.K
set_option linter.unusedVariables false
set_option linter.unusedSimpArgs false
def gd (vs : List Int) (i : Nat) : Int := vs.getD i 0
/-- The words of a line, and what its numbers are. -/
structure Words (ps : List ByteArray) (vs : List Int) : Prop where
  h17 : ps.length = 17
  hlen : vs.length = 17
  hval : ∀ i : Nat, i < 17 → strconv_ParseU.f (rdOf ByteArray.empty ps (i : Int)) 16 64 = some (gd vs i, none) ∧ 0 ≤ gd vs i ∧ gd vs i ≤ 18446744073709551615
def rowS (vs : List Int) : S113 := ⟨gd vs 0, gd vs 1, gd vs 2, gd vs 3, gd vs 4, gd vs 5, gd vs 6, gd vs 7, gd vs 8, gd vs 9, gd vs 10, gd vs 11, gd vs 16⟩
set_option maxHeartbeats 16000000 in
set_option maxRecDepth 100000 in
theorem ctLine_is (A0 : Option Addr) (c0 : Nat) (ps : List ByteArray) (vs : List Int) (w : World) (hr0 : Kd.C Kd.string w A0 ps.length ps) (hW : Words ps vs) :
    Calls Tryz.prog 176 #[.slice A0 ps.length c0] w fun e w' => ∃ g, e = .returned (.tuple #[.pointer (some ⟨g, 0, none⟩), .nilIface]) ∧ w'.heap[g]? = some (.cells #[.int .u64 (gd vs 0), .int .u64 (gd vs 1), .int .u64 (gd vs 2), .int .u64 (gd vs 3), .int .u64 (gd vs 4), .int .u64 (gd vs 5), .int .u64 (gd vs 6), .int .u64 (gd vs 7), .int .u64 (gd vs 8), .int .u64 (gd vs 9), .int .u64 (gd vs 10), .int .u64 (gd vs 11), .int .u64 (gd vs 16)] 113 (0, 0)) ∧ w.heap.size ≤ g ∧ Below w.heap.size w w' := by
  have hu := Tryz.underlying113
  have HR0 := Aside0.mk hr0
  have HW := Lib.hid hW
  clear hr0 hW
  go_enter Tryz.func176, Tryz.ntmps176
  go_wp2_with fail
  refine (parseHex64_is A0 c0 ps vs _ HR0.out (by have := HW.out.h17; omega) (by have := HW.out.h17; have := HW.out.hlen; omega) (fun i hi => HW.out.hval i (by have := HW.out.h17; omega))).mono ?_
  rintro e w1 ⟨v, rfl, hro, hb⟩
  obtain ⟨A, c, rfl, hlc, hC⟩ := Kd.R_reads hro
  have HB := Aside0.mk hb
  have h17 := HW.out.hlen
  rw [h17] at hC ⊢
  clear hb hro hlc
  obtain ⟨ad, g0, e0, hx0, hy0⟩ := at_ptr hC 0 (by omega) (by omega)
  cases e0
  obtain ⟨ad1, g1, e1, hx1, hy1⟩ := at_ptr hC 1 (by omega) (by omega)
  obtain rfl : ad = ad1 := by injection e1
  clear e1
  obtain ⟨ad2, g2, e2, hx2, hy2⟩ := at_ptr hC 2 (by omega) (by omega)
  obtain rfl : ad = ad2 := by injection e2
  clear e2
  obtain ⟨ad3, g3, e3, hx3, hy3⟩ := at_ptr hC 3 (by omega) (by omega)
  obtain rfl : ad = ad3 := by injection e3
  clear e3
  obtain ⟨ad4, g4, e4, hx4, hy4⟩ := at_ptr hC 4 (by omega) (by omega)
  obtain rfl : ad = ad4 := by injection e4
  clear e4
  obtain ⟨ad5, g5, e5, hx5, hy5⟩ := at_ptr hC 5 (by omega) (by omega)
  obtain rfl : ad = ad5 := by injection e5
  clear e5
  obtain ⟨ad6, g6, e6, hx6, hy6⟩ := at_ptr hC 6 (by omega) (by omega)
  obtain rfl : ad = ad6 := by injection e6
  clear e6
  obtain ⟨ad7, g7, e7, hx7, hy7⟩ := at_ptr hC 7 (by omega) (by omega)
  obtain rfl : ad = ad7 := by injection e7
  clear e7
  obtain ⟨ad8, g8, e8, hx8, hy8⟩ := at_ptr hC 8 (by omega) (by omega)
  obtain rfl : ad = ad8 := by injection e8
  clear e8
  obtain ⟨ad9, g9, e9, hx9, hy9⟩ := at_ptr hC 9 (by omega) (by omega)
  obtain rfl : ad = ad9 := by injection e9
  clear e9
  obtain ⟨ad10, g10, e10, hx10, hy10⟩ := at_ptr hC 10 (by omega) (by omega)
  obtain rfl : ad = ad10 := by injection e10
  clear e10
  obtain ⟨ad11, g11, e11, hx11, hy11⟩ := at_ptr hC 11 (by omega) (by omega)
  obtain rfl : ad = ad11 := by injection e11
  clear e11
  obtain ⟨ad16, g16, e16, hx16, hy16⟩ := at_ptr hC 16 (by omega) (by omega)
  obtain rfl : ad = ad16 := by injection e16
  clear e16
  clear hC h17
  replace hy0 : w1.cell? ⟨g0, 0, none⟩ = some (.int .u64 (gd vs 0)) := hy0
  (try rw [show ((0 : Int)).toNat = 0 from rfl] at hx0)
  (try rw [Addr.add_zero'] at hx0)
  replace hy1 : w1.cell? ⟨g1, 0, none⟩ = some (.int .u64 (gd vs 1)) := hy1
  rw [show ad.add ((1 : Int)).toNat = (⟨ad.block, ad.off + 1, none⟩ : Addr) from by simp [Addr.add]] at hx1
  replace hy2 : w1.cell? ⟨g2, 0, none⟩ = some (.int .u64 (gd vs 2)) := hy2
  rw [show ad.add ((2 : Int)).toNat = (⟨ad.block, ad.off + 2, none⟩ : Addr) from by simp [Addr.add]] at hx2
  replace hy3 : w1.cell? ⟨g3, 0, none⟩ = some (.int .u64 (gd vs 3)) := hy3
  rw [show ad.add ((3 : Int)).toNat = (⟨ad.block, ad.off + 3, none⟩ : Addr) from by simp [Addr.add]] at hx3
  replace hy4 : w1.cell? ⟨g4, 0, none⟩ = some (.int .u64 (gd vs 4)) := hy4
  rw [show ad.add ((4 : Int)).toNat = (⟨ad.block, ad.off + 4, none⟩ : Addr) from by simp [Addr.add]] at hx4
  replace hy5 : w1.cell? ⟨g5, 0, none⟩ = some (.int .u64 (gd vs 5)) := hy5
  rw [show ad.add ((5 : Int)).toNat = (⟨ad.block, ad.off + 5, none⟩ : Addr) from by simp [Addr.add]] at hx5
  replace hy6 : w1.cell? ⟨g6, 0, none⟩ = some (.int .u64 (gd vs 6)) := hy6
  rw [show ad.add ((6 : Int)).toNat = (⟨ad.block, ad.off + 6, none⟩ : Addr) from by simp [Addr.add]] at hx6
  replace hy7 : w1.cell? ⟨g7, 0, none⟩ = some (.int .u64 (gd vs 7)) := hy7
  rw [show ad.add ((7 : Int)).toNat = (⟨ad.block, ad.off + 7, none⟩ : Addr) from by simp [Addr.add]] at hx7
  replace hy8 : w1.cell? ⟨g8, 0, none⟩ = some (.int .u64 (gd vs 8)) := hy8
  rw [show ad.add ((8 : Int)).toNat = (⟨ad.block, ad.off + 8, none⟩ : Addr) from by simp [Addr.add]] at hx8
  replace hy9 : w1.cell? ⟨g9, 0, none⟩ = some (.int .u64 (gd vs 9)) := hy9
  rw [show ad.add ((9 : Int)).toNat = (⟨ad.block, ad.off + 9, none⟩ : Addr) from by simp [Addr.add]] at hx9
  replace hy10 : w1.cell? ⟨g10, 0, none⟩ = some (.int .u64 (gd vs 10)) := hy10
  rw [show ad.add ((10 : Int)).toNat = (⟨ad.block, ad.off + 10, none⟩ : Addr) from by simp [Addr.add]] at hx10
  replace hy11 : w1.cell? ⟨g11, 0, none⟩ = some (.int .u64 (gd vs 11)) := hy11
  rw [show ad.add ((11 : Int)).toNat = (⟨ad.block, ad.off + 11, none⟩ : Addr) from by simp [Addr.add]] at hx11
  replace hy16 : w1.cell? ⟨g16, 0, none⟩ = some (.int .u64 (gd vs 16)) := hy16
  rw [show ad.add ((16 : Int)).toNat = (⟨ad.block, ad.off + 16, none⟩ : Addr) from by simp [Addr.add]] at hx16
  go_wp2_with fail
  go_still_tail 61, (by kernel_rfl)
  change wpList _ _ _ _ _ w1.drew
  have HB2 := Aside0.mk (below_drew HB.out)
  replace hx16 : w1.drew.cell? _ = _ := hx16
  replace hy16 : w1.drew.cell? _ = _ := hy16
  clear HB hx0 hy0 hx1 hy1 hx2 hy2 hx3 hy3 hx4 hy4 hx5 hy5 hx6 hy6 hx7 hy7 hx8 hy8 hx9 hy9 hx10 hy10 hx11 hy11
  generalize w1.drew = w2 at *
  go_wp2_with (first
    | ((with_reducible refine gate_dst (N := 86) rfl ?_); refine box_event ?hg (N := 86) ?hd (cs := #[.int .u64 (gd vs 0), .int .u64 (gd vs 1), .int .u64 (gd vs 2), .int .u64 (gd vs 3), .int .u64 (gd vs 4), .int .u64 (gd vs 5), .int .u64 (gd vs 6), .int .u64 (gd vs 7), .int .u64 (gd vs 8), .int .u64 (gd vs 9), .int .u64 (gd vs 10), .int .u64 (gd vs 11), .int .u64 0]) (t := 113) ?hr ?_; (case hd => rfl); (case hg => rfl); (case hr => first | (go_simp; done) | (go_simp; rfl)); intro g hg w3 hbox hb
       have BK := Aside0.mk hbox
       have GE := Aside0.mk (show w.heap.size ≤ g by rw [hg]; exact below_size HB2.out)
       have n0 := Aside0.mk (below_step HB2.out hb); clear HB2; have HB := n0
       have ha16 := (hb.cell (World.block_lt_of_cell? w2 _ hx16)).trans hx16
       have hb16 := (hb.cell (World.block_lt_of_cell? w2 _ hy16)).trans hy16
       have xc12 : w3.cell? ⟨g, 12, none⟩ = some (.int .u64 0) := (blk_cell hbox 12).trans rfl
       have xf12 := blk_frozen hbox 12
       clear n0 hb hbox hg hx16 hy16))
  go_ret2
  exact ⟨g, rfl, blk_put BK.out 12 _ rfl, GE.out, below_set HB.out GE.out⟩
end Go.Proofs.YtdmpbaanonafbaaGreatDoor.CtLine

/- procfs.parseConntrackStat by hand: what it reads of a text, a head and lines behind it. -/
namespace Go.Proofs.YtdmpbaanonafbaaGreatDoor.CtLoop
open Go.RowKit Go.Proofs.YtdmpbaanonafbaaGreatDoorW.PrintWords Go.Proofs.YtdmpbaanonafbaaGreatDoorW.PrintLast Go.Proofs.YtdmpbaanonafbaaGreatDoor.GivZ Go.Proofs.YtdmpbaanonafbaaGreatDoorW.PrintMore Go.Proofs.YtdmpbaanonafbaaGreatDoor.Scan Go.Proofs.YtdmpbaanonafbaaGreatDoor.ScanL Go.Proofs.YtdmpbaanonafbaaGreatDoor.GivPW Go.Proofs.YtdmpbaanonafbaaGreatDoor.CtLine Go.Proofs.YtdmpbaanonafbaaGreatDoor.K
set_option linter.unusedVariables false
set_option linter.unusedSimpArgs false
theorem info_ct : (Tryz.prog.info? 113).map (fun i => (i.zero, i.size, i.bytes)) = some (some (.agg #[.int .u64 0, .int .u64 0, .int .u64 0, .int .u64 0, .int .u64 0, .int .u64 0, .int .u64 0, .int .u64 0, .int .u64 0, .int .u64 0, .int .u64 0, .int .u64 0, .int .u64 0]), 13, 104) := by kernel_rfl
def CtL (l : ByteArray) (z : S113) : Prop := ∃ ps vs, strings_Fields.f l = some ps ∧ Words ps vs ∧ z = rowS vs
set_option maxHeartbeats 8000000 in
set_option maxRecDepth 100000 in
theorem ctLoop_is (t : ByteArray) (n0 : Nat) (zs : List S113) (w : World) (hh : LineAt t n0) (hr : ScanRun CtL (rest t n0) zs) (hl : zs.length ≤ 1000000) (hTabs : Tabs w) :
    Calls Tryz.prog 161 #[.string t] w fun e w' => ∃ v, e = .returned (.tuple #[v, .nilIface]) ∧ Kd.R k113 113 w' w.heap.size (fun _ => True) v zs ∧ Below w.heap.size w w' := by
  have hu := Tryz.underlying113
  have HR := Lib.hid hr
  have HH := Lib.hid hh
  have HT := Lib.hid hTabs
  clear hr hTabs hh
  have HB := Aside0.mk (Below.refl w.heap.size w)
  go_enter Tryz.func161, Tryz.ntmps161
  go_wp2_with (first
    | (go_at_call 133; refine (newLines_is _ _).mono ?_; rintro e w2 ⟨g, rfl, hg, hblk, hb⟩
       have BK0 := Aside0.mk hblk
       have HG := Aside0.mk (show w.heap.size ≤ g by rw [hg]; exact below_size HB.out)
       have n0' := Aside0.mk (below_step HB.out hb); clear HB; have HB := n0'; clear n0' hb hblk hg)
    | (go_at_call 134; refine (scan_yes g t _ n0 _ BK0.out HH.out.hne HH.out.hn HH.out.hmost HH.out.hbefore HH.out.hend HH.out.hcr HH.out.hsz).mono ?_; rintro e w3 ⟨rfl, hb2, hkb, hbl⟩
       have BK := Aside0.mk hb2
       have n0' := Aside0.mk (hbl _ HB.out HG.out); clear HB; have HB := n0'; clear n0' hb2 hkb hbl))
  go_loopg [4] t.size (fun kq v4 w' => ∃ (t1 line : ByteArray) (xs ys : List S113), Aside0 (xs ++ ys = zs) ∧ Aside0 (ScanRun CtL t1 ys) ∧ Aside0 (t1.size ≤ kq) ∧ Aside0 (w'.heap[g]? = some (scn t1 line)) ∧ Aside0 (Kd.R k113 113 w' w.heap.size (fun k_ => k_ ≠ g) v4 xs) ∧ Aside0 (Below w.heap.size w w'))
  case atStart => exact ⟨_, _, [], zs, ⟨rfl⟩, ⟨HR.out⟩, ⟨by have := rest_size t n0 HH.out.hne; omega⟩, BK, ⟨Kd.R_nil _ _ _ _ _⟩, HB⟩
  case round =>
    obtain ⟨t1, line, xs, ys, hz, hrun, hk, hblk, hro, hbw⟩ := hrel
    clear HB BK HR
    have hrun := hrun.out
    cases hrun with
    | done =>
      go_wp2_with (first
        | (go_at_call 134; refine (scan_no g line _ hblk.out).mono ?_; rintro e w4 ⟨rfl, hb2, hkb, hbl⟩
           have n0 := Aside0.mk (Kd.R_keep hro.out hkb (fun _ h => h)); clear hro; have hro := n0; clear n0
           have n0 := Aside0.mk hb2; clear hblk; have hblk := n0; clear n0
           have n0 := Aside0.mk (hbl _ hbw.out HG.out); clear hbw; have hbw := n0; clear n0 hb2 hkb hbl))
      go_ret2
      refine ⟨_, rfl, Kd.R_mono (by have := hz.out; rw [List.append_nil] at this; rw [← this]; exact hro.out) (fun _ _ => trivial), hbw.out⟩
    | @row _ n b zs' hL0 hP0 hrest0 =>
      obtain ⟨ps, vs, hf0, hW0, rfl⟩ := hP0
      have hL := Lib.hid hL0
      have hf := Lib.hid hf0
      have hW := Lib.hid hW0
      have hrest := Lib.hid hrest0
      have hp1 := Aside0.mk (show 0 < ps.length by rw [hW0.h17]; decide)
      have hlen := Aside0.mk (show xs.length + 1 ≤ 1000000 by have := congrArg List.length hz.out; rw [List.length_append, List.length_cons] at this; omega)
      clear hL0 hf0 hW0 hrest0
      go_wp2_with (first
        | (go_at_call 134; refine (scan_yes g t1 line n _ hblk.out hL.out.hne hL.out.hn hL.out.hmost hL.out.hbefore hL.out.hend hL.out.hcr hL.out.hsz).mono ?_; rintro e w4 ⟨rfl, hb2, hkb, hbl⟩
           have n0 := Aside0.mk (Kd.R_keep hro.out hkb (fun _ h => h)); clear hro; have hro := n0; clear n0
           have n0 := Aside0.mk hb2; clear hblk; have hblk := n0; clear n0
           have n0 := Aside0.mk (hbl _ hbw.out HG.out); clear hbw; have hbw := n0; clear n0 hb2 hkb hbl)
        | (go_at_call 136; refine (text_is g _ _ _ hblk.out).mono ?_; rintro e w5 ⟨rfl, rfl⟩)
        | (go_at_call 155; refine (strings_Fields.calls _ ps _ hf.out (Tabs.below HT.out hbw.out)).mono ?_; rintro e w6 ⟨v, rfl, ho, hb⟩; obtain ⟨gp, cp, rfl, hge, hlt, hcp⟩ := Kd.R_form ho hp1.out
           have CO := Aside0.mk (Kd.R_reads' ho).2.2
           have n0 := Aside0.mk (Kd.R_below hro.out hb); clear hro; have hro := n0; clear n0
           have n0 := Aside0.mk (blk_below hblk.out hb); clear hblk; have hblk := n0; clear n0
           have n0 := Aside0.mk (below_step hbw.out hb); clear hbw; have hbw := n0; clear n0 hb ho hge hlt hcp)
        | (go_at_call 176; refine (ctLine_is _ cp ps vs _ CO.out hW.out).mono ?_; rintro e w7 ⟨gr, rfl, hgr, hgr2, hb⟩
           have hs0 : w7.cell? ⟨gr, 0, none⟩ = some (.int .u64 (gd vs 0)) := (blk_cell hgr 0).trans rfl
           have hs1 : w7.cell? ⟨gr, 1, none⟩ = some (.int .u64 (gd vs 1)) := (blk_cell hgr 1).trans rfl
           have hs2 : w7.cell? ⟨gr, 2, none⟩ = some (.int .u64 (gd vs 2)) := (blk_cell hgr 2).trans rfl
           have hs3 : w7.cell? ⟨gr, 3, none⟩ = some (.int .u64 (gd vs 3)) := (blk_cell hgr 3).trans rfl
           have hs4 : w7.cell? ⟨gr, 4, none⟩ = some (.int .u64 (gd vs 4)) := (blk_cell hgr 4).trans rfl
           have hs5 : w7.cell? ⟨gr, 5, none⟩ = some (.int .u64 (gd vs 5)) := (blk_cell hgr 5).trans rfl
           have hs6 : w7.cell? ⟨gr, 6, none⟩ = some (.int .u64 (gd vs 6)) := (blk_cell hgr 6).trans rfl
           have hs7 : w7.cell? ⟨gr, 7, none⟩ = some (.int .u64 (gd vs 7)) := (blk_cell hgr 7).trans rfl
           have hs8 : w7.cell? ⟨gr, 8, none⟩ = some (.int .u64 (gd vs 8)) := (blk_cell hgr 8).trans rfl
           have hs9 : w7.cell? ⟨gr, 9, none⟩ = some (.int .u64 (gd vs 9)) := (blk_cell hgr 9).trans rfl
           have hs10 : w7.cell? ⟨gr, 10, none⟩ = some (.int .u64 (gd vs 10)) := (blk_cell hgr 10).trans rfl
           have hs11 : w7.cell? ⟨gr, 11, none⟩ = some (.int .u64 (gd vs 11)) := (blk_cell hgr 11).trans rfl
           have hs12 : w7.cell? ⟨gr, 12, none⟩ = some (.int .u64 (gd vs 16)) := (blk_cell hgr 12).trans rfl
           have n0 := Aside0.mk (Kd.R_below hro.out hb); clear hro; have hro := n0; clear n0
           have n0 := Aside0.mk (blk_below hblk.out hb); clear hblk; have hblk := n0; clear n0
           have n0 := Aside0.mk (below_step hbw.out hb); clear hbw; have hbw := n0; clear n0 hb hgr hgr2)
        | ((with_reducible refine gate_builtin (b := .append) (xs := #[.tmp 26, .tmp 30]) rfl ?_); at_builtin; refine Kd.R_append k113 (w0 := w) w.heap.size rfl (.tmp 26) (.tmp 30) 109 113 (.agg #[.int .u64 0, .int .u64 0, .int .u64 0, .int .u64 0, .int .u64 0, .int .u64 0, .int .u64 0, .int .u64 0, .int .u64 0, .int .u64 0, .int .u64 0, .int .u64 0, .int .u64 0]) 104 rfl Tryz.underlying109 info_ct rfl (by decide) (by omega) u4 xs (rowS vs) [.int .u64 (gd vs 0), .int .u64 (gd vs 1), .int .u64 (gd vs 2), .int .u64 (gd vs 3), .int .u64 (gd vs 4), .int .u64 (gd vs 5), .int .u64 (gd vs 6), .int .u64 (gd vs 7), .int .u64 (gd vs 8), .int .u64 (gd vs 9), .int .u64 (gd vs 10), .int .u64 (gd vs 11), .int .u64 (gd vs 16)] (fun k_ => k_ ≠ g) (fun _ => False) rfl (by first | rfl | (go_simp; done)) (k113_mkM _ _ _ (rowS vs)) (fun _ hk => hk.elim) ?aF hro.out hbw.out (below_size hbw.out) ?aL ?_
           (case aF => exact (fun k hk he => by have := blk_lt hblk.out; omega)); (case aL => have := hlen.out; omega)
           intro v8 w18 ho hb3 hg3 hat
           have n0 := Aside0.mk ho
           have n1 := Aside0.mk (blk_grown hblk.out hg3 (Kd.R_ne hro.out hblk.out (by decide)))
           have n2 := Aside0.mk hb3; clear hbw hblk hro; have hbw := n2; have hblk := n1; have hro := n0; clear n0 n1 n2 ho hb3 hg3 hat))
      have hlt := rest_size t1 n hL.out.hne
      have hlk := hk.out
      go_roundg ((rest t1 n).size)
      case measure => omega
      case rel =>
        exact ⟨_, _, xs ++ [rowS vs], zs', ⟨by have := hz.out; rw [List.append_assoc]; exact this⟩, ⟨hrest.out⟩, ⟨Nat.le_refl _⟩, hblk, hro, hbw⟩
end Go.Proofs.YtdmpbaanonafbaaGreatDoor.CtLoop
