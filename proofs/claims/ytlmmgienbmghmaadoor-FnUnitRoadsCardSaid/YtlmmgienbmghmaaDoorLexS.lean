/- The lexer of unit files, by hand: the value of an option. -/
import Derived.Test.YtlmmgienbmghmaaDoorLexQ
set_option linter.unusedVariables false
set_option linter.unusedSimpArgs false
namespace Go.Proofs.YtlmmgienbmghmaaDoor.Lex
open Go.RowKit Go.Proofs.YtlmmgienbmghmaaDoorW.PrintWords Go.Proofs.YtlmmgienbmghmaaDoorW.PrintLast Go.Proofs.YtlmmgienbmghmaaDoorW.PrintMore Go.Proofs.YtlmmgienbmghmaaDoor.GivU Go.Proofs.YtlmmgienbmghmaaDoor.J
theorem trimRight_le : ∀ (f : Nat) (l : List UInt8), (Lib.trimRightD f l).length ≤ l.length
  | 0, l => Nat.le_refl _
  | f + 1, l => by
    unfold Lib.trimRightD
    split
    · exact Nat.zero_le _
    · split
      · exact Nat.le_trans (trimRight_le f _) (by rw [List.length_take]; omega)
      · exact Nat.le_refl _
theorem trimV_le (s : ByteArray) : (trimV s).size ≤ s.size := by
  have h1 : (trimV s).size = (Lib.trimSpaceD s.data.toList).length := rfl
  rw [h1, Lib.size_eq]
  exact Nat.le_trans (trimRight_le _ _) (Lib.trimLeftD_le _ _)
/-- An option's value, of what its lines held. -/
def valOf (d : ByteArray) : ByteArray := if Lib.hasSuffix d.data.toList [10] = true then trimV d ++ ⟨#[10]⟩ else trimV d
/-- A line of an option's value: what is found, and the step. -/
def optvR (line : List UInt8) (e : Bool) (s n d : ByteArray) : List Item × Step :=
  if tsLen line = 0 then ([.opt s n (valOf d)], .soo s)
  else if Lib.hasSuffix line [92] = true then ([], .optv s n (if e = true then d ++ ⟨line.toArray⟩ else d ++ ⟨line.toArray⟩ ++ ⟨#[10]⟩))
  else ([.opt s n (valOf (d ++ ⟨line.toArray⟩))], .soo s)
theorem LexAt.store {w0 W : World} {p g : Nat} {t : ByteArray} {b : Bf} {dv ev : Value} {cels : List Cel} (h : LexAt w0 W p g t b dv ev cels) {q : Nat} {cs : Array Value} (hq : W.heap[q]? = some (.cells cs 9 (0, 0))) (hb : w0.heap.size ≤ q) (j : Nat) (u : Value) : LexAt w0 (W.setCell ⟨q, j, none⟩ u) p g t b dv ev cels where
  base := below_set h.base hb
  hg := h.hg
  hp := h.hp
  buf := (Below.heap_setCell W ⟨q, j, none⟩ u g (ne_type (show W.heap[g]? = _ from h.buf) hq (by decide))).trans (show W.heap[g]? = _ from h.buf)
  ok := h.ok
  h4 := h.h4
  lex := (Below.heap_setCell W ⟨q, j, none⟩ u p (ne_type h.lex hq (by decide))).trans h.lex
  data := Kd.R_mono (Kd.R_far (Kd.R_types h.data hq (by decide)) (fun k hk => hk.2) u) (fun _ _ => trivial)
  secs := Secs.frame (fun k cs T hk hT => (Below.heap_setCell W ⟨q, j, none⟩ u k (ne_type hk hq (by rcases hT with rfl | rfl <;> decide))).trans hk) _ _ h.secs
theorem Box.set {W : World} {q : Nat} {T : TypeId} {v : Value} (h : Box W q T v) (u : Value) : Box (W.setCell ⟨q, 0, none⟩ u) q T u := by
  have : W.heap[q]? = _ := h
  simp [Box, World.setCell, Array.getElem?_modify, this]
theorem Box.far {W : World} {q q' : Nat} {T : TypeId} {v : Value} (h : Box W q T v) (hne : q ≠ q') (j : Nat) (u : Value) : Box (W.setCell ⟨q', j, none⟩ u) q T v := (Below.heap_setCell W ⟨q', j, none⟩ u q hne).trans h
theorem IsBytes.store {W : World} {q : Nat} {T : TypeId} {d : ByteArray} {v : Value} {l : List UInt8} (h : IsBytes W v l) (hq : Box W q T (.string d)) (u : Value) : IsBytes (W.setCell ⟨q, 0, none⟩ u) v l := by
  obtain ⟨A, c, e, hc, h1, h2, h3⟩ := h
  refine ⟨A, c, e, hc, h1, h2, fun hp => ?_⟩
  obtain ⟨a, ha, hr⟩ := h3 hp
  refine ⟨a, ha, fun j x hj => ?_⟩
  obtain ⟨cs, hl, hk, hcell⟩ := hr j x hj
  refine ⟨cs, hl, hk, fun i y hy => ?_⟩
  have hx := hcell i y hy
  have hk2 : cs = [.int .u8 x] := hk
  have hy2 : y = .int .u8 x := by
    rw [hk2] at hy
    cases i with
    | zero => exact (Option.some.inj hy).symm
    | succ i => simp at hy
  have hne : a.add (j * (Kd.int .u8).sz + i) ≠ ⟨q, 0, none⟩ := fun e => by
    rw [e, hq.cell, hy2] at hx
    cases Option.some.inj hx
  rw [World.cell?_setCell_other _ _ _ _ (by first | exact hne | exact Ne.symm hne)]
  exact hx
set_option maxHeartbeats 16000000 in
set_option maxRecDepth 100000 in
theorem optv_is (w0 W : World) (p g : Nat) (s nm d t : ByteArray) (b b' : Bf) (e : Bool) (k : Nat) (q0 q1 q2 q3 : Nat) (dv : Value) (cels : List Cel) (h : LexAt w0 W p g t b dv .nilIface cels) (ht : t.size ≤ 100000) (hT : UTabs w0) (hcl : cels.length ≤ 1000000) (hds : d.size ≤ 1000000000000)
    (hpq : p < q1) (n21 : q2 ≠ q1) (n31 : q3 ≠ q1) (hq0 : Box W q0 74 (.pointer (some ⟨p, 0, none⟩))) (hq1 : Box W q1 9 (.string d)) (hq2 : Box W q2 9 (.string s)) (hq3 : Box W q3 9 (.string nm)) (hk : rbN 10 t.data.toList k b = some (b', e)) :
    Calls Tryd.prog 106 #[.pointer (some ⟨q0, 0, none⟩), .pointer (some ⟨q1, 0, none⟩), .pointer (some ⟨q2, 0, none⟩), .pointer (some ⟨q3, 0, none⟩)] W fun e' W' => StepPost w0 p g t cels b' (optvR (lineOf t.data.toList b b') e s nm d).1 (some (optvR (lineOf t.data.toList b b') e s nm d).2) e' W' := by
  have hbg := show W.heap[g]? = _ from h.buf
  have n0 : q0 ≠ g := ne_type hq0 hbg (by decide)
  have n1 : q1 ≠ g := ne_type hq1 hbg (by decide)
  have n2 : q2 ≠ g := ne_type hq2 hbg (by decide)
  have n3 : q3 ≠ g := ne_type hq3 hbg (by decide)
  have n01 : q0 ≠ q1 := ne_type hq0 hq1 (by decide)
  have hwq : w0.heap.size ≤ q1 := by have := h.hp; omega
  have HE := toEOL_is p g t b b' e k W h.lex.c0 h.buf h.ok h.h4 ht hk
  have hll := lineOf_le t b b'
  have hx0 := hq0.cell
  have H := Lib.hid h
  have HQ0 := Lib.hid hq0
  have HQ1 := Lib.hid hq1
  have HQ2 := Lib.hid hq2
  have HQ3 := Lib.hid hq3
  have hlo : trimB 10 (trimB 13 ((t.data.toList.drop b.r).take (b'.r - b.r))) = lineOf t.data.toList b b' := rfl
  rw [hlo] at HE
  generalize lineOf t.data.toList b b' = line at HE hll ⊢
  obtain ⟨R, hR⟩ : ∃ R, R = optvR line e s nm d := ⟨_, rfl⟩
  rw [← hR]
  have HR0 := Lib.hid hR
  clear h hbg hk hq0 hq1 hq2 hq3 hlo hR
  go_enter Tryd.func106, Tryd.ntmps106
  go_wp2_with fail
  refine HE.mono ?_
  clear HE hx0
  rintro e1 W1 ⟨v, rfl, hI, hB, hO, h5, hC⟩
  have H1 := Lib.hid (H.out.step hC hB hO h5)
  have HI := Lib.hid hI
  have HQ0 := Lib.hid (HQ0.out.chg hC n0)
  have HQ1 := Lib.hid (HQ1.out.chg hC n1)
  have HQ2 := Lib.hid (HQ2.out.chg hC n2)
  have HQ3 := Lib.hid (HQ3.out.chg hC n3)
  have HTW := Lib.hid (hT.below H1.out.base)
  clear hI hB hO h5 hC H
  go_wp2_with fail
  refine (trimSpace_is W1 v line HI.out HTW.out (Nat.le_trans hll (Nat.le_trans ht (by decide)))).mono ?_
  rintro e2 W2 ⟨A2, c2, rfl, hb⟩
  have H2 := Lib.hid (H1.out.below hb)
  have HI := Lib.hid (HI.out.below hb)
  have HQ0 := Lib.hid (HQ0.out.below hb)
  have HQ1 := Lib.hid (HQ1.out.below hb)
  have HQ2 := Lib.hid (HQ2.out.below hb)
  have HQ3 := Lib.hid (HQ3.out.below hb)
  clear hb H1 HTW
  have y0 : W2.cell? (⟨q0, 0, none⟩ : Addr) = some (.pointer (some ⟨p, 0, none⟩)) := HQ0.out.cell
  have y1 : W2.cell? (⟨q1, 0, none⟩ : Addr) = some (.string d) := HQ1.out.cell
  have y2 : W2.cell? (⟨q2, 0, none⟩ : Addr) = some (.string s) := HQ2.out.cell
  have y3 : W2.cell? (⟨q3, 0, none⟩ : Addr) = some (.string nm) := HQ3.out.cell
  by_cases hz : tsLen line = 0
  · have HV := Lib.hid (HR0.out.trans (by unfold optvR; rw [if_pos hz]))
    rw [hz]
    clear hz HR0
    have hdz : (d).size ≤ 2000000000000 := Nat.le_trans hds (by decide)
    have hdz2 : (d).size ≤ 9223372036854775807 := Nat.le_trans hdz (by decide)
    have hSF := Lib.hid (fun (Wz : World) => lib_strings_HasSuffix (d) (⟨#[10]⟩ : ByteArray) Wz hdz2)
    have hTW := hT.below H2.out.base
    have hTS := Lib.hid (lib_strings_TrimSpace_any (d) W2 hdz2 hTW.ss hTW.u8 hTW.ws)
    have htz := Lib.hid (Nat.le_trans (trimV_le (d)) hdz)
    clear hdz hdz2 hTW
    have HVV := Lib.hid (show valOf (d) = if Lib.hasSuffix (d).data.toList [10] = true then trimV (d) ++ ⟨#[10]⟩ else trimV (d) from rfl)
    go_wp2_with fail
    refine (hSF.out _).mono ?_
    rintro e5 W5 ⟨rfl, hw5⟩
    obtain rfl := hw5.symm
    obtain ⟨sx, hsx⟩ : ∃ sx, Lib.hasSuffix (d).data.toList [10] = sx := ⟨_, rfl⟩
    rw [hsx]
    have HVV2 := Lib.hid (show valOf (d) = if sx = true then trimV (d) ++ ⟨#[10]⟩ else trimV (d) by rw [HVV.out, hsx])
    clear hsx hSF HVV
    cases sx with
    | true =>
      have HVX := Lib.hid (HVV2.out.trans (if_pos rfl))
      go_wp2_with fail
      refine hTS.out.mono ?_
      clear hTS y0 y1 y2 y3
      rintro e6 W6 ⟨rfl, hb⟩
      have htv : (⟨(Lib.trimSpaceD (d).data.toList).toArray⟩ : ByteArray) = trimV (d) := rfl
      rw [htv]
      clear htv
      have H6 := Lib.hid (H2.out.below hb)
      have HQ0 := Lib.hid (HQ0.out.below hb)
      have HQ2 := Lib.hid (HQ2.out.below hb)
      have HQ3 := Lib.hid (HQ3.out.below hb)
      clear hb H2
      have hcq := htz.out
      have hcq2 : (trimV (d)).size + 1 ≤ 9223372036854775807 := Nat.le_trans (Nat.succ_le_succ hcq) (by decide)
      have hcq1 : ¬ ((trimV (d)).size + 1 > 9223372036854775807) := Nat.not_lt.2 hcq2
      clear hcq
      have y0 : W6.cell? (⟨q0, 0, none⟩ : Addr) = some (.pointer (some ⟨p, 0, none⟩)) := HQ0.out.cell
      have y2 : W6.cell? (⟨q2, 0, none⟩ : Addr) = some (.string s) := HQ2.out.cell
      have y3 : W6.cell? (⟨q3, 0, none⟩ : Addr) = some (.string nm) := HQ3.out.cell
      have yp : W6.cell? (⟨p, 1, none⟩ : Addr) = some dv := H6.out.lex.c1
      go_wp2_with fail
      generalize trimV (d) ++ (⟨#[10]⟩ : ByteArray) = val at HVX ⊢
      have hb3 : Below W6.heap.size W6 ((W6.alloc (.cells #[.string s, .string nm, .string val] 48 (0, 0))).alloc (.cells #[.int .i64 1, .pointer (some ⟨W6.heap.size, 0, none⟩), .pointer none] 83 (0, 0))) := below_alloc (below_alloc (Below.refl _ _) _) _
      have hz3 : ((W6.alloc (.cells #[.string s, .string nm, .string val] 48 (0, 0))).alloc (.cells #[.int .i64 1, .pointer (some ⟨W6.heap.size, 0, none⟩), .pointer none] 83 (0, 0))).heap.size = W6.heap.size + 2 := by rw [alloc_size, alloc_size]
      have e1 : ((W6.alloc (.cells #[.string s, .string nm, .string val] 48 (0, 0))).alloc (.cells #[.int .i64 1, .pointer (some ⟨W6.heap.size, 0, none⟩), .pointer none] 83 (0, 0))).heap[W6.heap.size]? = some (.cells #[.string s, .string nm, .string val] 48 (0, 0)) := blk_alloc (blk_new _ _) _
      have e2 : ((W6.alloc (.cells #[.string s, .string nm, .string val] 48 (0, 0))).alloc (.cells #[.int .i64 1, .pointer (some ⟨W6.heap.size, 0, none⟩), .pointer none] 83 (0, 0))).heap[W6.heap.size + 1]? = some (.cells #[.int .i64 1, .pointer (some ⟨W6.heap.size, 0, none⟩), .pointer none] 83 (0, 0)) := by
        have := blk_new (W6.alloc (.cells #[.string s, .string nm, .string val] 48 (0, 0))) (.cells #[.int .i64 1, .pointer (some ⟨W6.heap.size, 0, none⟩), .pointer none] 83 (0, 0))
        rw [alloc_size] at this
        exact this
      have h3 := H6.out.below hb3
      have HM := Lib.hid (show ld.M ((W6.alloc (.cells #[.string s, .string nm, .string val] 48 (0, 0))).alloc (.cells #[.int .i64 1, .pointer (some ⟨W6.heap.size, 0, none⟩), .pointer none] 83 (0, 0))).drew w0.heap.size (fun k => k = W6.heap.size ∨ k = W6.heap.size + 1) (.opt s nm val) [.pointer (some ⟨W6.heap.size + 1, 0, none⟩)] from ⟨_, rfl, by have := H6.out.base.size; omega, .inr rfl, _, H6.out.base.size, .inl rfl, e2, e1⟩)
      have HOKP := Lib.hid (show ∀ k, (k = W6.heap.size ∨ k = W6.heap.size + 1) → (fun _ : Nat => True) k ∧ some k ≠ dv.ownBlock from fun k hk => ⟨trivial, fun he => by have := Kd.R_lt H6.out.data k he.symm; omega⟩)
      have HRR := Lib.hid (show Kd.R ld 80 ((W6.alloc (.cells #[.string s, .string nm, .string val] 48 (0, 0))).alloc (.cells #[.int .i64 1, .pointer (some ⟨W6.heap.size, 0, none⟩), .pointer none] 83 (0, 0))).drew w0.heap.size (fun _ => True) dv cels from h3.data)
      have HB3 := Lib.hid (show Below w0.heap.size w0 ((W6.alloc (.cells #[.string s, .string nm, .string val] 48 (0, 0))).alloc (.cells #[.int .i64 1, .pointer (some ⟨W6.heap.size, 0, none⟩), .pointer none] 83 (0, 0))).drew from below_drew h3.base)
      have HSZ := Lib.hid (show ((W6.alloc (.cells #[.string s, .string nm, .string val] 48 (0, 0))).alloc (.cells #[.int .i64 1, .pointer (some ⟨W6.heap.size, 0, none⟩), .pointer none] 83 (0, 0))).drew.heap.size = W6.heap.size + 2 from hz3)
      have HBS := Lib.hid (show w0.heap.size ≤ ((W6.alloc (.cells #[.string s, .string nm, .string val] 48 (0, 0))).alloc (.cells #[.int .i64 1, .pointer (some ⟨W6.heap.size, 0, none⟩), .pointer none] 83 (0, 0))).drew.heap.size by have := H6.out.base.size; rw [HSZ.out]; omega)
      have HP3 := Lib.hid (show ((W6.alloc (.cells #[.string s, .string nm, .string val] 48 (0, 0))).alloc (.cells #[.int .i64 1, .pointer (some ⟨W6.heap.size, 0, none⟩), .pointer none] 83 (0, 0))).drew.heap[p]? = _ from h3.lex)
      have HQ03 := Lib.hid (show ((W6.alloc (.cells #[.string s, .string nm, .string val] 48 (0, 0))).alloc (.cells #[.int .i64 1, .pointer (some ⟨W6.heap.size, 0, none⟩), .pointer none] 83 (0, 0))).drew.heap[q0]? = _ from HQ0.out.below (below_drew hb3))
      have HQ23 := Lib.hid (show ((W6.alloc (.cells #[.string s, .string nm, .string val] 48 (0, 0))).alloc (.cells #[.int .i64 1, .pointer (some ⟨W6.heap.size, 0, none⟩), .pointer none] 83 (0, 0))).drew.heap[q2]? = _ from HQ2.out.below (below_drew hb3))
      have HQ33 := Lib.hid (show ((W6.alloc (.cells #[.string s, .string nm, .string val] 48 (0, 0))).alloc (.cells #[.int .i64 1, .pointer (some ⟨W6.heap.size, 0, none⟩), .pointer none] 83 (0, 0))).drew.heap[q3]? = _ from HQ3.out.below (below_drew hb3))
      have HBW := Lib.hid (show Below W6.heap.size W6 ((W6.alloc (.cells #[.string s, .string nm, .string val] 48 (0, 0))).alloc (.cells #[.int .i64 1, .pointer (some ⟨W6.heap.size, 0, none⟩), .pointer none] 83 (0, 0))).drew from below_drew hb3)
      clear hb3 hz3 e1 e2 h3
      have xa0 : (W6.alloc (.cells #[.string s, .string nm, .string val] 48 (0, 0))).cell? ⟨q0, 0, none⟩ = some (.pointer (some ⟨p, 0, none⟩)) := pw_cell_below (below_alloc (Below.refl _ _) _) y0
      have xb0 : (W6.alloc (.cells #[.string s, .string nm, .string val] 48 (0, 0))).cell? ⟨q2, 0, none⟩ = some (.string s) := pw_cell_below (below_alloc (Below.refl _ _) _) y2
      have xc0 : (W6.alloc (.cells #[.string s, .string nm, .string val] 48 (0, 0))).cell? ⟨q3, 0, none⟩ = some (.string nm) := pw_cell_below (below_alloc (Below.refl _ _) _) y3
      have xd0 : (W6.alloc (.cells #[.string s, .string nm, .string val] 48 (0, 0))).cell? ⟨p, 1, none⟩ = some dv := pw_cell_below (below_alloc (Below.refl _ _) _) yp
      have xa1 : ((W6.alloc (.cells #[.string s, .string nm, .string val] 48 (0, 0))).alloc (.cells #[.int .i64 1, .pointer (some ⟨W6.heap.size, 0, none⟩), .pointer none] 83 (0, 0))).cell? ⟨q0, 0, none⟩ = some (.pointer (some ⟨p, 0, none⟩)) := pw_cell_below (below_alloc (below_alloc (Below.refl _ _) _) _) y0
      have xb1 : ((W6.alloc (.cells #[.string s, .string nm, .string val] 48 (0, 0))).alloc (.cells #[.int .i64 1, .pointer (some ⟨W6.heap.size, 0, none⟩), .pointer none] 83 (0, 0))).cell? ⟨q2, 0, none⟩ = some (.string s) := pw_cell_below (below_alloc (below_alloc (Below.refl _ _) _) _) y2
      have xc1 : ((W6.alloc (.cells #[.string s, .string nm, .string val] 48 (0, 0))).alloc (.cells #[.int .i64 1, .pointer (some ⟨W6.heap.size, 0, none⟩), .pointer none] 83 (0, 0))).cell? ⟨q3, 0, none⟩ = some (.string nm) := pw_cell_below (below_alloc (below_alloc (Below.refl _ _) _) _) y3
      have xd1 : ((W6.alloc (.cells #[.string s, .string nm, .string val] 48 (0, 0))).alloc (.cells #[.int .i64 1, .pointer (some ⟨W6.heap.size, 0, none⟩), .pointer none] 83 (0, 0))).cell? ⟨p, 1, none⟩ = some dv := pw_cell_below (below_alloc (below_alloc (Below.refl _ _) _) _) yp
      have xa2 : (((W6.alloc (.cells #[.string s, .string nm, .string val] 48 (0, 0))).alloc (.cells #[.int .i64 1, .pointer (some ⟨W6.heap.size, 0, none⟩), .pointer none] 83 (0, 0))).alloc (.cells #[.pointer (some ⟨W6.heap.size + 1, 0, none⟩)] 80 (0, 0))).cell? ⟨q0, 0, none⟩ = some (.pointer (some ⟨p, 0, none⟩)) := pw_cell_below (below_alloc (below_alloc (below_alloc (Below.refl _ _) _) _) _) y0
      have xb2 : (((W6.alloc (.cells #[.string s, .string nm, .string val] 48 (0, 0))).alloc (.cells #[.int .i64 1, .pointer (some ⟨W6.heap.size, 0, none⟩), .pointer none] 83 (0, 0))).alloc (.cells #[.pointer (some ⟨W6.heap.size + 1, 0, none⟩)] 80 (0, 0))).cell? ⟨q2, 0, none⟩ = some (.string s) := pw_cell_below (below_alloc (below_alloc (below_alloc (Below.refl _ _) _) _) _) y2
      have xc2 : (((W6.alloc (.cells #[.string s, .string nm, .string val] 48 (0, 0))).alloc (.cells #[.int .i64 1, .pointer (some ⟨W6.heap.size, 0, none⟩), .pointer none] 83 (0, 0))).alloc (.cells #[.pointer (some ⟨W6.heap.size + 1, 0, none⟩)] 80 (0, 0))).cell? ⟨q3, 0, none⟩ = some (.string nm) := pw_cell_below (below_alloc (below_alloc (below_alloc (Below.refl _ _) _) _) _) y3
      have xd2 : (((W6.alloc (.cells #[.string s, .string nm, .string val] 48 (0, 0))).alloc (.cells #[.int .i64 1, .pointer (some ⟨W6.heap.size, 0, none⟩), .pointer none] 83 (0, 0))).alloc (.cells #[.pointer (some ⟨W6.heap.size + 1, 0, none⟩)] 80 (0, 0))).cell? ⟨p, 1, none⟩ = some dv := pw_cell_below (below_alloc (below_alloc (below_alloc (Below.refl _ _) _) _) _) yp
      refine wp_region_D (fun w' : World => w'.cell? ⟨q0, 0, none⟩ = some (.pointer (some ⟨p, 0, none⟩)) ∧ w'.cell? ⟨q2, 0, none⟩ = some (.string s) ∧ w'.cell? ⟨q3, 0, none⟩ = some (.string nm) ∧ w'.cell? ⟨p, 1, none⟩ = some dv) 16 (by kernel_rfl) ?_
      have hS0 : (fun w' : World => w'.cell? ⟨q0, 0, none⟩ = some (.pointer (some ⟨p, 0, none⟩)) ∧ w'.cell? ⟨q2, 0, none⟩ = some (.string s) ∧ w'.cell? ⟨q3, 0, none⟩ = some (.string nm) ∧ w'.cell? ⟨p, 1, none⟩ = some dv) W6.drew := ⟨y0, y2, y3, yp⟩
      refine wpAnyD_take (i := 0) (v := ?vvW2t0) rfl (by kernel_rfl) (by kernel_rfl) (by kernel_rfl) (by kernel_rfl) (fun _ _ _ h => h) (Or.inl ⟨by rfl, ?hyW2t0⟩) hS0 ?restW2t0
      case hyW2t0 => (intro w hSw; (try dsimp only at hSw); obtain ⟨hS1, hS2, hS3, hS4⟩ := hSw; go_simp; try (with_reducible rfl))
      try simp only [Act.put, List.setIfInBounds_toArray, List.set_cons_zero, List.set_cons_succ]
      refine wpAnyD_take (i := 1) (v := ?vvW2t1) rfl (by kernel_rfl) (by kernel_rfl) (by kernel_rfl) (by kernel_rfl) (fun _ _ _ h => h) (Or.inl ⟨by rfl, ?hyW2t1⟩) hS0 ?restW2t1
      case hyW2t1 => (intro w hSw; (try dsimp only at hSw); obtain ⟨hS1, hS2, hS3, hS4⟩ := hSw; go_simp; try (with_reducible rfl))
      try simp only [Act.put, List.setIfInBounds_toArray, List.set_cons_zero, List.set_cons_succ]
      refine wpAnyD_take (i := 2) (v := ?vvW2t2) rfl (by kernel_rfl) (by kernel_rfl) (by kernel_rfl) (by kernel_rfl) (fun _ _ _ h => h) (Or.inl ⟨by rfl, ?hyW2t2⟩) hS0 ?restW2t2
      case hyW2t2 => (intro w hSw; (try dsimp only at hSw); obtain ⟨hS1, hS2, hS3, hS4⟩ := hSw; go_simp; try (with_reducible rfl))
      try simp only [Act.put, List.setIfInBounds_toArray, List.set_cons_zero, List.set_cons_succ]
      refine wpAnyD_take (i := 3) (v := ?vvW2t3) rfl (by kernel_rfl) (by kernel_rfl) (by kernel_rfl) (by kernel_rfl) (fun _ _ _ h => h) (Or.inl ⟨by rfl, ?hyW2t3⟩) hS0 ?restW2t3
      case hyW2t3 => (intro w hSw; (try dsimp only at hSw); obtain ⟨hS1, hS2, hS3, hS4⟩ := hSw; go_simp; try (with_reducible rfl))
      try simp only [Act.put, List.setIfInBounds_toArray, List.set_cons_zero, List.set_cons_succ]
      refine wpAnyD_take (i := 4) (v := ?vvW2t4) rfl (by kernel_rfl) (by kernel_rfl) (by kernel_rfl) (by kernel_rfl) (fun _ _ _ h => h) (Or.inl ⟨by rfl, ?hyW2t4⟩) hS0 ?restW2t4
      case hyW2t4 => (intro w hSw; (try dsimp only at hSw); obtain ⟨hS1, hS2, hS3, hS4⟩ := hSw; go_simp; try (with_reducible rfl))
      try simp only [Act.put, List.setIfInBounds_toArray, List.set_cons_zero, List.set_cons_succ]
      refine wpAnyD_take (i := 5) (v := ?vvW2t5) rfl (by kernel_rfl) (by kernel_rfl) (by kernel_rfl) (by kernel_rfl) (fun _ _ _ h => h) (Or.inl ⟨by rfl, ?hyW2t5⟩) hS0 ?restW2t5
      case hyW2t5 => (intro w hSw; (try dsimp only at hSw); obtain ⟨hS1, hS2, hS3, hS4⟩ := hSw; go_simp; try (with_reducible rfl))
      try simp only [Act.put, List.setIfInBounds_toArray, List.set_cons_zero, List.set_cons_succ]
      refine wpAnyD_take (i := 6) (v := ?vvW2t6) rfl (by kernel_rfl) (by kernel_rfl) (by kernel_rfl) (by kernel_rfl) (fun _ _ _ h => h) (Or.inl ⟨by rfl, ?hyW2t6⟩) hS0 ?restW2t6
      case hyW2t6 => (intro w hSw; (try dsimp only at hSw); obtain ⟨hS1, hS2, hS3, hS4⟩ := hSw; go_simp; try (with_reducible rfl))
      try simp only [Act.put, List.setIfInBounds_toArray, List.set_cons_zero, List.set_cons_succ]
      refine wpAnyD_take (i := 7) (v := ?vvW2t7) rfl (by kernel_rfl) (by kernel_rfl) (by kernel_rfl) (by kernel_rfl) (fun _ _ _ h => h) (Or.inl ⟨by rfl, ?hyW2t7⟩) hS0 ?restW2t7
      case hyW2t7 => (intro w hSw; (try dsimp only at hSw); obtain ⟨hS1, hS2, hS3, hS4⟩ := hSw; go_simp; try (with_reducible rfl))
      try simp only [Act.put, List.setIfInBounds_toArray, List.set_cons_zero, List.set_cons_succ]
      refine wpAnyD_one (i := 8) (by kernel_rfl) rfl (fun K hK => ?_)
      go_simp
      refine hK.out _ _ (Or.inr ⟨y0, y2, y3, yp⟩) (fun _ => ?_)
      clear hK K
      try simp only [Act.put, List.setIfInBounds_toArray, List.set_cons_zero, List.set_cons_succ]
      refine wpAnyD_one (i := 9) (by kernel_rfl) rfl (fun K hK => ?_)
      go_simp
      refine hK.out _ _ (Or.inr ⟨xa0, xb0, xc0, xd0⟩) (fun _ => ?_)
      clear hK K
      try simp only [Act.put, List.setIfInBounds_toArray, List.set_cons_zero, List.set_cons_succ]
      refine wpAnyD_one (i := 10) (by kernel_rfl) rfl (fun K hK => ?_)
      go_simp
      refine hK.out _ _ (Or.inr ⟨xa0, xb0, xc0, xd0⟩) (fun _ => ?_)
      clear hK K
      try simp only [Act.put, List.setIfInBounds_toArray, List.set_cons_zero, List.set_cons_succ]
      refine wpAnyD_one (i := 11) (by kernel_rfl) rfl (fun K hK => ?_)
      go_simp
      refine hK.out _ _ (Or.inr ⟨xa1, xb1, xc1, xd1⟩) (fun _ => ?_)
      clear hK K
      try simp only [Act.put, List.setIfInBounds_toArray, List.set_cons_zero, List.set_cons_succ]
      refine wpAnyD_one (i := 12) (by kernel_rfl) rfl (fun K hK => ?_)
      go_simp
      refine hK.out _ _ (Or.inr ⟨xa2, xb2, xc2, xd2⟩) (fun _ => ?_)
      clear hK K
      try simp only [Act.put, List.setIfInBounds_toArray, List.set_cons_zero, List.set_cons_succ]
      refine wpAnyD_one (i := 13) (by kernel_rfl) rfl (fun K hK => ?_)
      refine Kd.R_append_step ld (w0 := w0) (W := ((W6.alloc (.cells #[.string s, .string nm, .string val] 48 (0, 0))).alloc (.cells #[.int .i64 1, .pointer (some ⟨W6.heap.size, 0, none⟩), .pointer none] 83 (0, 0))).drew) w0.heap.size (by rfl) _ _ 77 80 (.pointer none) 8 (by rfl) Tryd.underlying77 info_pld rfl (by decide) (by decide) dv cels (.opt s nm val) [.pointer (some ⟨W6.heap.size + 1, 0, none⟩)] (fun _ => True) (fun k => k = W6.heap.size ∨ k = W6.heap.size + 1) (by rfl) (by show _ = Value.slice (some ⟨_, 0, none⟩) 1 1; rw [HSZ.out]; rfl) HM.out HOKP.out (fun _ _ => trivial) HRR.out HB3.out HBS.out (by omega) ?_
      intro v8 w8 ho hb8 hg8 hat
      have zq8 : w8.cell? ⟨q0, 0, none⟩ = some (.pointer (some ⟨p, 0, none⟩)) := (blk_cell (blk_grown HQ03.out hg8 (Kd.R_ne H6.out.data HQ0.out (by decide))) 0).trans rfl
      have zr8 : w8.cell? ⟨q2, 0, none⟩ = some (.string s) := (blk_cell (blk_grown HQ23.out hg8 (Kd.R_ne H6.out.data HQ2.out (by decide))) 0).trans rfl
      have zs8 : w8.cell? ⟨q3, 0, none⟩ = some (.string nm) := (blk_cell (blk_grown HQ33.out hg8 (Kd.R_ne H6.out.data HQ3.out (by decide))) 0).trans rfl
      have zl8 : LexB w8 p g dv .nilIface := blk_grown HP3.out hg8 (Kd.R_ne H6.out.data H6.out.lex (by decide))
      have zc8 := zl8.c1
      have zf8 := zl8.fz 1
      obtain ⟨A8, c8, rfl⟩ := Kd.R_slice ho
      refine hK.out _ _ (Or.inr ⟨zq8, zr8, zs8, zc8⟩) (fun _ => ?_)
      clear hK K
      try simp only [Act.put, List.setIfInBounds_toArray, List.set_cons_zero, List.set_cons_succ]
      refine wpAnyD_one (i := 14) (by kernel_rfl) rfl (fun K hK => ?_)
      go_simp
      refine hK.out _ _ (Or.inr ⟨zq8, zr8, zs8, zc8⟩) (fun _ => ?_)
      clear hK K
      try simp only [Act.put, List.setIfInBounds_toArray, List.set_cons_zero, List.set_cons_succ]
      refine wpAnyD_one (i := 15) (by kernel_rfl) rfl (fun K hK => ?_)
      go_simp
      refine hK.out _ _ (Or.inr ⟨zq8, zr8, zs8, zc8⟩) (fun _ => ?_)
      clear hK K
      try simp only [Act.put, List.setIfInBounds_toArray, List.set_cons_zero, List.set_cons_succ]
      refine wpAnyD_one (i := 16) (by kernel_rfl) rfl (fun K hK => ?_)
      go_simp
      refine hK.out _ _ (Or.inl rfl) (fun _ => ?_)
      clear hK K
      try simp only [Act.put, List.setIfInBounds_toArray, List.set_cons_zero, List.set_cons_succ]
      refine wpAnyD_done (by kernel_rfl) ?_ _
      have hold : ∀ (j : Nat) (cs : Array Value) (T : TypeId), W6.heap[j]? = some (.cells cs T (0, 0)) → T ≠ 80 → T ≠ 79 → (w8.setCell ⟨p, 1, none⟩ (.slice A8 (cels ++ [Cel.opt s nm val]).length c8)).heap[j]? = some (.cells cs T (0, 0)) := fun j cs T hj h1 h2 => by
        have h8 := blk_grown (blk_below hj HBW.out) hg8 (Kd.R_ne HRR.out (blk_below hj HBW.out) h1.symm)
        exact (Below.heap_setCell w8 ⟨p, 1, none⟩ _ j (ne_type h8 zl8 h2)).trans h8
      have hLex : LexAt w0 (w8.setCell ⟨p, 1, none⟩ (.slice A8 (cels ++ [Cel.opt s nm val]).length c8)) p g t b' (.slice A8 (cels ++ [Cel.opt s nm val]).length c8) .nilIface (cels ++ [Cel.opt s nm val]) := {
        base := below_set hb8 H6.out.hp
        hg := H6.out.hg
        hp := H6.out.hp
        buf := hold g _ _ (show W6.heap[g]? = _ from H6.out.buf) (by decide) (by decide)
        ok := H6.out.ok
        h4 := H6.out.h4
        lex := zl8.set1 _
        data := Kd.R_mono (Kd.R_far (Kd.R_types ho zl8 (by decide)) (fun k hk => hk.2) _) (fun _ _ => trivial)
        secs := Secs.snoc_opt s nm val _ _ (Secs.frame (fun k cs T hk hT => hold k cs T hk (by rcases hT with rfl | rfl <;> decide) (by rcases hT with rfl | rfl <;> decide)) _ _ H6.out.secs) }
      have z0 := (show Box _ q0 _ _ from hold q0 _ _ HQ0.out (by decide) (by decide)).cell
      have z2 := (show Box _ q2 _ _ from hold q2 _ _ HQ2.out (by decide) (by decide)).cell
      have Z0 := Lib.hid z0
      have Z2 := Lib.hid z2
      have HLX := Lib.hid hLex
      clear hold hLex z0 z2
      have hlen : (cels ++ [Cel.opt s nm val]).length = cels.length + 1 := by rw [List.length_append]; rfl
      rw [hlen] at Z0 Z2 HLX
      clear hlen
      go_wp2_with fail
      generalize w8.setCell ⟨p, 1, none⟩ (.slice A8 (cels.length + 1) c8) = w9 at Z0 Z2 HLX ⊢
      refine (sooFunc_is p s w9).mono ?_
      rintro e7 w10 ⟨fn', f1', f2', rfl, hst, hb⟩
      have K0 := Lib.hid hst
      have HL2 := Lib.hid (HLX.out.below hb)
      clear hst hb HLX
      go_wp2_with fail
      go_ret2
      rw [HV.out, HVX.out]
      exact ⟨⟨_, [Cel.opt s nm val], rfl, HL2.out⟩, _, rfl, K0.out⟩
    | false =>
      have HVX := Lib.hid (HVV2.out.trans (if_neg (by decide)))
      go_wp2_with fail
      refine hTS.out.mono ?_
      clear hTS y0 y1 y2 y3
      rintro e6 W6 ⟨rfl, hb⟩
      have htv : (⟨(Lib.trimSpaceD (d).data.toList).toArray⟩ : ByteArray) = trimV (d) := rfl
      rw [htv]
      clear htv
      have H6 := Lib.hid (H2.out.below hb)
      have HQ0 := Lib.hid (HQ0.out.below hb)
      have HQ2 := Lib.hid (HQ2.out.below hb)
      have HQ3 := Lib.hid (HQ3.out.below hb)
      clear hb H2
      have y0 : W6.cell? (⟨q0, 0, none⟩ : Addr) = some (.pointer (some ⟨p, 0, none⟩)) := HQ0.out.cell
      have y2 : W6.cell? (⟨q2, 0, none⟩ : Addr) = some (.string s) := HQ2.out.cell
      have y3 : W6.cell? (⟨q3, 0, none⟩ : Addr) = some (.string nm) := HQ3.out.cell
      have yp : W6.cell? (⟨p, 1, none⟩ : Addr) = some dv := H6.out.lex.c1
      go_wp2_with fail
      generalize trimV (d) = val at HVX ⊢
      have hb3 : Below W6.heap.size W6 ((W6.alloc (.cells #[.string s, .string nm, .string val] 48 (0, 0))).alloc (.cells #[.int .i64 1, .pointer (some ⟨W6.heap.size, 0, none⟩), .pointer none] 83 (0, 0))) := below_alloc (below_alloc (Below.refl _ _) _) _
      have hz3 : ((W6.alloc (.cells #[.string s, .string nm, .string val] 48 (0, 0))).alloc (.cells #[.int .i64 1, .pointer (some ⟨W6.heap.size, 0, none⟩), .pointer none] 83 (0, 0))).heap.size = W6.heap.size + 2 := by rw [alloc_size, alloc_size]
      have e1 : ((W6.alloc (.cells #[.string s, .string nm, .string val] 48 (0, 0))).alloc (.cells #[.int .i64 1, .pointer (some ⟨W6.heap.size, 0, none⟩), .pointer none] 83 (0, 0))).heap[W6.heap.size]? = some (.cells #[.string s, .string nm, .string val] 48 (0, 0)) := blk_alloc (blk_new _ _) _
      have e2 : ((W6.alloc (.cells #[.string s, .string nm, .string val] 48 (0, 0))).alloc (.cells #[.int .i64 1, .pointer (some ⟨W6.heap.size, 0, none⟩), .pointer none] 83 (0, 0))).heap[W6.heap.size + 1]? = some (.cells #[.int .i64 1, .pointer (some ⟨W6.heap.size, 0, none⟩), .pointer none] 83 (0, 0)) := by
        have := blk_new (W6.alloc (.cells #[.string s, .string nm, .string val] 48 (0, 0))) (.cells #[.int .i64 1, .pointer (some ⟨W6.heap.size, 0, none⟩), .pointer none] 83 (0, 0))
        rw [alloc_size] at this
        exact this
      have h3 := H6.out.below hb3
      have HM := Lib.hid (show ld.M ((W6.alloc (.cells #[.string s, .string nm, .string val] 48 (0, 0))).alloc (.cells #[.int .i64 1, .pointer (some ⟨W6.heap.size, 0, none⟩), .pointer none] 83 (0, 0))).drew w0.heap.size (fun k => k = W6.heap.size ∨ k = W6.heap.size + 1) (.opt s nm val) [.pointer (some ⟨W6.heap.size + 1, 0, none⟩)] from ⟨_, rfl, by have := H6.out.base.size; omega, .inr rfl, _, H6.out.base.size, .inl rfl, e2, e1⟩)
      have HOKP := Lib.hid (show ∀ k, (k = W6.heap.size ∨ k = W6.heap.size + 1) → (fun _ : Nat => True) k ∧ some k ≠ dv.ownBlock from fun k hk => ⟨trivial, fun he => by have := Kd.R_lt H6.out.data k he.symm; omega⟩)
      have HRR := Lib.hid (show Kd.R ld 80 ((W6.alloc (.cells #[.string s, .string nm, .string val] 48 (0, 0))).alloc (.cells #[.int .i64 1, .pointer (some ⟨W6.heap.size, 0, none⟩), .pointer none] 83 (0, 0))).drew w0.heap.size (fun _ => True) dv cels from h3.data)
      have HB3 := Lib.hid (show Below w0.heap.size w0 ((W6.alloc (.cells #[.string s, .string nm, .string val] 48 (0, 0))).alloc (.cells #[.int .i64 1, .pointer (some ⟨W6.heap.size, 0, none⟩), .pointer none] 83 (0, 0))).drew from below_drew h3.base)
      have HSZ := Lib.hid (show ((W6.alloc (.cells #[.string s, .string nm, .string val] 48 (0, 0))).alloc (.cells #[.int .i64 1, .pointer (some ⟨W6.heap.size, 0, none⟩), .pointer none] 83 (0, 0))).drew.heap.size = W6.heap.size + 2 from hz3)
      have HBS := Lib.hid (show w0.heap.size ≤ ((W6.alloc (.cells #[.string s, .string nm, .string val] 48 (0, 0))).alloc (.cells #[.int .i64 1, .pointer (some ⟨W6.heap.size, 0, none⟩), .pointer none] 83 (0, 0))).drew.heap.size by have := H6.out.base.size; rw [HSZ.out]; omega)
      have HP3 := Lib.hid (show ((W6.alloc (.cells #[.string s, .string nm, .string val] 48 (0, 0))).alloc (.cells #[.int .i64 1, .pointer (some ⟨W6.heap.size, 0, none⟩), .pointer none] 83 (0, 0))).drew.heap[p]? = _ from h3.lex)
      have HQ03 := Lib.hid (show ((W6.alloc (.cells #[.string s, .string nm, .string val] 48 (0, 0))).alloc (.cells #[.int .i64 1, .pointer (some ⟨W6.heap.size, 0, none⟩), .pointer none] 83 (0, 0))).drew.heap[q0]? = _ from HQ0.out.below (below_drew hb3))
      have HQ23 := Lib.hid (show ((W6.alloc (.cells #[.string s, .string nm, .string val] 48 (0, 0))).alloc (.cells #[.int .i64 1, .pointer (some ⟨W6.heap.size, 0, none⟩), .pointer none] 83 (0, 0))).drew.heap[q2]? = _ from HQ2.out.below (below_drew hb3))
      have HQ33 := Lib.hid (show ((W6.alloc (.cells #[.string s, .string nm, .string val] 48 (0, 0))).alloc (.cells #[.int .i64 1, .pointer (some ⟨W6.heap.size, 0, none⟩), .pointer none] 83 (0, 0))).drew.heap[q3]? = _ from HQ3.out.below (below_drew hb3))
      have HBW := Lib.hid (show Below W6.heap.size W6 ((W6.alloc (.cells #[.string s, .string nm, .string val] 48 (0, 0))).alloc (.cells #[.int .i64 1, .pointer (some ⟨W6.heap.size, 0, none⟩), .pointer none] 83 (0, 0))).drew from below_drew hb3)
      clear hb3 hz3 e1 e2 h3
      have xa0 : (W6.alloc (.cells #[.string s, .string nm, .string val] 48 (0, 0))).cell? ⟨q0, 0, none⟩ = some (.pointer (some ⟨p, 0, none⟩)) := pw_cell_below (below_alloc (Below.refl _ _) _) y0
      have xb0 : (W6.alloc (.cells #[.string s, .string nm, .string val] 48 (0, 0))).cell? ⟨q2, 0, none⟩ = some (.string s) := pw_cell_below (below_alloc (Below.refl _ _) _) y2
      have xc0 : (W6.alloc (.cells #[.string s, .string nm, .string val] 48 (0, 0))).cell? ⟨q3, 0, none⟩ = some (.string nm) := pw_cell_below (below_alloc (Below.refl _ _) _) y3
      have xd0 : (W6.alloc (.cells #[.string s, .string nm, .string val] 48 (0, 0))).cell? ⟨p, 1, none⟩ = some dv := pw_cell_below (below_alloc (Below.refl _ _) _) yp
      have xa1 : ((W6.alloc (.cells #[.string s, .string nm, .string val] 48 (0, 0))).alloc (.cells #[.int .i64 1, .pointer (some ⟨W6.heap.size, 0, none⟩), .pointer none] 83 (0, 0))).cell? ⟨q0, 0, none⟩ = some (.pointer (some ⟨p, 0, none⟩)) := pw_cell_below (below_alloc (below_alloc (Below.refl _ _) _) _) y0
      have xb1 : ((W6.alloc (.cells #[.string s, .string nm, .string val] 48 (0, 0))).alloc (.cells #[.int .i64 1, .pointer (some ⟨W6.heap.size, 0, none⟩), .pointer none] 83 (0, 0))).cell? ⟨q2, 0, none⟩ = some (.string s) := pw_cell_below (below_alloc (below_alloc (Below.refl _ _) _) _) y2
      have xc1 : ((W6.alloc (.cells #[.string s, .string nm, .string val] 48 (0, 0))).alloc (.cells #[.int .i64 1, .pointer (some ⟨W6.heap.size, 0, none⟩), .pointer none] 83 (0, 0))).cell? ⟨q3, 0, none⟩ = some (.string nm) := pw_cell_below (below_alloc (below_alloc (Below.refl _ _) _) _) y3
      have xd1 : ((W6.alloc (.cells #[.string s, .string nm, .string val] 48 (0, 0))).alloc (.cells #[.int .i64 1, .pointer (some ⟨W6.heap.size, 0, none⟩), .pointer none] 83 (0, 0))).cell? ⟨p, 1, none⟩ = some dv := pw_cell_below (below_alloc (below_alloc (Below.refl _ _) _) _) yp
      have xa2 : (((W6.alloc (.cells #[.string s, .string nm, .string val] 48 (0, 0))).alloc (.cells #[.int .i64 1, .pointer (some ⟨W6.heap.size, 0, none⟩), .pointer none] 83 (0, 0))).alloc (.cells #[.pointer (some ⟨W6.heap.size + 1, 0, none⟩)] 80 (0, 0))).cell? ⟨q0, 0, none⟩ = some (.pointer (some ⟨p, 0, none⟩)) := pw_cell_below (below_alloc (below_alloc (below_alloc (Below.refl _ _) _) _) _) y0
      have xb2 : (((W6.alloc (.cells #[.string s, .string nm, .string val] 48 (0, 0))).alloc (.cells #[.int .i64 1, .pointer (some ⟨W6.heap.size, 0, none⟩), .pointer none] 83 (0, 0))).alloc (.cells #[.pointer (some ⟨W6.heap.size + 1, 0, none⟩)] 80 (0, 0))).cell? ⟨q2, 0, none⟩ = some (.string s) := pw_cell_below (below_alloc (below_alloc (below_alloc (Below.refl _ _) _) _) _) y2
      have xc2 : (((W6.alloc (.cells #[.string s, .string nm, .string val] 48 (0, 0))).alloc (.cells #[.int .i64 1, .pointer (some ⟨W6.heap.size, 0, none⟩), .pointer none] 83 (0, 0))).alloc (.cells #[.pointer (some ⟨W6.heap.size + 1, 0, none⟩)] 80 (0, 0))).cell? ⟨q3, 0, none⟩ = some (.string nm) := pw_cell_below (below_alloc (below_alloc (below_alloc (Below.refl _ _) _) _) _) y3
      have xd2 : (((W6.alloc (.cells #[.string s, .string nm, .string val] 48 (0, 0))).alloc (.cells #[.int .i64 1, .pointer (some ⟨W6.heap.size, 0, none⟩), .pointer none] 83 (0, 0))).alloc (.cells #[.pointer (some ⟨W6.heap.size + 1, 0, none⟩)] 80 (0, 0))).cell? ⟨p, 1, none⟩ = some dv := pw_cell_below (below_alloc (below_alloc (below_alloc (Below.refl _ _) _) _) _) yp
      refine wp_region_D (fun w' : World => w'.cell? ⟨q0, 0, none⟩ = some (.pointer (some ⟨p, 0, none⟩)) ∧ w'.cell? ⟨q2, 0, none⟩ = some (.string s) ∧ w'.cell? ⟨q3, 0, none⟩ = some (.string nm) ∧ w'.cell? ⟨p, 1, none⟩ = some dv) 16 (by kernel_rfl) ?_
      have hS0 : (fun w' : World => w'.cell? ⟨q0, 0, none⟩ = some (.pointer (some ⟨p, 0, none⟩)) ∧ w'.cell? ⟨q2, 0, none⟩ = some (.string s) ∧ w'.cell? ⟨q3, 0, none⟩ = some (.string nm) ∧ w'.cell? ⟨p, 1, none⟩ = some dv) W6.drew := ⟨y0, y2, y3, yp⟩
      refine wpAnyD_take (i := 0) (v := ?vvW2f0) rfl (by kernel_rfl) (by kernel_rfl) (by kernel_rfl) (by kernel_rfl) (fun _ _ _ h => h) (Or.inl ⟨by rfl, ?hyW2f0⟩) hS0 ?restW2f0
      case hyW2f0 => (intro w hSw; (try dsimp only at hSw); obtain ⟨hS1, hS2, hS3, hS4⟩ := hSw; go_simp; try (with_reducible rfl))
      try simp only [Act.put, List.setIfInBounds_toArray, List.set_cons_zero, List.set_cons_succ]
      refine wpAnyD_take (i := 1) (v := ?vvW2f1) rfl (by kernel_rfl) (by kernel_rfl) (by kernel_rfl) (by kernel_rfl) (fun _ _ _ h => h) (Or.inl ⟨by rfl, ?hyW2f1⟩) hS0 ?restW2f1
      case hyW2f1 => (intro w hSw; (try dsimp only at hSw); obtain ⟨hS1, hS2, hS3, hS4⟩ := hSw; go_simp; try (with_reducible rfl))
      try simp only [Act.put, List.setIfInBounds_toArray, List.set_cons_zero, List.set_cons_succ]
      refine wpAnyD_take (i := 2) (v := ?vvW2f2) rfl (by kernel_rfl) (by kernel_rfl) (by kernel_rfl) (by kernel_rfl) (fun _ _ _ h => h) (Or.inl ⟨by rfl, ?hyW2f2⟩) hS0 ?restW2f2
      case hyW2f2 => (intro w hSw; (try dsimp only at hSw); obtain ⟨hS1, hS2, hS3, hS4⟩ := hSw; go_simp; try (with_reducible rfl))
      try simp only [Act.put, List.setIfInBounds_toArray, List.set_cons_zero, List.set_cons_succ]
      refine wpAnyD_take (i := 3) (v := ?vvW2f3) rfl (by kernel_rfl) (by kernel_rfl) (by kernel_rfl) (by kernel_rfl) (fun _ _ _ h => h) (Or.inl ⟨by rfl, ?hyW2f3⟩) hS0 ?restW2f3
      case hyW2f3 => (intro w hSw; (try dsimp only at hSw); obtain ⟨hS1, hS2, hS3, hS4⟩ := hSw; go_simp; try (with_reducible rfl))
      try simp only [Act.put, List.setIfInBounds_toArray, List.set_cons_zero, List.set_cons_succ]
      refine wpAnyD_take (i := 4) (v := ?vvW2f4) rfl (by kernel_rfl) (by kernel_rfl) (by kernel_rfl) (by kernel_rfl) (fun _ _ _ h => h) (Or.inl ⟨by rfl, ?hyW2f4⟩) hS0 ?restW2f4
      case hyW2f4 => (intro w hSw; (try dsimp only at hSw); obtain ⟨hS1, hS2, hS3, hS4⟩ := hSw; go_simp; try (with_reducible rfl))
      try simp only [Act.put, List.setIfInBounds_toArray, List.set_cons_zero, List.set_cons_succ]
      refine wpAnyD_take (i := 5) (v := ?vvW2f5) rfl (by kernel_rfl) (by kernel_rfl) (by kernel_rfl) (by kernel_rfl) (fun _ _ _ h => h) (Or.inl ⟨by rfl, ?hyW2f5⟩) hS0 ?restW2f5
      case hyW2f5 => (intro w hSw; (try dsimp only at hSw); obtain ⟨hS1, hS2, hS3, hS4⟩ := hSw; go_simp; try (with_reducible rfl))
      try simp only [Act.put, List.setIfInBounds_toArray, List.set_cons_zero, List.set_cons_succ]
      refine wpAnyD_take (i := 6) (v := ?vvW2f6) rfl (by kernel_rfl) (by kernel_rfl) (by kernel_rfl) (by kernel_rfl) (fun _ _ _ h => h) (Or.inl ⟨by rfl, ?hyW2f6⟩) hS0 ?restW2f6
      case hyW2f6 => (intro w hSw; (try dsimp only at hSw); obtain ⟨hS1, hS2, hS3, hS4⟩ := hSw; go_simp; try (with_reducible rfl))
      try simp only [Act.put, List.setIfInBounds_toArray, List.set_cons_zero, List.set_cons_succ]
      refine wpAnyD_take (i := 7) (v := ?vvW2f7) rfl (by kernel_rfl) (by kernel_rfl) (by kernel_rfl) (by kernel_rfl) (fun _ _ _ h => h) (Or.inl ⟨by rfl, ?hyW2f7⟩) hS0 ?restW2f7
      case hyW2f7 => (intro w hSw; (try dsimp only at hSw); obtain ⟨hS1, hS2, hS3, hS4⟩ := hSw; go_simp; try (with_reducible rfl))
      try simp only [Act.put, List.setIfInBounds_toArray, List.set_cons_zero, List.set_cons_succ]
      refine wpAnyD_one (i := 8) (by kernel_rfl) rfl (fun K hK => ?_)
      go_simp
      refine hK.out _ _ (Or.inr ⟨y0, y2, y3, yp⟩) (fun _ => ?_)
      clear hK K
      try simp only [Act.put, List.setIfInBounds_toArray, List.set_cons_zero, List.set_cons_succ]
      refine wpAnyD_one (i := 9) (by kernel_rfl) rfl (fun K hK => ?_)
      go_simp
      refine hK.out _ _ (Or.inr ⟨xa0, xb0, xc0, xd0⟩) (fun _ => ?_)
      clear hK K
      try simp only [Act.put, List.setIfInBounds_toArray, List.set_cons_zero, List.set_cons_succ]
      refine wpAnyD_one (i := 10) (by kernel_rfl) rfl (fun K hK => ?_)
      go_simp
      refine hK.out _ _ (Or.inr ⟨xa0, xb0, xc0, xd0⟩) (fun _ => ?_)
      clear hK K
      try simp only [Act.put, List.setIfInBounds_toArray, List.set_cons_zero, List.set_cons_succ]
      refine wpAnyD_one (i := 11) (by kernel_rfl) rfl (fun K hK => ?_)
      go_simp
      refine hK.out _ _ (Or.inr ⟨xa1, xb1, xc1, xd1⟩) (fun _ => ?_)
      clear hK K
      try simp only [Act.put, List.setIfInBounds_toArray, List.set_cons_zero, List.set_cons_succ]
      refine wpAnyD_one (i := 12) (by kernel_rfl) rfl (fun K hK => ?_)
      go_simp
      refine hK.out _ _ (Or.inr ⟨xa2, xb2, xc2, xd2⟩) (fun _ => ?_)
      clear hK K
      try simp only [Act.put, List.setIfInBounds_toArray, List.set_cons_zero, List.set_cons_succ]
      refine wpAnyD_one (i := 13) (by kernel_rfl) rfl (fun K hK => ?_)
      refine Kd.R_append_step ld (w0 := w0) (W := ((W6.alloc (.cells #[.string s, .string nm, .string val] 48 (0, 0))).alloc (.cells #[.int .i64 1, .pointer (some ⟨W6.heap.size, 0, none⟩), .pointer none] 83 (0, 0))).drew) w0.heap.size (by rfl) _ _ 77 80 (.pointer none) 8 (by rfl) Tryd.underlying77 info_pld rfl (by decide) (by decide) dv cels (.opt s nm val) [.pointer (some ⟨W6.heap.size + 1, 0, none⟩)] (fun _ => True) (fun k => k = W6.heap.size ∨ k = W6.heap.size + 1) (by rfl) (by show _ = Value.slice (some ⟨_, 0, none⟩) 1 1; rw [HSZ.out]; rfl) HM.out HOKP.out (fun _ _ => trivial) HRR.out HB3.out HBS.out (by omega) ?_
      intro v8 w8 ho hb8 hg8 hat
      have zq8 : w8.cell? ⟨q0, 0, none⟩ = some (.pointer (some ⟨p, 0, none⟩)) := (blk_cell (blk_grown HQ03.out hg8 (Kd.R_ne H6.out.data HQ0.out (by decide))) 0).trans rfl
      have zr8 : w8.cell? ⟨q2, 0, none⟩ = some (.string s) := (blk_cell (blk_grown HQ23.out hg8 (Kd.R_ne H6.out.data HQ2.out (by decide))) 0).trans rfl
      have zs8 : w8.cell? ⟨q3, 0, none⟩ = some (.string nm) := (blk_cell (blk_grown HQ33.out hg8 (Kd.R_ne H6.out.data HQ3.out (by decide))) 0).trans rfl
      have zl8 : LexB w8 p g dv .nilIface := blk_grown HP3.out hg8 (Kd.R_ne H6.out.data H6.out.lex (by decide))
      have zc8 := zl8.c1
      have zf8 := zl8.fz 1
      obtain ⟨A8, c8, rfl⟩ := Kd.R_slice ho
      refine hK.out _ _ (Or.inr ⟨zq8, zr8, zs8, zc8⟩) (fun _ => ?_)
      clear hK K
      try simp only [Act.put, List.setIfInBounds_toArray, List.set_cons_zero, List.set_cons_succ]
      refine wpAnyD_one (i := 14) (by kernel_rfl) rfl (fun K hK => ?_)
      go_simp
      refine hK.out _ _ (Or.inr ⟨zq8, zr8, zs8, zc8⟩) (fun _ => ?_)
      clear hK K
      try simp only [Act.put, List.setIfInBounds_toArray, List.set_cons_zero, List.set_cons_succ]
      refine wpAnyD_one (i := 15) (by kernel_rfl) rfl (fun K hK => ?_)
      go_simp
      refine hK.out _ _ (Or.inr ⟨zq8, zr8, zs8, zc8⟩) (fun _ => ?_)
      clear hK K
      try simp only [Act.put, List.setIfInBounds_toArray, List.set_cons_zero, List.set_cons_succ]
      refine wpAnyD_one (i := 16) (by kernel_rfl) rfl (fun K hK => ?_)
      go_simp
      refine hK.out _ _ (Or.inl rfl) (fun _ => ?_)
      clear hK K
      try simp only [Act.put, List.setIfInBounds_toArray, List.set_cons_zero, List.set_cons_succ]
      refine wpAnyD_done (by kernel_rfl) ?_ _
      have hold : ∀ (j : Nat) (cs : Array Value) (T : TypeId), W6.heap[j]? = some (.cells cs T (0, 0)) → T ≠ 80 → T ≠ 79 → (w8.setCell ⟨p, 1, none⟩ (.slice A8 (cels ++ [Cel.opt s nm val]).length c8)).heap[j]? = some (.cells cs T (0, 0)) := fun j cs T hj h1 h2 => by
        have h8 := blk_grown (blk_below hj HBW.out) hg8 (Kd.R_ne HRR.out (blk_below hj HBW.out) h1.symm)
        exact (Below.heap_setCell w8 ⟨p, 1, none⟩ _ j (ne_type h8 zl8 h2)).trans h8
      have hLex : LexAt w0 (w8.setCell ⟨p, 1, none⟩ (.slice A8 (cels ++ [Cel.opt s nm val]).length c8)) p g t b' (.slice A8 (cels ++ [Cel.opt s nm val]).length c8) .nilIface (cels ++ [Cel.opt s nm val]) := {
        base := below_set hb8 H6.out.hp
        hg := H6.out.hg
        hp := H6.out.hp
        buf := hold g _ _ (show W6.heap[g]? = _ from H6.out.buf) (by decide) (by decide)
        ok := H6.out.ok
        h4 := H6.out.h4
        lex := zl8.set1 _
        data := Kd.R_mono (Kd.R_far (Kd.R_types ho zl8 (by decide)) (fun k hk => hk.2) _) (fun _ _ => trivial)
        secs := Secs.snoc_opt s nm val _ _ (Secs.frame (fun k cs T hk hT => hold k cs T hk (by rcases hT with rfl | rfl <;> decide) (by rcases hT with rfl | rfl <;> decide)) _ _ H6.out.secs) }
      have z0 := (show Box _ q0 _ _ from hold q0 _ _ HQ0.out (by decide) (by decide)).cell
      have z2 := (show Box _ q2 _ _ from hold q2 _ _ HQ2.out (by decide) (by decide)).cell
      have Z0 := Lib.hid z0
      have Z2 := Lib.hid z2
      have HLX := Lib.hid hLex
      clear hold hLex z0 z2
      have hlen : (cels ++ [Cel.opt s nm val]).length = cels.length + 1 := by rw [List.length_append]; rfl
      rw [hlen] at Z0 Z2 HLX
      clear hlen
      go_wp2_with fail
      generalize w8.setCell ⟨p, 1, none⟩ (.slice A8 (cels.length + 1) c8) = w9 at Z0 Z2 HLX ⊢
      refine (sooFunc_is p s w9).mono ?_
      rintro e7 w10 ⟨fn', f1', f2', rfl, hst, hb⟩
      have K0 := Lib.hid hst
      have HL2 := Lib.hid (HLX.out.below hb)
      clear hst hb HLX
      go_wp2_with fail
      go_ret2
      rw [HV.out, HVX.out]
      exact ⟨⟨_, [Cel.opt s nm val], rfl, HL2.out⟩, _, rfl, K0.out⟩
  · have hz2 : (((tsLen line : Nat) : Int) != 0) = true := by simp; omega
    have hz3 : (((tsLen line : Nat) : Int) == 0) = false := beq_eq_false_iff_ne.2 (by omega)
    have hz4 : ((tsLen line : Nat) == 0) = false := beq_eq_false_iff_ne.2 hz
    have hz5 : ¬ tsLen line = 0 := hz
    have HR1 := Lib.hid (HR0.out.trans (by unfold optvR; rw [if_neg hz]))
    obtain ⟨Av, cv, rfl, hcv0, hCv⟩ := HI.out
    have hcv := Lib.hid (fun (Wz : World) (hb : Below W2.heap.size W2 Wz) => conv_is Wz Av line.length cv line rfl (Kd.C_below hCv hb))
    have hcv2 := hcv.out W2 (Below.refl _ _)
    have f1 := HQ1.out.fz
    have hls : (⟨line.toArray⟩ : ByteArray).size = line.length := rfl
    have hq1b : d.size + (⟨line.toArray⟩ : ByteArray).size ≤ 1500000000000 := by rw [hls]; omega
    have hq2b : d.size + (⟨line.toArray⟩ : ByteArray).size ≤ 9223372036854775807 := Nat.le_trans hq1b (by decide)
    have hq3b : ¬ (d.size + (⟨line.toArray⟩ : ByteArray).size > 9223372036854775807) := Nat.not_lt.2 hq2b
    have HDS := Lib.hid (show (d ++ (⟨line.toArray⟩ : ByteArray)).size ≤ 1500000000000 by rw [ByteArray.size_append]; exact hq1b)
    clear hq1b hls hz
    generalize hlstr : (⟨line.toArray⟩ : ByteArray) = lstr at hcv2 hq2b hq3b HDS HR1
    clear hlstr
    go_wp2_with fail
    have H3 := Lib.hid (H2.out.store HQ1.out hwq 0 (.string (d ++ lstr)))
    have HQ0 := Lib.hid (HQ0.out.far n01 0 (.string (d ++ lstr)))
    have HQ2 := Lib.hid (HQ2.out.far n21 0 (.string (d ++ lstr)))
    have HQ3 := Lib.hid (HQ3.out.far n31 0 (.string (d ++ lstr)))
    have HQ1n := Lib.hid (HQ1.out.set (.string (d ++ lstr)))
    have HI3 := Lib.hid (IsBytes.store (show IsBytes W2 (.slice Av line.length cv) line from ⟨Av, cv, rfl, hcv0, hCv⟩) HQ1.out (.string (d ++ lstr)))
    have hsz3 : (W2.setCell ⟨q1, 0, none⟩ (.string (d ++ lstr))).heap.size = W2.heap.size := by simp [World.setCell]
    clear HQ1 H2 HI hCv hcv hcv0 hcv2 y0 y1 y2 y3 f1
    rw [← hsz3]
    clear hsz3
    generalize W2.setCell ⟨q1, 0, none⟩ (.string (d ++ lstr)) = w3 at *
    have HY := Lib.hid (oneByte w3 5 92)
    have hb := below_alloc (Below.refl w3.heap.size w3) (.cells #[.int .u8 92] 5 (0, 0))
    have H2 := Lib.hid (H3.out.below hb)
    have HI2 := Lib.hid (HI3.out.below hb)
    have HQ0 := Lib.hid (HQ0.out.below hb)
    have HQ1 := Lib.hid (HQ1n.out.below hb)
    have HQ2 := Lib.hid (HQ2.out.below hb)
    have HQ3 := Lib.hid (HQ3.out.below hb)
    clear hb H3 HI3 HQ1n
    generalize w3.alloc (.cells #[.int .u8 92] 5 (0, 0)) = w4 at *
    refine (hasSuffix_is w4 _ _ 92 HI2.out _ 1 HY.out).mono ?_
    rintro e3 Wx ⟨rfl, hw⟩
    obtain rfl := hw.symm
    have y0 : w4.cell? (⟨q0, 0, none⟩ : Addr) = some (.pointer (some ⟨p, 0, none⟩)) := HQ0.out.cell
    have y1 : w4.cell? (⟨q1, 0, none⟩ : Addr) = some (.string (d ++ lstr)) := HQ1.out.cell
    have y2 : w4.cell? (⟨q2, 0, none⟩ : Addr) = some (.string s) := HQ2.out.cell
    have y3 : w4.cell? (⟨q3, 0, none⟩ : Addr) = some (.string nm) := HQ3.out.cell
    have f1 := HQ1.out.fz
    obtain ⟨hx, hhx⟩ : ∃ hx, Lib.hasSuffix line [92] = hx := ⟨_, rfl⟩
    rw [hhx] at HR1 ⊢
    clear hhx HI2 HY hz2 hz3 hz4 hz5
    cases hx with
    | true =>
      have HR2 := Lib.hid (HR1.out.trans (if_pos rfl))
      clear HR1
      cases e with
      | true =>
        have HR3 := Lib.hid (HR2.out.trans (by rw [if_pos rfl]))
        clear HR2 hq2b hq3b
        go_wp2_with fail
        refine (optvFunc_is p s nm _ w4 (blk_lt H2.out.lex)).mono ?_
        rintro e7 w10 ⟨fn', f1', f2', rfl, hst, hb⟩
        have K0 := Lib.hid hst
        have HL2 := Lib.hid (H2.out.below hb)
        clear hst hb
        go_wp2_with fail
        go_ret2
        rw [HR3.out]
        exact ⟨⟨_, [], rfl, by rw [List.append_nil]; exact HL2.out⟩, _, rfl, K0.out⟩
      | false =>
        have HR3 := Lib.hid (HR2.out.trans (by rw [if_neg (by decide)]))
        have hcz := HDS.out
        have hcq2 : (d ++ lstr).size + 1 ≤ 9223372036854775807 := Nat.le_trans (Nat.succ_le_succ hcz) (by decide)
        have hcq1 : ¬ ((d ++ lstr).size + 1 > 9223372036854775807) := Nat.not_lt.2 hcq2
        have hcq3 : d.size + lstr.size + 1 ≤ 9223372036854775807 := by rw [← ByteArray.size_append]; exact hcq2
        have hcq4 : ¬ (d.size + lstr.size + 1 > 9223372036854775807) := Nat.not_lt.2 hcq3
        clear HR2 hq2b hq3b hcz
        go_wp2_with fail
        have H5 := Lib.hid (H2.out.store HQ1.out hwq 0 (.string (d ++ lstr ++ ⟨#[10]⟩)))
        refine (optvFunc_is p s nm _ _ (blk_lt H5.out.lex)).mono ?_
        rintro e7 w10 ⟨fn', f1', f2', rfl, hst, hb⟩
        have K0 := Lib.hid hst
        have HL2 := Lib.hid (H5.out.below hb)
        clear hst hb
        go_wp2_with fail
        go_ret2
        rw [HR3.out]
        exact ⟨⟨_, [], rfl, by rw [List.append_nil]; exact HL2.out⟩, _, rfl, K0.out⟩
    | false =>
      have HV := Lib.hid (HR1.out.trans (if_neg (by decide)))
      clear HR1 hq2b hq3b
      have hdz : (d ++ lstr).size ≤ 2000000000000 := Nat.le_trans HDS.out (by decide)
      have hdz2 : (d ++ lstr).size ≤ 9223372036854775807 := Nat.le_trans hdz (by decide)
      have hSF := Lib.hid (fun (Wz : World) => lib_strings_HasSuffix (d ++ lstr) (⟨#[10]⟩ : ByteArray) Wz hdz2)
      have hTW := hT.below H2.out.base
      have hTS := Lib.hid (lib_strings_TrimSpace_any (d ++ lstr) w4 hdz2 hTW.ss hTW.u8 hTW.ws)
      have htz := Lib.hid (Nat.le_trans (trimV_le (d ++ lstr)) hdz)
      clear hdz hdz2 hTW
      have HVV := Lib.hid (show valOf (d ++ lstr) = if Lib.hasSuffix (d ++ lstr).data.toList [10] = true then trimV (d ++ lstr) ++ ⟨#[10]⟩ else trimV (d ++ lstr) from rfl)
      go_wp2_with fail
      refine (hSF.out _).mono ?_
      rintro e5 W5 ⟨rfl, hw5⟩
      obtain rfl := hw5.symm
      obtain ⟨sx, hsx⟩ : ∃ sx, Lib.hasSuffix (d ++ lstr).data.toList [10] = sx := ⟨_, rfl⟩
      rw [hsx]
      have HVV2 := Lib.hid (show valOf (d ++ lstr) = if sx = true then trimV (d ++ lstr) ++ ⟨#[10]⟩ else trimV (d ++ lstr) by rw [HVV.out, hsx])
      clear hsx hSF HVV
      cases sx with
      | true =>
        have HVX := Lib.hid (HVV2.out.trans (if_pos rfl))
        go_wp2_with fail
        refine hTS.out.mono ?_
        clear hTS y0 y1 y2 y3
        rintro e6 W6 ⟨rfl, hb⟩
        have htv : (⟨(Lib.trimSpaceD (d ++ lstr).data.toList).toArray⟩ : ByteArray) = trimV (d ++ lstr) := rfl
        rw [htv]
        clear htv
        have H6 := Lib.hid (H2.out.below hb)
        have HQ0 := Lib.hid (HQ0.out.below hb)
        have HQ2 := Lib.hid (HQ2.out.below hb)
        have HQ3 := Lib.hid (HQ3.out.below hb)
        clear hb H2
        have hcq := htz.out
        have hcq2 : (trimV (d ++ lstr)).size + 1 ≤ 9223372036854775807 := Nat.le_trans (Nat.succ_le_succ hcq) (by decide)
        have hcq1 : ¬ ((trimV (d ++ lstr)).size + 1 > 9223372036854775807) := Nat.not_lt.2 hcq2
        clear hcq
        have y0 : W6.cell? (⟨q0, 0, none⟩ : Addr) = some (.pointer (some ⟨p, 0, none⟩)) := HQ0.out.cell
        have y2 : W6.cell? (⟨q2, 0, none⟩ : Addr) = some (.string s) := HQ2.out.cell
        have y3 : W6.cell? (⟨q3, 0, none⟩ : Addr) = some (.string nm) := HQ3.out.cell
        have yp : W6.cell? (⟨p, 1, none⟩ : Addr) = some dv := H6.out.lex.c1
        go_wp2_with fail
        generalize trimV (d ++ lstr) ++ (⟨#[10]⟩ : ByteArray) = val at HVX ⊢
        have hb3 : Below W6.heap.size W6 ((W6.alloc (.cells #[.string s, .string nm, .string val] 48 (0, 0))).alloc (.cells #[.int .i64 1, .pointer (some ⟨W6.heap.size, 0, none⟩), .pointer none] 83 (0, 0))) := below_alloc (below_alloc (Below.refl _ _) _) _
        have hz3 : ((W6.alloc (.cells #[.string s, .string nm, .string val] 48 (0, 0))).alloc (.cells #[.int .i64 1, .pointer (some ⟨W6.heap.size, 0, none⟩), .pointer none] 83 (0, 0))).heap.size = W6.heap.size + 2 := by rw [alloc_size, alloc_size]
        have e1 : ((W6.alloc (.cells #[.string s, .string nm, .string val] 48 (0, 0))).alloc (.cells #[.int .i64 1, .pointer (some ⟨W6.heap.size, 0, none⟩), .pointer none] 83 (0, 0))).heap[W6.heap.size]? = some (.cells #[.string s, .string nm, .string val] 48 (0, 0)) := blk_alloc (blk_new _ _) _
        have e2 : ((W6.alloc (.cells #[.string s, .string nm, .string val] 48 (0, 0))).alloc (.cells #[.int .i64 1, .pointer (some ⟨W6.heap.size, 0, none⟩), .pointer none] 83 (0, 0))).heap[W6.heap.size + 1]? = some (.cells #[.int .i64 1, .pointer (some ⟨W6.heap.size, 0, none⟩), .pointer none] 83 (0, 0)) := by
          have := blk_new (W6.alloc (.cells #[.string s, .string nm, .string val] 48 (0, 0))) (.cells #[.int .i64 1, .pointer (some ⟨W6.heap.size, 0, none⟩), .pointer none] 83 (0, 0))
          rw [alloc_size] at this
          exact this
        have h3 := H6.out.below hb3
        have HM := Lib.hid (show ld.M ((W6.alloc (.cells #[.string s, .string nm, .string val] 48 (0, 0))).alloc (.cells #[.int .i64 1, .pointer (some ⟨W6.heap.size, 0, none⟩), .pointer none] 83 (0, 0))).drew w0.heap.size (fun k => k = W6.heap.size ∨ k = W6.heap.size + 1) (.opt s nm val) [.pointer (some ⟨W6.heap.size + 1, 0, none⟩)] from ⟨_, rfl, by have := H6.out.base.size; omega, .inr rfl, _, H6.out.base.size, .inl rfl, e2, e1⟩)
        have HOKP := Lib.hid (show ∀ k, (k = W6.heap.size ∨ k = W6.heap.size + 1) → (fun _ : Nat => True) k ∧ some k ≠ dv.ownBlock from fun k hk => ⟨trivial, fun he => by have := Kd.R_lt H6.out.data k he.symm; omega⟩)
        have HRR := Lib.hid (show Kd.R ld 80 ((W6.alloc (.cells #[.string s, .string nm, .string val] 48 (0, 0))).alloc (.cells #[.int .i64 1, .pointer (some ⟨W6.heap.size, 0, none⟩), .pointer none] 83 (0, 0))).drew w0.heap.size (fun _ => True) dv cels from h3.data)
        have HB3 := Lib.hid (show Below w0.heap.size w0 ((W6.alloc (.cells #[.string s, .string nm, .string val] 48 (0, 0))).alloc (.cells #[.int .i64 1, .pointer (some ⟨W6.heap.size, 0, none⟩), .pointer none] 83 (0, 0))).drew from below_drew h3.base)
        have HSZ := Lib.hid (show ((W6.alloc (.cells #[.string s, .string nm, .string val] 48 (0, 0))).alloc (.cells #[.int .i64 1, .pointer (some ⟨W6.heap.size, 0, none⟩), .pointer none] 83 (0, 0))).drew.heap.size = W6.heap.size + 2 from hz3)
        have HBS := Lib.hid (show w0.heap.size ≤ ((W6.alloc (.cells #[.string s, .string nm, .string val] 48 (0, 0))).alloc (.cells #[.int .i64 1, .pointer (some ⟨W6.heap.size, 0, none⟩), .pointer none] 83 (0, 0))).drew.heap.size by have := H6.out.base.size; rw [HSZ.out]; omega)
        have HP3 := Lib.hid (show ((W6.alloc (.cells #[.string s, .string nm, .string val] 48 (0, 0))).alloc (.cells #[.int .i64 1, .pointer (some ⟨W6.heap.size, 0, none⟩), .pointer none] 83 (0, 0))).drew.heap[p]? = _ from h3.lex)
        have HQ03 := Lib.hid (show ((W6.alloc (.cells #[.string s, .string nm, .string val] 48 (0, 0))).alloc (.cells #[.int .i64 1, .pointer (some ⟨W6.heap.size, 0, none⟩), .pointer none] 83 (0, 0))).drew.heap[q0]? = _ from HQ0.out.below (below_drew hb3))
        have HQ23 := Lib.hid (show ((W6.alloc (.cells #[.string s, .string nm, .string val] 48 (0, 0))).alloc (.cells #[.int .i64 1, .pointer (some ⟨W6.heap.size, 0, none⟩), .pointer none] 83 (0, 0))).drew.heap[q2]? = _ from HQ2.out.below (below_drew hb3))
        have HQ33 := Lib.hid (show ((W6.alloc (.cells #[.string s, .string nm, .string val] 48 (0, 0))).alloc (.cells #[.int .i64 1, .pointer (some ⟨W6.heap.size, 0, none⟩), .pointer none] 83 (0, 0))).drew.heap[q3]? = _ from HQ3.out.below (below_drew hb3))
        have HBW := Lib.hid (show Below W6.heap.size W6 ((W6.alloc (.cells #[.string s, .string nm, .string val] 48 (0, 0))).alloc (.cells #[.int .i64 1, .pointer (some ⟨W6.heap.size, 0, none⟩), .pointer none] 83 (0, 0))).drew from below_drew hb3)
        clear hb3 hz3 e1 e2 h3
        have xa0 : (W6.alloc (.cells #[.string s, .string nm, .string val] 48 (0, 0))).cell? ⟨q0, 0, none⟩ = some (.pointer (some ⟨p, 0, none⟩)) := pw_cell_below (below_alloc (Below.refl _ _) _) y0
        have xb0 : (W6.alloc (.cells #[.string s, .string nm, .string val] 48 (0, 0))).cell? ⟨q2, 0, none⟩ = some (.string s) := pw_cell_below (below_alloc (Below.refl _ _) _) y2
        have xc0 : (W6.alloc (.cells #[.string s, .string nm, .string val] 48 (0, 0))).cell? ⟨q3, 0, none⟩ = some (.string nm) := pw_cell_below (below_alloc (Below.refl _ _) _) y3
        have xd0 : (W6.alloc (.cells #[.string s, .string nm, .string val] 48 (0, 0))).cell? ⟨p, 1, none⟩ = some dv := pw_cell_below (below_alloc (Below.refl _ _) _) yp
        have xa1 : ((W6.alloc (.cells #[.string s, .string nm, .string val] 48 (0, 0))).alloc (.cells #[.int .i64 1, .pointer (some ⟨W6.heap.size, 0, none⟩), .pointer none] 83 (0, 0))).cell? ⟨q0, 0, none⟩ = some (.pointer (some ⟨p, 0, none⟩)) := pw_cell_below (below_alloc (below_alloc (Below.refl _ _) _) _) y0
        have xb1 : ((W6.alloc (.cells #[.string s, .string nm, .string val] 48 (0, 0))).alloc (.cells #[.int .i64 1, .pointer (some ⟨W6.heap.size, 0, none⟩), .pointer none] 83 (0, 0))).cell? ⟨q2, 0, none⟩ = some (.string s) := pw_cell_below (below_alloc (below_alloc (Below.refl _ _) _) _) y2
        have xc1 : ((W6.alloc (.cells #[.string s, .string nm, .string val] 48 (0, 0))).alloc (.cells #[.int .i64 1, .pointer (some ⟨W6.heap.size, 0, none⟩), .pointer none] 83 (0, 0))).cell? ⟨q3, 0, none⟩ = some (.string nm) := pw_cell_below (below_alloc (below_alloc (Below.refl _ _) _) _) y3
        have xd1 : ((W6.alloc (.cells #[.string s, .string nm, .string val] 48 (0, 0))).alloc (.cells #[.int .i64 1, .pointer (some ⟨W6.heap.size, 0, none⟩), .pointer none] 83 (0, 0))).cell? ⟨p, 1, none⟩ = some dv := pw_cell_below (below_alloc (below_alloc (Below.refl _ _) _) _) yp
        have xa2 : (((W6.alloc (.cells #[.string s, .string nm, .string val] 48 (0, 0))).alloc (.cells #[.int .i64 1, .pointer (some ⟨W6.heap.size, 0, none⟩), .pointer none] 83 (0, 0))).alloc (.cells #[.pointer (some ⟨W6.heap.size + 1, 0, none⟩)] 80 (0, 0))).cell? ⟨q0, 0, none⟩ = some (.pointer (some ⟨p, 0, none⟩)) := pw_cell_below (below_alloc (below_alloc (below_alloc (Below.refl _ _) _) _) _) y0
        have xb2 : (((W6.alloc (.cells #[.string s, .string nm, .string val] 48 (0, 0))).alloc (.cells #[.int .i64 1, .pointer (some ⟨W6.heap.size, 0, none⟩), .pointer none] 83 (0, 0))).alloc (.cells #[.pointer (some ⟨W6.heap.size + 1, 0, none⟩)] 80 (0, 0))).cell? ⟨q2, 0, none⟩ = some (.string s) := pw_cell_below (below_alloc (below_alloc (below_alloc (Below.refl _ _) _) _) _) y2
        have xc2 : (((W6.alloc (.cells #[.string s, .string nm, .string val] 48 (0, 0))).alloc (.cells #[.int .i64 1, .pointer (some ⟨W6.heap.size, 0, none⟩), .pointer none] 83 (0, 0))).alloc (.cells #[.pointer (some ⟨W6.heap.size + 1, 0, none⟩)] 80 (0, 0))).cell? ⟨q3, 0, none⟩ = some (.string nm) := pw_cell_below (below_alloc (below_alloc (below_alloc (Below.refl _ _) _) _) _) y3
        have xd2 : (((W6.alloc (.cells #[.string s, .string nm, .string val] 48 (0, 0))).alloc (.cells #[.int .i64 1, .pointer (some ⟨W6.heap.size, 0, none⟩), .pointer none] 83 (0, 0))).alloc (.cells #[.pointer (some ⟨W6.heap.size + 1, 0, none⟩)] 80 (0, 0))).cell? ⟨p, 1, none⟩ = some dv := pw_cell_below (below_alloc (below_alloc (below_alloc (Below.refl _ _) _) _) _) yp
        refine wp_region_D (fun w' : World => w'.cell? ⟨q0, 0, none⟩ = some (.pointer (some ⟨p, 0, none⟩)) ∧ w'.cell? ⟨q2, 0, none⟩ = some (.string s) ∧ w'.cell? ⟨q3, 0, none⟩ = some (.string nm) ∧ w'.cell? ⟨p, 1, none⟩ = some dv) 16 (by kernel_rfl) ?_
        have hS0 : (fun w' : World => w'.cell? ⟨q0, 0, none⟩ = some (.pointer (some ⟨p, 0, none⟩)) ∧ w'.cell? ⟨q2, 0, none⟩ = some (.string s) ∧ w'.cell? ⟨q3, 0, none⟩ = some (.string nm) ∧ w'.cell? ⟨p, 1, none⟩ = some dv) W6.drew := ⟨y0, y2, y3, yp⟩
        refine wpAnyD_take (i := 0) (v := ?vvw4t0) rfl (by kernel_rfl) (by kernel_rfl) (by kernel_rfl) (by kernel_rfl) (fun _ _ _ h => h) (Or.inl ⟨by rfl, ?hyw4t0⟩) hS0 ?restw4t0
        case hyw4t0 => (intro w hSw; (try dsimp only at hSw); obtain ⟨hS1, hS2, hS3, hS4⟩ := hSw; go_simp; try (with_reducible rfl))
        try simp only [Act.put, List.setIfInBounds_toArray, List.set_cons_zero, List.set_cons_succ]
        refine wpAnyD_take (i := 1) (v := ?vvw4t1) rfl (by kernel_rfl) (by kernel_rfl) (by kernel_rfl) (by kernel_rfl) (fun _ _ _ h => h) (Or.inl ⟨by rfl, ?hyw4t1⟩) hS0 ?restw4t1
        case hyw4t1 => (intro w hSw; (try dsimp only at hSw); obtain ⟨hS1, hS2, hS3, hS4⟩ := hSw; go_simp; try (with_reducible rfl))
        try simp only [Act.put, List.setIfInBounds_toArray, List.set_cons_zero, List.set_cons_succ]
        refine wpAnyD_take (i := 2) (v := ?vvw4t2) rfl (by kernel_rfl) (by kernel_rfl) (by kernel_rfl) (by kernel_rfl) (fun _ _ _ h => h) (Or.inl ⟨by rfl, ?hyw4t2⟩) hS0 ?restw4t2
        case hyw4t2 => (intro w hSw; (try dsimp only at hSw); obtain ⟨hS1, hS2, hS3, hS4⟩ := hSw; go_simp; try (with_reducible rfl))
        try simp only [Act.put, List.setIfInBounds_toArray, List.set_cons_zero, List.set_cons_succ]
        refine wpAnyD_take (i := 3) (v := ?vvw4t3) rfl (by kernel_rfl) (by kernel_rfl) (by kernel_rfl) (by kernel_rfl) (fun _ _ _ h => h) (Or.inl ⟨by rfl, ?hyw4t3⟩) hS0 ?restw4t3
        case hyw4t3 => (intro w hSw; (try dsimp only at hSw); obtain ⟨hS1, hS2, hS3, hS4⟩ := hSw; go_simp; try (with_reducible rfl))
        try simp only [Act.put, List.setIfInBounds_toArray, List.set_cons_zero, List.set_cons_succ]
        refine wpAnyD_take (i := 4) (v := ?vvw4t4) rfl (by kernel_rfl) (by kernel_rfl) (by kernel_rfl) (by kernel_rfl) (fun _ _ _ h => h) (Or.inl ⟨by rfl, ?hyw4t4⟩) hS0 ?restw4t4
        case hyw4t4 => (intro w hSw; (try dsimp only at hSw); obtain ⟨hS1, hS2, hS3, hS4⟩ := hSw; go_simp; try (with_reducible rfl))
        try simp only [Act.put, List.setIfInBounds_toArray, List.set_cons_zero, List.set_cons_succ]
        refine wpAnyD_take (i := 5) (v := ?vvw4t5) rfl (by kernel_rfl) (by kernel_rfl) (by kernel_rfl) (by kernel_rfl) (fun _ _ _ h => h) (Or.inl ⟨by rfl, ?hyw4t5⟩) hS0 ?restw4t5
        case hyw4t5 => (intro w hSw; (try dsimp only at hSw); obtain ⟨hS1, hS2, hS3, hS4⟩ := hSw; go_simp; try (with_reducible rfl))
        try simp only [Act.put, List.setIfInBounds_toArray, List.set_cons_zero, List.set_cons_succ]
        refine wpAnyD_take (i := 6) (v := ?vvw4t6) rfl (by kernel_rfl) (by kernel_rfl) (by kernel_rfl) (by kernel_rfl) (fun _ _ _ h => h) (Or.inl ⟨by rfl, ?hyw4t6⟩) hS0 ?restw4t6
        case hyw4t6 => (intro w hSw; (try dsimp only at hSw); obtain ⟨hS1, hS2, hS3, hS4⟩ := hSw; go_simp; try (with_reducible rfl))
        try simp only [Act.put, List.setIfInBounds_toArray, List.set_cons_zero, List.set_cons_succ]
        refine wpAnyD_take (i := 7) (v := ?vvw4t7) rfl (by kernel_rfl) (by kernel_rfl) (by kernel_rfl) (by kernel_rfl) (fun _ _ _ h => h) (Or.inl ⟨by rfl, ?hyw4t7⟩) hS0 ?restw4t7
        case hyw4t7 => (intro w hSw; (try dsimp only at hSw); obtain ⟨hS1, hS2, hS3, hS4⟩ := hSw; go_simp; try (with_reducible rfl))
        try simp only [Act.put, List.setIfInBounds_toArray, List.set_cons_zero, List.set_cons_succ]
        refine wpAnyD_one (i := 8) (by kernel_rfl) rfl (fun K hK => ?_)
        go_simp
        refine hK.out _ _ (Or.inr ⟨y0, y2, y3, yp⟩) (fun _ => ?_)
        clear hK K
        try simp only [Act.put, List.setIfInBounds_toArray, List.set_cons_zero, List.set_cons_succ]
        refine wpAnyD_one (i := 9) (by kernel_rfl) rfl (fun K hK => ?_)
        go_simp
        refine hK.out _ _ (Or.inr ⟨xa0, xb0, xc0, xd0⟩) (fun _ => ?_)
        clear hK K
        try simp only [Act.put, List.setIfInBounds_toArray, List.set_cons_zero, List.set_cons_succ]
        refine wpAnyD_one (i := 10) (by kernel_rfl) rfl (fun K hK => ?_)
        go_simp
        refine hK.out _ _ (Or.inr ⟨xa0, xb0, xc0, xd0⟩) (fun _ => ?_)
        clear hK K
        try simp only [Act.put, List.setIfInBounds_toArray, List.set_cons_zero, List.set_cons_succ]
        refine wpAnyD_one (i := 11) (by kernel_rfl) rfl (fun K hK => ?_)
        go_simp
        refine hK.out _ _ (Or.inr ⟨xa1, xb1, xc1, xd1⟩) (fun _ => ?_)
        clear hK K
        try simp only [Act.put, List.setIfInBounds_toArray, List.set_cons_zero, List.set_cons_succ]
        refine wpAnyD_one (i := 12) (by kernel_rfl) rfl (fun K hK => ?_)
        go_simp
        refine hK.out _ _ (Or.inr ⟨xa2, xb2, xc2, xd2⟩) (fun _ => ?_)
        clear hK K
        try simp only [Act.put, List.setIfInBounds_toArray, List.set_cons_zero, List.set_cons_succ]
        refine wpAnyD_one (i := 13) (by kernel_rfl) rfl (fun K hK => ?_)
        refine Kd.R_append_step ld (w0 := w0) (W := ((W6.alloc (.cells #[.string s, .string nm, .string val] 48 (0, 0))).alloc (.cells #[.int .i64 1, .pointer (some ⟨W6.heap.size, 0, none⟩), .pointer none] 83 (0, 0))).drew) w0.heap.size (by rfl) _ _ 77 80 (.pointer none) 8 (by rfl) Tryd.underlying77 info_pld rfl (by decide) (by decide) dv cels (.opt s nm val) [.pointer (some ⟨W6.heap.size + 1, 0, none⟩)] (fun _ => True) (fun k => k = W6.heap.size ∨ k = W6.heap.size + 1) (by rfl) (by show _ = Value.slice (some ⟨_, 0, none⟩) 1 1; rw [HSZ.out]; rfl) HM.out HOKP.out (fun _ _ => trivial) HRR.out HB3.out HBS.out (by omega) ?_
        intro v8 w8 ho hb8 hg8 hat
        have zq8 : w8.cell? ⟨q0, 0, none⟩ = some (.pointer (some ⟨p, 0, none⟩)) := (blk_cell (blk_grown HQ03.out hg8 (Kd.R_ne H6.out.data HQ0.out (by decide))) 0).trans rfl
        have zr8 : w8.cell? ⟨q2, 0, none⟩ = some (.string s) := (blk_cell (blk_grown HQ23.out hg8 (Kd.R_ne H6.out.data HQ2.out (by decide))) 0).trans rfl
        have zs8 : w8.cell? ⟨q3, 0, none⟩ = some (.string nm) := (blk_cell (blk_grown HQ33.out hg8 (Kd.R_ne H6.out.data HQ3.out (by decide))) 0).trans rfl
        have zl8 : LexB w8 p g dv .nilIface := blk_grown HP3.out hg8 (Kd.R_ne H6.out.data H6.out.lex (by decide))
        have zc8 := zl8.c1
        have zf8 := zl8.fz 1
        obtain ⟨A8, c8, rfl⟩ := Kd.R_slice ho
        refine hK.out _ _ (Or.inr ⟨zq8, zr8, zs8, zc8⟩) (fun _ => ?_)
        clear hK K
        try simp only [Act.put, List.setIfInBounds_toArray, List.set_cons_zero, List.set_cons_succ]
        refine wpAnyD_one (i := 14) (by kernel_rfl) rfl (fun K hK => ?_)
        go_simp
        refine hK.out _ _ (Or.inr ⟨zq8, zr8, zs8, zc8⟩) (fun _ => ?_)
        clear hK K
        try simp only [Act.put, List.setIfInBounds_toArray, List.set_cons_zero, List.set_cons_succ]
        refine wpAnyD_one (i := 15) (by kernel_rfl) rfl (fun K hK => ?_)
        go_simp
        refine hK.out _ _ (Or.inr ⟨zq8, zr8, zs8, zc8⟩) (fun _ => ?_)
        clear hK K
        try simp only [Act.put, List.setIfInBounds_toArray, List.set_cons_zero, List.set_cons_succ]
        refine wpAnyD_one (i := 16) (by kernel_rfl) rfl (fun K hK => ?_)
        go_simp
        refine hK.out _ _ (Or.inl rfl) (fun _ => ?_)
        clear hK K
        try simp only [Act.put, List.setIfInBounds_toArray, List.set_cons_zero, List.set_cons_succ]
        refine wpAnyD_done (by kernel_rfl) ?_ _
        have hold : ∀ (j : Nat) (cs : Array Value) (T : TypeId), W6.heap[j]? = some (.cells cs T (0, 0)) → T ≠ 80 → T ≠ 79 → (w8.setCell ⟨p, 1, none⟩ (.slice A8 (cels ++ [Cel.opt s nm val]).length c8)).heap[j]? = some (.cells cs T (0, 0)) := fun j cs T hj h1 h2 => by
          have h8 := blk_grown (blk_below hj HBW.out) hg8 (Kd.R_ne HRR.out (blk_below hj HBW.out) h1.symm)
          exact (Below.heap_setCell w8 ⟨p, 1, none⟩ _ j (ne_type h8 zl8 h2)).trans h8
        have hLex : LexAt w0 (w8.setCell ⟨p, 1, none⟩ (.slice A8 (cels ++ [Cel.opt s nm val]).length c8)) p g t b' (.slice A8 (cels ++ [Cel.opt s nm val]).length c8) .nilIface (cels ++ [Cel.opt s nm val]) := {
          base := below_set hb8 H6.out.hp
          hg := H6.out.hg
          hp := H6.out.hp
          buf := hold g _ _ (show W6.heap[g]? = _ from H6.out.buf) (by decide) (by decide)
          ok := H6.out.ok
          h4 := H6.out.h4
          lex := zl8.set1 _
          data := Kd.R_mono (Kd.R_far (Kd.R_types ho zl8 (by decide)) (fun k hk => hk.2) _) (fun _ _ => trivial)
          secs := Secs.snoc_opt s nm val _ _ (Secs.frame (fun k cs T hk hT => hold k cs T hk (by rcases hT with rfl | rfl <;> decide) (by rcases hT with rfl | rfl <;> decide)) _ _ H6.out.secs) }
        have z0 := (show Box _ q0 _ _ from hold q0 _ _ HQ0.out (by decide) (by decide)).cell
        have z2 := (show Box _ q2 _ _ from hold q2 _ _ HQ2.out (by decide) (by decide)).cell
        have Z0 := Lib.hid z0
        have Z2 := Lib.hid z2
        have HLX := Lib.hid hLex
        clear hold hLex z0 z2
        have hlen : (cels ++ [Cel.opt s nm val]).length = cels.length + 1 := by rw [List.length_append]; rfl
        rw [hlen] at Z0 Z2 HLX
        clear hlen
        go_wp2_with fail
        generalize w8.setCell ⟨p, 1, none⟩ (.slice A8 (cels.length + 1) c8) = w9 at Z0 Z2 HLX ⊢
        refine (sooFunc_is p s w9).mono ?_
        rintro e7 w10 ⟨fn', f1', f2', rfl, hst, hb⟩
        have K0 := Lib.hid hst
        have HL2 := Lib.hid (HLX.out.below hb)
        clear hst hb HLX
        go_wp2_with fail
        go_ret2
        rw [HV.out, HVX.out]
        exact ⟨⟨_, [Cel.opt s nm val], rfl, HL2.out⟩, _, rfl, K0.out⟩
      | false =>
        have HVX := Lib.hid (HVV2.out.trans (if_neg (by decide)))
        go_wp2_with fail
        refine hTS.out.mono ?_
        clear hTS y0 y1 y2 y3
        rintro e6 W6 ⟨rfl, hb⟩
        have htv : (⟨(Lib.trimSpaceD (d ++ lstr).data.toList).toArray⟩ : ByteArray) = trimV (d ++ lstr) := rfl
        rw [htv]
        clear htv
        have H6 := Lib.hid (H2.out.below hb)
        have HQ0 := Lib.hid (HQ0.out.below hb)
        have HQ2 := Lib.hid (HQ2.out.below hb)
        have HQ3 := Lib.hid (HQ3.out.below hb)
        clear hb H2
        have y0 : W6.cell? (⟨q0, 0, none⟩ : Addr) = some (.pointer (some ⟨p, 0, none⟩)) := HQ0.out.cell
        have y2 : W6.cell? (⟨q2, 0, none⟩ : Addr) = some (.string s) := HQ2.out.cell
        have y3 : W6.cell? (⟨q3, 0, none⟩ : Addr) = some (.string nm) := HQ3.out.cell
        have yp : W6.cell? (⟨p, 1, none⟩ : Addr) = some dv := H6.out.lex.c1
        go_wp2_with fail
        generalize trimV (d ++ lstr) = val at HVX ⊢
        have hb3 : Below W6.heap.size W6 ((W6.alloc (.cells #[.string s, .string nm, .string val] 48 (0, 0))).alloc (.cells #[.int .i64 1, .pointer (some ⟨W6.heap.size, 0, none⟩), .pointer none] 83 (0, 0))) := below_alloc (below_alloc (Below.refl _ _) _) _
        have hz3 : ((W6.alloc (.cells #[.string s, .string nm, .string val] 48 (0, 0))).alloc (.cells #[.int .i64 1, .pointer (some ⟨W6.heap.size, 0, none⟩), .pointer none] 83 (0, 0))).heap.size = W6.heap.size + 2 := by rw [alloc_size, alloc_size]
        have e1 : ((W6.alloc (.cells #[.string s, .string nm, .string val] 48 (0, 0))).alloc (.cells #[.int .i64 1, .pointer (some ⟨W6.heap.size, 0, none⟩), .pointer none] 83 (0, 0))).heap[W6.heap.size]? = some (.cells #[.string s, .string nm, .string val] 48 (0, 0)) := blk_alloc (blk_new _ _) _
        have e2 : ((W6.alloc (.cells #[.string s, .string nm, .string val] 48 (0, 0))).alloc (.cells #[.int .i64 1, .pointer (some ⟨W6.heap.size, 0, none⟩), .pointer none] 83 (0, 0))).heap[W6.heap.size + 1]? = some (.cells #[.int .i64 1, .pointer (some ⟨W6.heap.size, 0, none⟩), .pointer none] 83 (0, 0)) := by
          have := blk_new (W6.alloc (.cells #[.string s, .string nm, .string val] 48 (0, 0))) (.cells #[.int .i64 1, .pointer (some ⟨W6.heap.size, 0, none⟩), .pointer none] 83 (0, 0))
          rw [alloc_size] at this
          exact this
        have h3 := H6.out.below hb3
        have HM := Lib.hid (show ld.M ((W6.alloc (.cells #[.string s, .string nm, .string val] 48 (0, 0))).alloc (.cells #[.int .i64 1, .pointer (some ⟨W6.heap.size, 0, none⟩), .pointer none] 83 (0, 0))).drew w0.heap.size (fun k => k = W6.heap.size ∨ k = W6.heap.size + 1) (.opt s nm val) [.pointer (some ⟨W6.heap.size + 1, 0, none⟩)] from ⟨_, rfl, by have := H6.out.base.size; omega, .inr rfl, _, H6.out.base.size, .inl rfl, e2, e1⟩)
        have HOKP := Lib.hid (show ∀ k, (k = W6.heap.size ∨ k = W6.heap.size + 1) → (fun _ : Nat => True) k ∧ some k ≠ dv.ownBlock from fun k hk => ⟨trivial, fun he => by have := Kd.R_lt H6.out.data k he.symm; omega⟩)
        have HRR := Lib.hid (show Kd.R ld 80 ((W6.alloc (.cells #[.string s, .string nm, .string val] 48 (0, 0))).alloc (.cells #[.int .i64 1, .pointer (some ⟨W6.heap.size, 0, none⟩), .pointer none] 83 (0, 0))).drew w0.heap.size (fun _ => True) dv cels from h3.data)
        have HB3 := Lib.hid (show Below w0.heap.size w0 ((W6.alloc (.cells #[.string s, .string nm, .string val] 48 (0, 0))).alloc (.cells #[.int .i64 1, .pointer (some ⟨W6.heap.size, 0, none⟩), .pointer none] 83 (0, 0))).drew from below_drew h3.base)
        have HSZ := Lib.hid (show ((W6.alloc (.cells #[.string s, .string nm, .string val] 48 (0, 0))).alloc (.cells #[.int .i64 1, .pointer (some ⟨W6.heap.size, 0, none⟩), .pointer none] 83 (0, 0))).drew.heap.size = W6.heap.size + 2 from hz3)
        have HBS := Lib.hid (show w0.heap.size ≤ ((W6.alloc (.cells #[.string s, .string nm, .string val] 48 (0, 0))).alloc (.cells #[.int .i64 1, .pointer (some ⟨W6.heap.size, 0, none⟩), .pointer none] 83 (0, 0))).drew.heap.size by have := H6.out.base.size; rw [HSZ.out]; omega)
        have HP3 := Lib.hid (show ((W6.alloc (.cells #[.string s, .string nm, .string val] 48 (0, 0))).alloc (.cells #[.int .i64 1, .pointer (some ⟨W6.heap.size, 0, none⟩), .pointer none] 83 (0, 0))).drew.heap[p]? = _ from h3.lex)
        have HQ03 := Lib.hid (show ((W6.alloc (.cells #[.string s, .string nm, .string val] 48 (0, 0))).alloc (.cells #[.int .i64 1, .pointer (some ⟨W6.heap.size, 0, none⟩), .pointer none] 83 (0, 0))).drew.heap[q0]? = _ from HQ0.out.below (below_drew hb3))
        have HQ23 := Lib.hid (show ((W6.alloc (.cells #[.string s, .string nm, .string val] 48 (0, 0))).alloc (.cells #[.int .i64 1, .pointer (some ⟨W6.heap.size, 0, none⟩), .pointer none] 83 (0, 0))).drew.heap[q2]? = _ from HQ2.out.below (below_drew hb3))
        have HQ33 := Lib.hid (show ((W6.alloc (.cells #[.string s, .string nm, .string val] 48 (0, 0))).alloc (.cells #[.int .i64 1, .pointer (some ⟨W6.heap.size, 0, none⟩), .pointer none] 83 (0, 0))).drew.heap[q3]? = _ from HQ3.out.below (below_drew hb3))
        have HBW := Lib.hid (show Below W6.heap.size W6 ((W6.alloc (.cells #[.string s, .string nm, .string val] 48 (0, 0))).alloc (.cells #[.int .i64 1, .pointer (some ⟨W6.heap.size, 0, none⟩), .pointer none] 83 (0, 0))).drew from below_drew hb3)
        clear hb3 hz3 e1 e2 h3
        have xa0 : (W6.alloc (.cells #[.string s, .string nm, .string val] 48 (0, 0))).cell? ⟨q0, 0, none⟩ = some (.pointer (some ⟨p, 0, none⟩)) := pw_cell_below (below_alloc (Below.refl _ _) _) y0
        have xb0 : (W6.alloc (.cells #[.string s, .string nm, .string val] 48 (0, 0))).cell? ⟨q2, 0, none⟩ = some (.string s) := pw_cell_below (below_alloc (Below.refl _ _) _) y2
        have xc0 : (W6.alloc (.cells #[.string s, .string nm, .string val] 48 (0, 0))).cell? ⟨q3, 0, none⟩ = some (.string nm) := pw_cell_below (below_alloc (Below.refl _ _) _) y3
        have xd0 : (W6.alloc (.cells #[.string s, .string nm, .string val] 48 (0, 0))).cell? ⟨p, 1, none⟩ = some dv := pw_cell_below (below_alloc (Below.refl _ _) _) yp
        have xa1 : ((W6.alloc (.cells #[.string s, .string nm, .string val] 48 (0, 0))).alloc (.cells #[.int .i64 1, .pointer (some ⟨W6.heap.size, 0, none⟩), .pointer none] 83 (0, 0))).cell? ⟨q0, 0, none⟩ = some (.pointer (some ⟨p, 0, none⟩)) := pw_cell_below (below_alloc (below_alloc (Below.refl _ _) _) _) y0
        have xb1 : ((W6.alloc (.cells #[.string s, .string nm, .string val] 48 (0, 0))).alloc (.cells #[.int .i64 1, .pointer (some ⟨W6.heap.size, 0, none⟩), .pointer none] 83 (0, 0))).cell? ⟨q2, 0, none⟩ = some (.string s) := pw_cell_below (below_alloc (below_alloc (Below.refl _ _) _) _) y2
        have xc1 : ((W6.alloc (.cells #[.string s, .string nm, .string val] 48 (0, 0))).alloc (.cells #[.int .i64 1, .pointer (some ⟨W6.heap.size, 0, none⟩), .pointer none] 83 (0, 0))).cell? ⟨q3, 0, none⟩ = some (.string nm) := pw_cell_below (below_alloc (below_alloc (Below.refl _ _) _) _) y3
        have xd1 : ((W6.alloc (.cells #[.string s, .string nm, .string val] 48 (0, 0))).alloc (.cells #[.int .i64 1, .pointer (some ⟨W6.heap.size, 0, none⟩), .pointer none] 83 (0, 0))).cell? ⟨p, 1, none⟩ = some dv := pw_cell_below (below_alloc (below_alloc (Below.refl _ _) _) _) yp
        have xa2 : (((W6.alloc (.cells #[.string s, .string nm, .string val] 48 (0, 0))).alloc (.cells #[.int .i64 1, .pointer (some ⟨W6.heap.size, 0, none⟩), .pointer none] 83 (0, 0))).alloc (.cells #[.pointer (some ⟨W6.heap.size + 1, 0, none⟩)] 80 (0, 0))).cell? ⟨q0, 0, none⟩ = some (.pointer (some ⟨p, 0, none⟩)) := pw_cell_below (below_alloc (below_alloc (below_alloc (Below.refl _ _) _) _) _) y0
        have xb2 : (((W6.alloc (.cells #[.string s, .string nm, .string val] 48 (0, 0))).alloc (.cells #[.int .i64 1, .pointer (some ⟨W6.heap.size, 0, none⟩), .pointer none] 83 (0, 0))).alloc (.cells #[.pointer (some ⟨W6.heap.size + 1, 0, none⟩)] 80 (0, 0))).cell? ⟨q2, 0, none⟩ = some (.string s) := pw_cell_below (below_alloc (below_alloc (below_alloc (Below.refl _ _) _) _) _) y2
        have xc2 : (((W6.alloc (.cells #[.string s, .string nm, .string val] 48 (0, 0))).alloc (.cells #[.int .i64 1, .pointer (some ⟨W6.heap.size, 0, none⟩), .pointer none] 83 (0, 0))).alloc (.cells #[.pointer (some ⟨W6.heap.size + 1, 0, none⟩)] 80 (0, 0))).cell? ⟨q3, 0, none⟩ = some (.string nm) := pw_cell_below (below_alloc (below_alloc (below_alloc (Below.refl _ _) _) _) _) y3
        have xd2 : (((W6.alloc (.cells #[.string s, .string nm, .string val] 48 (0, 0))).alloc (.cells #[.int .i64 1, .pointer (some ⟨W6.heap.size, 0, none⟩), .pointer none] 83 (0, 0))).alloc (.cells #[.pointer (some ⟨W6.heap.size + 1, 0, none⟩)] 80 (0, 0))).cell? ⟨p, 1, none⟩ = some dv := pw_cell_below (below_alloc (below_alloc (below_alloc (Below.refl _ _) _) _) _) yp
        refine wp_region_D (fun w' : World => w'.cell? ⟨q0, 0, none⟩ = some (.pointer (some ⟨p, 0, none⟩)) ∧ w'.cell? ⟨q2, 0, none⟩ = some (.string s) ∧ w'.cell? ⟨q3, 0, none⟩ = some (.string nm) ∧ w'.cell? ⟨p, 1, none⟩ = some dv) 16 (by kernel_rfl) ?_
        have hS0 : (fun w' : World => w'.cell? ⟨q0, 0, none⟩ = some (.pointer (some ⟨p, 0, none⟩)) ∧ w'.cell? ⟨q2, 0, none⟩ = some (.string s) ∧ w'.cell? ⟨q3, 0, none⟩ = some (.string nm) ∧ w'.cell? ⟨p, 1, none⟩ = some dv) W6.drew := ⟨y0, y2, y3, yp⟩
        refine wpAnyD_take (i := 0) (v := ?vvw4f0) rfl (by kernel_rfl) (by kernel_rfl) (by kernel_rfl) (by kernel_rfl) (fun _ _ _ h => h) (Or.inl ⟨by rfl, ?hyw4f0⟩) hS0 ?restw4f0
        case hyw4f0 => (intro w hSw; (try dsimp only at hSw); obtain ⟨hS1, hS2, hS3, hS4⟩ := hSw; go_simp; try (with_reducible rfl))
        try simp only [Act.put, List.setIfInBounds_toArray, List.set_cons_zero, List.set_cons_succ]
        refine wpAnyD_take (i := 1) (v := ?vvw4f1) rfl (by kernel_rfl) (by kernel_rfl) (by kernel_rfl) (by kernel_rfl) (fun _ _ _ h => h) (Or.inl ⟨by rfl, ?hyw4f1⟩) hS0 ?restw4f1
        case hyw4f1 => (intro w hSw; (try dsimp only at hSw); obtain ⟨hS1, hS2, hS3, hS4⟩ := hSw; go_simp; try (with_reducible rfl))
        try simp only [Act.put, List.setIfInBounds_toArray, List.set_cons_zero, List.set_cons_succ]
        refine wpAnyD_take (i := 2) (v := ?vvw4f2) rfl (by kernel_rfl) (by kernel_rfl) (by kernel_rfl) (by kernel_rfl) (fun _ _ _ h => h) (Or.inl ⟨by rfl, ?hyw4f2⟩) hS0 ?restw4f2
        case hyw4f2 => (intro w hSw; (try dsimp only at hSw); obtain ⟨hS1, hS2, hS3, hS4⟩ := hSw; go_simp; try (with_reducible rfl))
        try simp only [Act.put, List.setIfInBounds_toArray, List.set_cons_zero, List.set_cons_succ]
        refine wpAnyD_take (i := 3) (v := ?vvw4f3) rfl (by kernel_rfl) (by kernel_rfl) (by kernel_rfl) (by kernel_rfl) (fun _ _ _ h => h) (Or.inl ⟨by rfl, ?hyw4f3⟩) hS0 ?restw4f3
        case hyw4f3 => (intro w hSw; (try dsimp only at hSw); obtain ⟨hS1, hS2, hS3, hS4⟩ := hSw; go_simp; try (with_reducible rfl))
        try simp only [Act.put, List.setIfInBounds_toArray, List.set_cons_zero, List.set_cons_succ]
        refine wpAnyD_take (i := 4) (v := ?vvw4f4) rfl (by kernel_rfl) (by kernel_rfl) (by kernel_rfl) (by kernel_rfl) (fun _ _ _ h => h) (Or.inl ⟨by rfl, ?hyw4f4⟩) hS0 ?restw4f4
        case hyw4f4 => (intro w hSw; (try dsimp only at hSw); obtain ⟨hS1, hS2, hS3, hS4⟩ := hSw; go_simp; try (with_reducible rfl))
        try simp only [Act.put, List.setIfInBounds_toArray, List.set_cons_zero, List.set_cons_succ]
        refine wpAnyD_take (i := 5) (v := ?vvw4f5) rfl (by kernel_rfl) (by kernel_rfl) (by kernel_rfl) (by kernel_rfl) (fun _ _ _ h => h) (Or.inl ⟨by rfl, ?hyw4f5⟩) hS0 ?restw4f5
        case hyw4f5 => (intro w hSw; (try dsimp only at hSw); obtain ⟨hS1, hS2, hS3, hS4⟩ := hSw; go_simp; try (with_reducible rfl))
        try simp only [Act.put, List.setIfInBounds_toArray, List.set_cons_zero, List.set_cons_succ]
        refine wpAnyD_take (i := 6) (v := ?vvw4f6) rfl (by kernel_rfl) (by kernel_rfl) (by kernel_rfl) (by kernel_rfl) (fun _ _ _ h => h) (Or.inl ⟨by rfl, ?hyw4f6⟩) hS0 ?restw4f6
        case hyw4f6 => (intro w hSw; (try dsimp only at hSw); obtain ⟨hS1, hS2, hS3, hS4⟩ := hSw; go_simp; try (with_reducible rfl))
        try simp only [Act.put, List.setIfInBounds_toArray, List.set_cons_zero, List.set_cons_succ]
        refine wpAnyD_take (i := 7) (v := ?vvw4f7) rfl (by kernel_rfl) (by kernel_rfl) (by kernel_rfl) (by kernel_rfl) (fun _ _ _ h => h) (Or.inl ⟨by rfl, ?hyw4f7⟩) hS0 ?restw4f7
        case hyw4f7 => (intro w hSw; (try dsimp only at hSw); obtain ⟨hS1, hS2, hS3, hS4⟩ := hSw; go_simp; try (with_reducible rfl))
        try simp only [Act.put, List.setIfInBounds_toArray, List.set_cons_zero, List.set_cons_succ]
        refine wpAnyD_one (i := 8) (by kernel_rfl) rfl (fun K hK => ?_)
        go_simp
        refine hK.out _ _ (Or.inr ⟨y0, y2, y3, yp⟩) (fun _ => ?_)
        clear hK K
        try simp only [Act.put, List.setIfInBounds_toArray, List.set_cons_zero, List.set_cons_succ]
        refine wpAnyD_one (i := 9) (by kernel_rfl) rfl (fun K hK => ?_)
        go_simp
        refine hK.out _ _ (Or.inr ⟨xa0, xb0, xc0, xd0⟩) (fun _ => ?_)
        clear hK K
        try simp only [Act.put, List.setIfInBounds_toArray, List.set_cons_zero, List.set_cons_succ]
        refine wpAnyD_one (i := 10) (by kernel_rfl) rfl (fun K hK => ?_)
        go_simp
        refine hK.out _ _ (Or.inr ⟨xa0, xb0, xc0, xd0⟩) (fun _ => ?_)
        clear hK K
        try simp only [Act.put, List.setIfInBounds_toArray, List.set_cons_zero, List.set_cons_succ]
        refine wpAnyD_one (i := 11) (by kernel_rfl) rfl (fun K hK => ?_)
        go_simp
        refine hK.out _ _ (Or.inr ⟨xa1, xb1, xc1, xd1⟩) (fun _ => ?_)
        clear hK K
        try simp only [Act.put, List.setIfInBounds_toArray, List.set_cons_zero, List.set_cons_succ]
        refine wpAnyD_one (i := 12) (by kernel_rfl) rfl (fun K hK => ?_)
        go_simp
        refine hK.out _ _ (Or.inr ⟨xa2, xb2, xc2, xd2⟩) (fun _ => ?_)
        clear hK K
        try simp only [Act.put, List.setIfInBounds_toArray, List.set_cons_zero, List.set_cons_succ]
        refine wpAnyD_one (i := 13) (by kernel_rfl) rfl (fun K hK => ?_)
        refine Kd.R_append_step ld (w0 := w0) (W := ((W6.alloc (.cells #[.string s, .string nm, .string val] 48 (0, 0))).alloc (.cells #[.int .i64 1, .pointer (some ⟨W6.heap.size, 0, none⟩), .pointer none] 83 (0, 0))).drew) w0.heap.size (by rfl) _ _ 77 80 (.pointer none) 8 (by rfl) Tryd.underlying77 info_pld rfl (by decide) (by decide) dv cels (.opt s nm val) [.pointer (some ⟨W6.heap.size + 1, 0, none⟩)] (fun _ => True) (fun k => k = W6.heap.size ∨ k = W6.heap.size + 1) (by rfl) (by show _ = Value.slice (some ⟨_, 0, none⟩) 1 1; rw [HSZ.out]; rfl) HM.out HOKP.out (fun _ _ => trivial) HRR.out HB3.out HBS.out (by omega) ?_
        intro v8 w8 ho hb8 hg8 hat
        have zq8 : w8.cell? ⟨q0, 0, none⟩ = some (.pointer (some ⟨p, 0, none⟩)) := (blk_cell (blk_grown HQ03.out hg8 (Kd.R_ne H6.out.data HQ0.out (by decide))) 0).trans rfl
        have zr8 : w8.cell? ⟨q2, 0, none⟩ = some (.string s) := (blk_cell (blk_grown HQ23.out hg8 (Kd.R_ne H6.out.data HQ2.out (by decide))) 0).trans rfl
        have zs8 : w8.cell? ⟨q3, 0, none⟩ = some (.string nm) := (blk_cell (blk_grown HQ33.out hg8 (Kd.R_ne H6.out.data HQ3.out (by decide))) 0).trans rfl
        have zl8 : LexB w8 p g dv .nilIface := blk_grown HP3.out hg8 (Kd.R_ne H6.out.data H6.out.lex (by decide))
        have zc8 := zl8.c1
        have zf8 := zl8.fz 1
        obtain ⟨A8, c8, rfl⟩ := Kd.R_slice ho
        refine hK.out _ _ (Or.inr ⟨zq8, zr8, zs8, zc8⟩) (fun _ => ?_)
        clear hK K
        try simp only [Act.put, List.setIfInBounds_toArray, List.set_cons_zero, List.set_cons_succ]
        refine wpAnyD_one (i := 14) (by kernel_rfl) rfl (fun K hK => ?_)
        go_simp
        refine hK.out _ _ (Or.inr ⟨zq8, zr8, zs8, zc8⟩) (fun _ => ?_)
        clear hK K
        try simp only [Act.put, List.setIfInBounds_toArray, List.set_cons_zero, List.set_cons_succ]
        refine wpAnyD_one (i := 15) (by kernel_rfl) rfl (fun K hK => ?_)
        go_simp
        refine hK.out _ _ (Or.inr ⟨zq8, zr8, zs8, zc8⟩) (fun _ => ?_)
        clear hK K
        try simp only [Act.put, List.setIfInBounds_toArray, List.set_cons_zero, List.set_cons_succ]
        refine wpAnyD_one (i := 16) (by kernel_rfl) rfl (fun K hK => ?_)
        go_simp
        refine hK.out _ _ (Or.inl rfl) (fun _ => ?_)
        clear hK K
        try simp only [Act.put, List.setIfInBounds_toArray, List.set_cons_zero, List.set_cons_succ]
        refine wpAnyD_done (by kernel_rfl) ?_ _
        have hold : ∀ (j : Nat) (cs : Array Value) (T : TypeId), W6.heap[j]? = some (.cells cs T (0, 0)) → T ≠ 80 → T ≠ 79 → (w8.setCell ⟨p, 1, none⟩ (.slice A8 (cels ++ [Cel.opt s nm val]).length c8)).heap[j]? = some (.cells cs T (0, 0)) := fun j cs T hj h1 h2 => by
          have h8 := blk_grown (blk_below hj HBW.out) hg8 (Kd.R_ne HRR.out (blk_below hj HBW.out) h1.symm)
          exact (Below.heap_setCell w8 ⟨p, 1, none⟩ _ j (ne_type h8 zl8 h2)).trans h8
        have hLex : LexAt w0 (w8.setCell ⟨p, 1, none⟩ (.slice A8 (cels ++ [Cel.opt s nm val]).length c8)) p g t b' (.slice A8 (cels ++ [Cel.opt s nm val]).length c8) .nilIface (cels ++ [Cel.opt s nm val]) := {
          base := below_set hb8 H6.out.hp
          hg := H6.out.hg
          hp := H6.out.hp
          buf := hold g _ _ (show W6.heap[g]? = _ from H6.out.buf) (by decide) (by decide)
          ok := H6.out.ok
          h4 := H6.out.h4
          lex := zl8.set1 _
          data := Kd.R_mono (Kd.R_far (Kd.R_types ho zl8 (by decide)) (fun k hk => hk.2) _) (fun _ _ => trivial)
          secs := Secs.snoc_opt s nm val _ _ (Secs.frame (fun k cs T hk hT => hold k cs T hk (by rcases hT with rfl | rfl <;> decide) (by rcases hT with rfl | rfl <;> decide)) _ _ H6.out.secs) }
        have z0 := (show Box _ q0 _ _ from hold q0 _ _ HQ0.out (by decide) (by decide)).cell
        have z2 := (show Box _ q2 _ _ from hold q2 _ _ HQ2.out (by decide) (by decide)).cell
        have Z0 := Lib.hid z0
        have Z2 := Lib.hid z2
        have HLX := Lib.hid hLex
        clear hold hLex z0 z2
        have hlen : (cels ++ [Cel.opt s nm val]).length = cels.length + 1 := by rw [List.length_append]; rfl
        rw [hlen] at Z0 Z2 HLX
        clear hlen
        go_wp2_with fail
        generalize w8.setCell ⟨p, 1, none⟩ (.slice A8 (cels.length + 1) c8) = w9 at Z0 Z2 HLX ⊢
        refine (sooFunc_is p s w9).mono ?_
        rintro e7 w10 ⟨fn', f1', f2', rfl, hst, hb⟩
        have K0 := Lib.hid hst
        have HL2 := Lib.hid (HLX.out.below hb)
        clear hst hb HLX
        go_wp2_with fail
        go_ret2
        rw [HV.out, HVX.out]
        exact ⟨⟨_, [Cel.opt s nm val], rfl, HL2.out⟩, _, rfl, K0.out⟩
end Go.Proofs.YtlmmgienbmghmaaDoor.Lex
