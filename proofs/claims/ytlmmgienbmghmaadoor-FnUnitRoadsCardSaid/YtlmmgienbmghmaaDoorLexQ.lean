/- The lexer of unit files, by hand: what stands behind a section's name. -/
import Derived.Test.YtlmmgienbmghmaaDoorLexD2
set_option linter.unusedVariables false
set_option linter.unusedSimpArgs false
namespace Go.Proofs.YtlmmgienbmghmaaDoor.Lex
open Go.RowKit Go.Proofs.YtlmmgienbmghmaaDoorW.PrintWords Go.Proofs.YtlmmgienbmghmaaDoorW.PrintLast Go.Proofs.YtlmmgienbmghmaaDoorW.PrintMore Go.Proofs.YtlmmgienbmghmaaDoor.GivU Go.Proofs.YtlmmgienbmghmaaDoor.J
theorem info_pld : (Tryd.prog.info? 80).map (fun i => (i.zero, i.size, i.bytes)) = some (some (.pointer none), 1, 8) := by kernel_rfl
theorem lineOf_le (t : ByteArray) (b b' : Bf) : (lineOf t.data.toList b b').length ≤ t.size := by
  unfold lineOf
  refine Nat.le_trans (trimB_le _ _) (Nat.le_trans (trimB_le _ _) ?_)
  rw [List.length_take, List.length_drop, ← Lib.size_eq]
  omega
/-- What stands behind a section's name: nothing. -/
def sufIts (t : ByteArray) (b b' : Bf) (s : ByteArray) : List Item := if tsLen (lineOf t.data.toList b b') = 0 then [.sec s] else []
def sufStep (t : ByteArray) (b b' : Bf) (s : ByteArray) : Option Step := if tsLen (lineOf t.data.toList b b') = 0 then some (.soo s) else none
set_option maxHeartbeats 8000000 in
set_option maxRecDepth 100000 in
theorem suf_is (w0 W : World) (p g : Nat) (s t : ByteArray) (b b' : Bf) (e : Bool) (k : Nat) (q0 q1 : Nat) (dv : Value) (cels : List Cel) (h : LexAt w0 W p g t b dv .nilIface cels) (ht : t.size ≤ 100000) (hT : UTabs w0) (hcl : cels.length ≤ 1000000)
    (hq0 : Box W q0 74 (.pointer (some ⟨p, 0, none⟩))) (hq1 : Box W q1 9 (.string s)) (hk : rbN 10 t.data.toList k b = some (b', e)) :
    Calls Tryd.prog 73 #[.pointer (some ⟨q0, 0, none⟩), .pointer (some ⟨q1, 0, none⟩)] W fun e' W' => StepPost w0 p g t cels b' (sufIts t b b' s) (sufStep t b b' s) e' W' := by
  have hbg := show W.heap[g]? = _ from h.buf
  have n0 : q0 ≠ g := ne_type hq0 hbg (by decide)
  have n1 : q1 ≠ g := ne_type hq1 hbg (by decide)
  have HE := toEOL_is p g t b b' e k W h.lex.c0 h.buf h.ok h.h4 ht hk
  have hll := lineOf_le t b b'
  have hx0 := hq0.cell
  have H := Lib.hid h
  have HQ0 := Lib.hid hq0
  have HQ1 := Lib.hid hq1
  unfold sufIts sufStep
  have hlo : trimB 10 (trimB 13 ((t.data.toList.drop b.r).take (b'.r - b.r))) = lineOf t.data.toList b b' := rfl
  rw [hlo] at HE
  generalize lineOf t.data.toList b b' = line at HE hll ⊢
  obtain ⟨its, hits⟩ : ∃ x, x = (if tsLen line = 0 then [Item.sec s] else []) := ⟨_, rfl⟩
  obtain ⟨stp, hstp⟩ : ∃ x, x = (if tsLen line = 0 then some (Step.soo s) else none) := ⟨_, rfl⟩
  rw [← hits, ← hstp]
  have HI0 := Lib.hid hits
  have HS0 := Lib.hid hstp
  clear hits hstp
  clear h hbg hk hq0 hq1 hlo
  go_enter Tryd.func73, Tryd.ntmps73
  go_wp2_with fail
  refine HE.mono ?_
  clear HE hx0
  rintro e1 W1 ⟨v, rfl, hI, hB, hO, h5, hC⟩
  have H1 := Lib.hid (H.out.step hC hB hO h5)
  have HI := Lib.hid hI
  have HQ0 := Lib.hid (HQ0.out.chg hC n0)
  have HQ1 := Lib.hid (HQ1.out.chg hC n1)
  have HTW := Lib.hid (hT.below H1.out.base)
  clear hI hB hO h5 hC H
  go_wp2_with fail
  refine (trimSpace_is W1 v line HI.out HTW.out (Nat.le_trans hll (Nat.le_trans ht (by decide)))).mono ?_
  rintro e2 W2 ⟨A2, c2, rfl, hb⟩
  have H2 := Lib.hid (H1.out.below hb)
  have HQ0 := Lib.hid (HQ0.out.below hb)
  have HQ1 := Lib.hid (HQ1.out.below hb)
  clear hb H1 HI HTW
  by_cases hz : tsLen line = 0
  · have HI0 := Lib.hid (HI0.out.trans (if_pos hz))
    have HS0 := Lib.hid (HS0.out.trans (if_pos hz))
    rw [hz]
    clear hz hll
    have y0 : W2.cell? (⟨q0, 0, none⟩ : Addr) = some (.pointer (some ⟨p, 0, none⟩)) := HQ0.out.cell
    have y1 : W2.cell? (⟨q1, 0, none⟩ : Addr) = some (.string s) := HQ1.out.cell
    have yp : W2.cell? (⟨p, 1, none⟩ : Addr) = some dv := H2.out.lex.c1
    have yf : W2.frozen? (⟨p, 1, none⟩ : Addr) = false := H2.out.lex.fz 1
    obtain ⟨w3, hw3⟩ : ∃ w3, w3 = ((W2.alloc (.cells #[] 63 (0, 0))).alloc (.cells #[.string s, .slice (some ⟨W2.heap.size, 0, none⟩) 0 0] 59 (0, 0))).alloc (.cells #[.int .i64 0, .pointer none, .pointer (some ⟨W2.heap.size + 1, 0, none⟩)] 83 (0, 0)) := ⟨_, rfl⟩
    have hb3 : Below W2.heap.size W2 w3 := by rw [hw3]; exact below_alloc (below_alloc (below_alloc (Below.refl _ _) _) _) _
    have hz3 : w3.heap.size = W2.heap.size + 3 := by rw [hw3, alloc_size, alloc_size, alloc_size]
    have e3 : w3.heap[W2.heap.size]? = some (.cells #[] 63 (0, 0)) := by rw [hw3]; exact blk_alloc (blk_alloc (blk_new _ _) _) _
    have e2 : w3.heap[W2.heap.size + 1]? = some (.cells #[.string s, .slice (some ⟨W2.heap.size, 0, none⟩) 0 0] 59 (0, 0)) := by
      rw [hw3]
      have := blk_new (W2.alloc (.cells #[] 63 (0, 0))) (.cells #[.string s, .slice (some ⟨W2.heap.size, 0, none⟩) 0 0] 59 (0, 0))
      rw [alloc_size] at this
      exact blk_alloc this _
    have e1 : w3.heap[W2.heap.size + 2]? = some (.cells #[.int .i64 0, .pointer none, .pointer (some ⟨W2.heap.size + 1, 0, none⟩)] 83 (0, 0)) := by
      rw [hw3]
      have := blk_new ((W2.alloc (.cells #[] 63 (0, 0))).alloc (.cells #[.string s, .slice (some ⟨W2.heap.size, 0, none⟩) 0 0] 59 (0, 0))) (.cells #[.int .i64 0, .pointer none, .pointer (some ⟨W2.heap.size + 1, 0, none⟩)] 83 (0, 0))
      rw [alloc_size, alloc_size] at this
      exact this
    have h3 := H2.out.below hb3
    have hM : ld.M w3.drew w0.heap.size (fun k => k = W2.heap.size + 2) (.sec (W2.heap.size + 1) W2.heap.size s) [.pointer (some ⟨W2.heap.size + 2, 0, none⟩)] := ⟨_, rfl, by have := H2.out.base.size; omega, rfl, e1⟩
    have hokp : ∀ k, k = W2.heap.size + 2 → (fun _ : Nat => True) k ∧ some k ≠ dv.ownBlock := fun k hk => ⟨trivial, fun he => by have := Kd.R_lt H2.out.data k he.symm; omega⟩
    have hR : Kd.R ld 80 w3.drew w0.heap.size (fun _ => True) dv cels := h3.data
    have hB3 : Below w0.heap.size w0 w3.drew := below_drew h3.base
    have hsz3 : w3.drew.heap.size = W2.heap.size + 3 := hz3
    have hpne : some p ≠ dv.ownBlock := Kd.R_ne H2.out.data H2.out.lex (by decide)
    have hq0d : some q0 ≠ dv.ownBlock := Kd.R_ne H2.out.data HQ0.out (by decide)
    have hq1d : some q1 ≠ dv.ownBlock := Kd.R_ne H2.out.data HQ1.out (by decide)
    have hbase3 : w0.heap.size ≤ w3.drew.heap.size := by have := H2.out.base.size; omega
    have hP3 : w3.heap[p]? = some (.cells #[.pointer (some ⟨g, 0, none⟩), dv, .nilIface, .string ByteArray.empty] 79 (0, 0)) := h3.lex
    have hQ03 : w3.heap[q0]? = some (.cells #[.pointer (some ⟨p, 0, none⟩)] 74 (0, 0)) := HQ0.out.below hb3
    have hQ13 : w3.heap[q1]? = some (.cells #[.string s] 9 (0, 0)) := HQ1.out.below hb3
    have HM_ := Lib.hid hM
    have HB2_ := Lib.hid hb3
    have HSZ3_ := Lib.hid hsz3
    have hq0p : q0 ≠ p := ne_type HQ0.out H2.out.lex (by decide)
    have hq1p : q1 ≠ p := ne_type HQ1.out H2.out.lex (by decide)
    have HOKP_ := Lib.hid hokp
    have HR_ := Lib.hid hR
    have HB3_ := Lib.hid hB3
    have HPNE_ := Lib.hid hpne
    have HQ0D_ := Lib.hid hq0d
    have HQ1D_ := Lib.hid hq1d
    have HBASE3_ := Lib.hid hbase3
    have HP3_ := Lib.hid hP3
    have HQ03_ := Lib.hid hQ03
    have HQ13_ := Lib.hid hQ13
    have E1_ := Lib.hid e1
    have E2_ := Lib.hid e2
    have E3_ := Lib.hid e3
    subst hw3
    clear hM hokp hR hB3 hpne hq0d hq1d hbase3 hP3 hQ03 hQ13 e1 e2 e3 hb3 hz3 h3 hsz3 yf
    have x0 : (W2.alloc (.cells #[] 63 (0, 0))).cell? ⟨q0, 0, none⟩ = some (.pointer (some ⟨p, 0, none⟩)) := pw_cell_below (below_alloc (Below.refl _ _) _) y0
    have z0 : (W2.alloc (.cells #[] 63 (0, 0))).cell? ⟨q1, 0, none⟩ = some (.string s) := pw_cell_below (below_alloc (Below.refl _ _) _) y1
    have yp0 : (W2.alloc (.cells #[] 63 (0, 0))).cell? ⟨p, 1, none⟩ = some dv := pw_cell_below (below_alloc (Below.refl _ _) _) yp
    have x1 : ((W2.alloc (.cells #[] 63 (0, 0))).alloc (.cells #[.string s, .slice (some ⟨W2.heap.size, 0, none⟩) 0 0] 59 (0, 0))).cell? ⟨q0, 0, none⟩ = some (.pointer (some ⟨p, 0, none⟩)) := pw_cell_below (below_alloc (below_alloc (Below.refl _ _) _) _) y0
    have z1 : ((W2.alloc (.cells #[] 63 (0, 0))).alloc (.cells #[.string s, .slice (some ⟨W2.heap.size, 0, none⟩) 0 0] 59 (0, 0))).cell? ⟨q1, 0, none⟩ = some (.string s) := pw_cell_below (below_alloc (below_alloc (Below.refl _ _) _) _) y1
    have yp1 : ((W2.alloc (.cells #[] 63 (0, 0))).alloc (.cells #[.string s, .slice (some ⟨W2.heap.size, 0, none⟩) 0 0] 59 (0, 0))).cell? ⟨p, 1, none⟩ = some dv := pw_cell_below (below_alloc (below_alloc (Below.refl _ _) _) _) yp
    have x2 : (((W2.alloc (.cells #[] 63 (0, 0))).alloc (.cells #[.string s, .slice (some ⟨W2.heap.size, 0, none⟩) 0 0] 59 (0, 0))).alloc (.cells #[.int .i64 0, .pointer none, .pointer (some ⟨W2.heap.size + 1, 0, none⟩)] 83 (0, 0))).cell? ⟨q0, 0, none⟩ = some (.pointer (some ⟨p, 0, none⟩)) := pw_cell_below (below_alloc (below_alloc (below_alloc (Below.refl _ _) _) _) _) y0
    have z2 : (((W2.alloc (.cells #[] 63 (0, 0))).alloc (.cells #[.string s, .slice (some ⟨W2.heap.size, 0, none⟩) 0 0] 59 (0, 0))).alloc (.cells #[.int .i64 0, .pointer none, .pointer (some ⟨W2.heap.size + 1, 0, none⟩)] 83 (0, 0))).cell? ⟨q1, 0, none⟩ = some (.string s) := pw_cell_below (below_alloc (below_alloc (below_alloc (Below.refl _ _) _) _) _) y1
    have yp2 : (((W2.alloc (.cells #[] 63 (0, 0))).alloc (.cells #[.string s, .slice (some ⟨W2.heap.size, 0, none⟩) 0 0] 59 (0, 0))).alloc (.cells #[.int .i64 0, .pointer none, .pointer (some ⟨W2.heap.size + 1, 0, none⟩)] 83 (0, 0))).cell? ⟨p, 1, none⟩ = some dv := pw_cell_below (below_alloc (below_alloc (below_alloc (Below.refl _ _) _) _) _) yp
    have x3 : ((((W2.alloc (.cells #[] 63 (0, 0))).alloc (.cells #[.string s, .slice (some ⟨W2.heap.size, 0, none⟩) 0 0] 59 (0, 0))).alloc (.cells #[.int .i64 0, .pointer none, .pointer (some ⟨W2.heap.size + 1, 0, none⟩)] 83 (0, 0))).alloc (.cells #[.pointer (some ⟨W2.heap.size + 1 + 1, 0, none⟩)] 80 (0, 0))).cell? ⟨q0, 0, none⟩ = some (.pointer (some ⟨p, 0, none⟩)) := pw_cell_below (below_alloc (below_alloc (below_alloc (below_alloc (Below.refl _ _) _) _) _) _) y0
    have z3 : ((((W2.alloc (.cells #[] 63 (0, 0))).alloc (.cells #[.string s, .slice (some ⟨W2.heap.size, 0, none⟩) 0 0] 59 (0, 0))).alloc (.cells #[.int .i64 0, .pointer none, .pointer (some ⟨W2.heap.size + 1, 0, none⟩)] 83 (0, 0))).alloc (.cells #[.pointer (some ⟨W2.heap.size + 1 + 1, 0, none⟩)] 80 (0, 0))).cell? ⟨q1, 0, none⟩ = some (.string s) := pw_cell_below (below_alloc (below_alloc (below_alloc (below_alloc (Below.refl _ _) _) _) _) _) y1
    have yp3 : ((((W2.alloc (.cells #[] 63 (0, 0))).alloc (.cells #[.string s, .slice (some ⟨W2.heap.size, 0, none⟩) 0 0] 59 (0, 0))).alloc (.cells #[.int .i64 0, .pointer none, .pointer (some ⟨W2.heap.size + 1, 0, none⟩)] 83 (0, 0))).alloc (.cells #[.pointer (some ⟨W2.heap.size + 1 + 1, 0, none⟩)] 80 (0, 0))).cell? ⟨p, 1, none⟩ = some dv := pw_cell_below (below_alloc (below_alloc (below_alloc (below_alloc (Below.refl _ _) _) _) _) _) yp
    go_wp2_with fail
    refine wp_region_D (fun w' : World => w'.cell? ⟨q0, 0, none⟩ = some (.pointer (some ⟨p, 0, none⟩)) ∧ w'.cell? ⟨q1, 0, none⟩ = some (.string s) ∧ w'.cell? ⟨p, 1, none⟩ = some dv) 15 (by kernel_rfl) ?_
    have hS0 : (fun w' : World => w'.cell? ⟨q0, 0, none⟩ = some (.pointer (some ⟨p, 0, none⟩)) ∧ w'.cell? ⟨q1, 0, none⟩ = some (.string s) ∧ w'.cell? ⟨p, 1, none⟩ = some dv) W2.drew := ⟨y0, y1, yp⟩
    refine wpAnyD_take (i := 0) (v := ?vv0) rfl (by kernel_rfl) (by kernel_rfl) (by kernel_rfl) (by kernel_rfl) (fun _ _ _ h => h) (Or.inl ⟨by rfl, ?hy0⟩) hS0 ?rest0
    case hy0 => (intro w hSw; (try dsimp only at hSw); obtain ⟨hS1, hS2, hS3⟩ := hSw; go_simp; try (with_reducible rfl))
    try simp only [Act.put, List.setIfInBounds_toArray, List.set_cons_zero, List.set_cons_succ]
    refine wpAnyD_take (i := 1) (v := ?vv1) rfl (by kernel_rfl) (by kernel_rfl) (by kernel_rfl) (by kernel_rfl) (fun _ _ _ h => h) (Or.inl ⟨by rfl, ?hy1⟩) hS0 ?rest1
    case hy1 => (intro w hSw; (try dsimp only at hSw); obtain ⟨hS1, hS2, hS3⟩ := hSw; go_simp; try (with_reducible rfl))
    try simp only [Act.put, List.setIfInBounds_toArray, List.set_cons_zero, List.set_cons_succ]
    refine wpAnyD_take (i := 2) (v := ?vv2) rfl (by kernel_rfl) (by kernel_rfl) (by kernel_rfl) (by kernel_rfl) (fun _ _ _ h => h) (Or.inl ⟨by rfl, ?hy2⟩) hS0 ?rest2
    case hy2 => (intro w hSw; (try dsimp only at hSw); obtain ⟨hS1, hS2, hS3⟩ := hSw; go_simp; try (with_reducible rfl))
    try simp only [Act.put, List.setIfInBounds_toArray, List.set_cons_zero, List.set_cons_succ]
    refine wpAnyD_take (i := 3) (v := ?vv3) rfl (by kernel_rfl) (by kernel_rfl) (by kernel_rfl) (by kernel_rfl) (fun _ _ _ h => h) (Or.inl ⟨by rfl, ?hy3⟩) hS0 ?rest3
    case hy3 => (intro w hSw; (try dsimp only at hSw); obtain ⟨hS1, hS2, hS3⟩ := hSw; go_simp; try (with_reducible rfl))
    try simp only [Act.put, List.setIfInBounds_toArray, List.set_cons_zero, List.set_cons_succ]
    refine wpAnyD_take (i := 4) (v := ?vv4) rfl (by kernel_rfl) (by kernel_rfl) (by kernel_rfl) (by kernel_rfl) (fun _ _ _ h => h) (Or.inl ⟨by rfl, ?hy4⟩) hS0 ?rest4
    case hy4 => (intro w hSw; (try dsimp only at hSw); obtain ⟨hS1, hS2, hS3⟩ := hSw; go_simp; try (with_reducible rfl))
    try simp only [Act.put, List.setIfInBounds_toArray, List.set_cons_zero, List.set_cons_succ]
    refine wpAnyD_take (i := 5) (v := ?vv5) rfl (by kernel_rfl) (by kernel_rfl) (by kernel_rfl) (by kernel_rfl) (fun _ _ _ h => h) (Or.inl ⟨by rfl, ?hy5⟩) hS0 ?rest5
    case hy5 => (intro w hSw; (try dsimp only at hSw); obtain ⟨hS1, hS2, hS3⟩ := hSw; go_simp; try (with_reducible rfl))
    try simp only [Act.put, List.setIfInBounds_toArray, List.set_cons_zero, List.set_cons_succ]
    refine wpAnyD_one (i := 6) (by kernel_rfl) rfl (fun K hK => ?_)
    go_simp
    refine hK.out _ _ (Or.inr ⟨x0, z0, yp0⟩) (fun _ => ?_)
    clear hK K
    try simp only [Act.put, List.setIfInBounds_toArray, List.set_cons_zero, List.set_cons_succ]
    refine wpAnyD_one (i := 7) (by kernel_rfl) rfl (fun K hK => ?_)
    go_simp
    refine hK.out _ _ (Or.inr ⟨x0, z0, yp0⟩) (fun _ => ?_)
    clear hK K
    try simp only [Act.put, List.setIfInBounds_toArray, List.set_cons_zero, List.set_cons_succ]
    refine wpAnyD_one (i := 8) (by kernel_rfl) rfl (fun K hK => ?_)
    go_simp
    refine hK.out _ _ (Or.inr ⟨x1, z1, yp1⟩) (fun _ => ?_)
    clear hK K
    try simp only [Act.put, List.setIfInBounds_toArray, List.set_cons_zero, List.set_cons_succ]
    refine wpAnyD_one (i := 9) (by kernel_rfl) rfl (fun K hK => ?_)
    go_simp
    refine hK.out _ _ (Or.inr ⟨x1, z1, yp1⟩) (fun _ => ?_)
    clear hK K
    try simp only [Act.put, List.setIfInBounds_toArray, List.set_cons_zero, List.set_cons_succ]
    refine wpAnyD_one (i := 10) (by kernel_rfl) rfl (fun K hK => ?_)
    go_simp
    refine hK.out _ _ (Or.inr ⟨x2, z2, yp2⟩) (fun _ => ?_)
    clear hK K
    try simp only [Act.put, List.setIfInBounds_toArray, List.set_cons_zero, List.set_cons_succ]
    refine wpAnyD_one (i := 11) (by kernel_rfl) rfl (fun K hK => ?_)
    go_simp
    refine hK.out _ _ (Or.inr ⟨x3, z3, yp3⟩) (fun _ => ?_)
    clear hK K
    try simp only [Act.put, List.setIfInBounds_toArray, List.set_cons_zero, List.set_cons_succ]
    refine wpAnyD_one (i := 12) (by kernel_rfl) rfl (fun K hK => ?_)
    refine Kd.R_append_step ld (w0 := w0) (W := (((W2.alloc (.cells #[] 63 (0, 0))).alloc (.cells #[.string s, .slice (some ⟨W2.heap.size, 0, none⟩) 0 0] 59 (0, 0))).alloc (.cells #[.int .i64 0, .pointer none, .pointer (some ⟨W2.heap.size + 1, 0, none⟩)] 83 (0, 0))).drew) w0.heap.size (by rfl) _ _ 77 80 (.pointer none) 8 (by rfl) Tryd.underlying77 info_pld rfl (by decide) (by decide) dv cels (.sec (W2.heap.size + 1) W2.heap.size s) [.pointer (some ⟨W2.heap.size + 2, 0, none⟩)] (fun _ => True) (fun k => k = W2.heap.size + 2) (by rfl) (by show _ = Value.slice (some ⟨_, 0, none⟩) 1 1; rw [HSZ3_.out]; rfl) HM_.out HOKP_.out (fun _ _ => trivial) HR_.out HB3_.out HBASE3_.out (by omega) ?_
    intro v8 w8 ho hb8 hg8 hat
    have zq8 : w8.cell? ⟨q0, 0, none⟩ = some (.pointer (some ⟨p, 0, none⟩)) := (blk_cell (blk_grown (show (((W2.alloc (.cells #[] 63 (0, 0))).alloc (.cells #[.string s, .slice (some ⟨W2.heap.size, 0, none⟩) 0 0] 59 (0, 0))).alloc (.cells #[.int .i64 0, .pointer none, .pointer (some ⟨W2.heap.size + 1, 0, none⟩)] 83 (0, 0))).drew.heap[q0]? = _ from HQ03_.out) hg8 HQ0D_.out) 0).trans rfl
    have zr8 : w8.cell? ⟨q1, 0, none⟩ = some (.string s) := (blk_cell (blk_grown (show (((W2.alloc (.cells #[] 63 (0, 0))).alloc (.cells #[.string s, .slice (some ⟨W2.heap.size, 0, none⟩) 0 0] 59 (0, 0))).alloc (.cells #[.int .i64 0, .pointer none, .pointer (some ⟨W2.heap.size + 1, 0, none⟩)] 83 (0, 0))).drew.heap[q1]? = _ from HQ13_.out) hg8 HQ1D_.out) 0).trans rfl
    have zl8 : LexB w8 p g dv .nilIface := blk_grown (show (((W2.alloc (.cells #[] 63 (0, 0))).alloc (.cells #[.string s, .slice (some ⟨W2.heap.size, 0, none⟩) 0 0] 59 (0, 0))).alloc (.cells #[.int .i64 0, .pointer none, .pointer (some ⟨W2.heap.size + 1, 0, none⟩)] 83 (0, 0))).drew.heap[p]? = _ from HP3_.out) hg8 HPNE_.out
    have zc8 := zl8.c1
    have zf8 := zl8.fz 1
    obtain ⟨A8, c8, rfl⟩ := Kd.R_slice ho
    refine hK.out _ _ (Or.inr ⟨zq8, zr8, zc8⟩) (fun _ => ?_)
    clear hK K
    try simp only [Act.put, List.setIfInBounds_toArray, List.set_cons_zero, List.set_cons_succ]
    refine wpAnyD_one (i := 13) (by kernel_rfl) rfl (fun K hK => ?_)
    go_simp
    refine hK.out _ _ (Or.inr ⟨zq8, zr8, zc8⟩) (fun _ => ?_)
    clear hK K
    try simp only [Act.put, List.setIfInBounds_toArray, List.set_cons_zero, List.set_cons_succ]
    refine wpAnyD_one (i := 14) (by kernel_rfl) rfl (fun K hK => ?_)
    go_simp
    refine hK.out _ _ (Or.inr ⟨zq8, zr8, zc8⟩) (fun _ => ?_)
    clear hK K
    try simp only [Act.put, List.setIfInBounds_toArray, List.set_cons_zero, List.set_cons_succ]
    refine wpAnyD_one (i := 15) (by kernel_rfl) rfl (fun K hK => ?_)
    go_simp
    refine hK.out _ _ (Or.inl rfl) (fun _ => ?_)
    clear hK K
    try simp only [Act.put, List.setIfInBounds_toArray, List.set_cons_zero, List.set_cons_succ]
    refine wpAnyD_done (by kernel_rfl) ?_ _
    have hcar : ∀ (j : Nat) (cs : Array Value) (T : TypeId), (((W2.alloc (.cells #[] 63 (0, 0))).alloc (.cells #[.string s, .slice (some ⟨W2.heap.size, 0, none⟩) 0 0] 59 (0, 0))).alloc (.cells #[.int .i64 0, .pointer none, .pointer (some ⟨W2.heap.size + 1, 0, none⟩)] 83 (0, 0))).drew.heap[j]? = some (.cells cs T (0, 0)) → T ≠ 80 → T ≠ 79 → (w8.setCell ⟨p, 1, none⟩ (.slice A8 (cels ++ [Cel.sec (W2.heap.size + 1) W2.heap.size s]).length c8)).heap[j]? = some (.cells cs T (0, 0)) := fun j cs T hj h1 h2 => by
      have h8 := blk_grown hj hg8 (Kd.R_ne HR_.out hj h1.symm)
      exact (Below.heap_setCell w8 ⟨p, 1, none⟩ _ j (ne_type h8 zl8 h2)).trans h8
    have hold : ∀ (j : Nat) (cs : Array Value) (T : TypeId), W2.heap[j]? = some (.cells cs T (0, 0)) → T ≠ 80 → T ≠ 79 → (w8.setCell ⟨p, 1, none⟩ (.slice A8 (cels ++ [Cel.sec (W2.heap.size + 1) W2.heap.size s]).length c8)).heap[j]? = some (.cells cs T (0, 0)) := fun j cs T hj h1 h2 => hcar j cs T (blk_below hj (below_drew HB2_.out)) h1 h2
    have hLex : LexAt w0 (w8.setCell ⟨p, 1, none⟩ (.slice A8 (cels ++ [Cel.sec (W2.heap.size + 1) W2.heap.size s]).length c8)) p g t b' (.slice A8 (cels ++ [Cel.sec (W2.heap.size + 1) W2.heap.size s]).length c8) .nilIface (cels ++ [Cel.sec (W2.heap.size + 1) W2.heap.size s]) := {
      base := below_set hb8 H2.out.hp
      hg := H2.out.hg
      hp := H2.out.hp
      buf := hold g _ _ (show W2.heap[g]? = _ from H2.out.buf) (by decide) (by decide)
      ok := H2.out.ok
      h4 := H2.out.h4
      lex := zl8.set1 _
      data := Kd.R_mono (Kd.R_far (Kd.R_types ho zl8 (by decide)) (fun k hk => hk.2) _) (fun _ _ => trivial)
      secs := Secs.snoc_sec (fun k cs T hk hT => hold k cs T hk (by rcases hT with rfl | rfl <;> decide) (by rcases hT with rfl | rfl <;> decide)) (W2.heap.size + 1) W2.heap.size s (Nat.le_succ _) (Nat.le_refl _) (hcar _ _ _ E2_.out (by decide) (by decide)) (hcar _ _ _ E3_.out (by decide) (by decide)) cels _ H2.out.base.size H2.out.secs }
    have hq09 := Lib.hid (hold q0 _ _ HQ0.out (by decide) (by decide))
    have hq19 := Lib.hid (hold q1 _ _ HQ1.out (by decide) (by decide))
    have HLX := Lib.hid hLex
    clear hcar hold hLex
    have hlen : (cels ++ [Cel.sec (W2.heap.size + 1) W2.heap.size s]).length = cels.length + 1 := by rw [List.length_append]; rfl
    rw [hlen] at hq09 hq19 HLX
    clear hlen
    go_wp2_with fail
    generalize w8.setCell ⟨p, 1, none⟩ (.slice A8 (cels.length + 1) c8) = w9 at hq09 hq19 HLX ⊢
    refine (sooFunc_is p s w9).mono ?_
    rintro e4 w10 ⟨fn', f1', f2', rfl, hst, hb⟩
    have K0 := Lib.hid hst
    have HL2 := Lib.hid (HLX.out.below hb)
    clear hst hb HLX
    go_wp2_with fail
    go_ret2
    rw [HI0.out, HS0.out]
    exact ⟨⟨_, [Cel.sec (W2.heap.size + 1) W2.heap.size s], rfl, HL2.out⟩, _, rfl, K0.out⟩
  · have HI0 := Lib.hid (HI0.out.trans (if_neg hz))
    have HS0 := Lib.hid (HS0.out.trans (if_neg hz))
    have hz2 : ((tsLen line : Nat) : Int) > 0 := by omega
    have hz4 : decide (0 < ((tsLen line : Nat) : Int)) = true := decide_eq_true hz2
    have hz5 : decide (0 < tsLen line) = true := decide_eq_true (by omega)
    have hz6 : (0 : Int) < ((tsLen line : Nat) : Int) := hz2
    generalize tsLen line = N at hz2 hz4 hz5 hz6 ⊢
    clear hz hll
    go_wp2_with fail
    refine (errors_New_is _ W2).mono ?_
    rintro e3 W4 ⟨rfl, hb⟩
    have HL2 := Lib.hid (H2.out.below hb)
    clear hb H2
    go_wp2_with fail
    go_ret2
    rw [HI0.out, HS0.out]
    exact ⟨⟨_, [], rfl, by rw [List.append_nil]; exact HL2.out⟩, _, _, rfl⟩
end Go.Proofs.YtlmmgienbmghmaaDoor.Lex
