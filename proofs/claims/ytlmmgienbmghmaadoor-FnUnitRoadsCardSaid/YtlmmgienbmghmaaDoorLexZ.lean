/- The reader of unit files: deserializeAll. -/
import Derived.Test.YtlmmgienbmghmaaDoorLexY
set_option linter.unusedVariables false
set_option linter.unusedSimpArgs false
namespace Go.Proofs.YtlmmgienbmghmaaDoor.Lex
open Go.RowKit Go.Proofs.YtlmmgienbmghmaaDoorW.PrintWords Go.Proofs.YtlmmgienbmghmaaDoorW.PrintLast Go.Proofs.YtlmmgienbmghmaaDoorW.PrintMore Go.Proofs.YtlmmgienbmghmaaDoor.GivU Go.Proofs.YtlmmgienbmghmaaDoor.J
theorem info_pus : (Tryd.prog.info? 56).map (fun i => (i.zero, i.size, i.bytes)) = some (some (.pointer none), 1, 8) := by kernel_rfl
theorem info_puo : (Tryd.prog.info? 47).map (fun i => (i.zero, i.size, i.bytes)) = some (some (.pointer none), 1, 8) := by kernel_rfl
theorem info_pue : (Tryd.prog.info? 63).map (fun i => (i.zero, i.size, i.bytes)) = some (some (.pointer none), 1, 8) := by kernel_rfl
theorem cell_same {W W' : World} {TS : List Nat} (h : Same W W' TS) {a : Addr} {cs : Array Value} {T : TypeId} {v : Value} (hb : W.heap[a.block]? = some (.cells cs T (0, 0))) (hT : T ∉ TS) (hc : W.cell? a = some v) : W'.cell? a = some v := (World.cell?_of_block ((h.2 _ _ _ hb hT).trans hb.symm)).trans hc
set_option maxHeartbeats 16000000 in
set_option maxRecDepth 100000 in
theorem desAll_is (w0 : World) (t : ByteArray) (m n : Nat) (its : List Item) (okb : Bool) (S : List SecP) (O : List (ByteArray × ByteArray × ByteArray)) (ht : t.size ≤ 100000) (hT : UTabs w0) (hm : m ≤ 1000000) (hn : n ≤ 500000)
    (hk : lexF t m n ⟨0, 0, 0, false⟩ .sec [] = some (its, okb)) (hd : desF its [] [] = some (S, O)) :
    Calls Tryd.prog 32 #[.string t] w0 fun e W' => ∃ A6 c6 A7 c7 ev, e = .returned (.tuple #[.slice A6 S.length c6, .slice A7 O.length c7, ev]) ∧ Below w0.heap.size w0 W' ∧ (∃ rsl H0, rsl.map SecSt.sp = S ∧ Kd.R psl 56 W' w0.heap.size (fun _ => True) (.slice A6 S.length c6) (rsl.reverse.map SecSt.k2) ∧ SecsH W' w0.heap.size H0 rsl) ∧ Kd.R popt 47 W' w0.heap.size (fun _ => True) (.slice A7 O.length c7) O ∧ ((okb = true ∧ ev = .nilIface) ∨ (okb = false ∧ ∃ T q, ev = .iface T q)) := by
  have HD := Lib.hid hd
  have HK := Lib.hid hk
  have HT := Lib.hid hT
  clear hd hk hT
  go_enter Tryd.func32, Tryd.ntmps32
  go_wp2_with fail
  refine (newLexer_is t w0).mono ?_
  rintro e1 W1 ⟨p, g, rfl, hL1⟩
  have HL1 := Lib.hid hL1
  clear hL1
  go_wp2_with fail
  refine (lex_is w0 W1 p g t m n _ _ its okb HL1.out ht HT.out hm hn HK.out).mono ?_
  rintro e2 W2 ⟨rfl, b2, dv, ev, cels, hL2, hits, hcl, hev⟩
  obtain ⟨A2, c2, hdv⟩ := Kd.R_slice hL2.data
  subst hdv
  have HL2 := Lib.hid hL2
  have HITS := Lib.hid hits
  have HEV := Lib.hid hev
  have x1 : ((W2.alloc (.cells #[] 56 (0, 0))).alloc (.cells #[] 47 (0, 0))).cell? (⟨p, 1, none⟩ : Addr) = some (.slice A2 cels.length c2) := pw_cell_below (below_alloc (below_alloc (Below.refl _ _) _) _) hL2.lex.c1
  clear hL2 hits hev HL1 HK
  go_wp2_with fail
  obtain ⟨w4, hw4⟩ : ∃ w4, w4 = (W2.alloc (.cells #[] 56 (0, 0))).alloc (.cells #[] 47 (0, 0)) := ⟨_, rfl⟩
  have hb4 : Below W2.heap.size W2 w4 := by rw [hw4]; exact below_alloc (below_alloc (Below.refl _ _) _) _
  have e6 : w4.heap[W2.heap.size]? = some (.cells #[] 56 (0, 0)) := by rw [hw4]; exact blk_alloc (blk_new _ _) _
  have e7 : w4.heap[W2.heap.size + 1]? = some (.cells #[] 47 (0, 0)) := by
    rw [hw4]
    have := blk_new (W2.alloc (.cells #[] 56 (0, 0))) (.cells #[] 47 (0, 0))
    rw [alloc_size] at this
    exact this
  have h4 := HL2.out.below hb4
  have HST := Lib.hid (show DSt w0 w4 p g w4.heap.size (.slice A2 cels.length c2) ev cels [] (.slice (some ⟨W2.heap.size, 0, none⟩) 0 0) [] (.slice (some ⟨W2.heap.size + 1, 0, none⟩) 0 0) w0.heap.size cels from {
    base := h4.base
    hz := Nat.le_refl _
    lex := h4.lex
    data := h4.data
    r6 := empty_row psl e6 HL2.out.base.size trivial
    r7 := empty_row popt e7 (Nat.le_trans HL2.out.base.size (Nat.le_succ _)) trivial
    secs := trivial
    rest := h4.secs
    lows := fun x hx => by cases hx })
  have HBD := Lib.hid (show ∀ k2 k3 s, Cel.sec k2 k3 s ∈ cels → k2 < w4.heap.size ∧ k3 < w4.heap.size from fun k2 k3 s hm => Secs.lt cels _ h4.secs hm)
  have HL4 := Lib.hid h4
  rw [← hw4]
  clear h4 hb4 e6 e7 hw4 x1
  obtain ⟨H0, hH0⟩ : ∃ H0, H0 = w4.heap.size := ⟨_, rfl⟩
  rw [← hH0] at HST HBD
  have HBS := Lib.hid (show w0.heap.size ≤ H0 by rw [hH0]; exact HL4.out.base.size)
  clear hH0 HL4
  go_loopg [23, 6, 7] cels.length (fun kq v23 v6 v7 w' => ∃ (i : Nat) (rsl : List SecSt) (os : List (ByteArray × ByteArray × ByteArray)) (lo : Nat), v23 = .int .i64 i ∧ Hid (i ≤ cels.length ∧ cels.length - i ≤ kq) ∧ Hid (DSt w0 w' p g H0 (.slice A2 cels.length c2) ev cels rsl v6 os v7 lo (cels.drop i)) ∧ Hid (w0.heap.size ≤ lo ∧ rsl.length ≤ i ∧ os.length ≤ i ∧ (∀ x ∈ rsl, x.sp.2.length ≤ i) ∧ ∀ x ∈ rsl, w0.heap.size ≤ x.k2) ∧ Hid (desF ((cels.drop i).map Cel.item) (rsl.map SecSt.sp) os = some (S, O)))
  case atStart => exact ⟨0, [], [], w0.heap.size, rfl, Lib.hid ⟨Nat.zero_le _, by omega⟩, by rw [List.drop_zero]; exact HST, Lib.hid ⟨Nat.le_refl _, Nat.le_refl _, Nat.le_refl _, (fun x hx => by cases hx), (fun x hx => by cases hx)⟩, by rw [List.drop_zero, HITS.out]; exact HD⟩
  case round =>
    obtain ⟨i, rsl, os, lo, rfl, hi, hst, hln, hdf⟩ := hrel
    clear HST
    obtain ⟨A6, c6, h6⟩ := Kd.R_slice hst.out.r6
    obtain ⟨A7, c7, h7⟩ := Kd.R_slice hst.out.r7
    have h6l : (rsl.reverse.map SecSt.k2).length = rsl.length := by rw [List.length_map, List.length_reverse]
    rw [h6l] at h6
    subst h6
    subst h7
    clear h6l
    by_cases hlt : i < cels.length
    · have hltI : (i : Int) < (cels.length : Int) := by omega
      obtain ⟨A2', c2', he2, hc2, hC2⟩ := Kd.R_reads hst.out.data
      obtain ⟨rfl, rfl⟩ : A2 = A2' ∧ c2 = c2' := by injection he2 with h1 h2 h3; exact ⟨h1, h3⟩
      obtain ⟨ad, cs, hA, hcl0, ⟨k, rfl, hcel⟩, hcc⟩ := Kd.C_get hC2 (.opt ByteArray.empty ByteArray.empty ByteArray.empty) (i : Int) (by omega) (by omega)
      subst hA
      have hx0 := hcc 0 _ rfl
      have e1 : (i : Int).toNat * ld.sz + 0 = i := by show (i : Int).toNat * 1 + 0 = i; omega
      rw [e1] at hx0
      rw [Int.toNat_natCast] at hcel
      have hdr : cels.drop i = cels.getD i (.opt ByteArray.empty ByteArray.empty ByteArray.empty) :: cels.drop (i + 1) := by
        rw [List.drop_eq_getElem_cons hlt, List.getD_eq_getElem?_getD, List.getElem?_eq_getElem hlt]; rfl
      have hmem : cels.getD i (.opt ByteArray.empty ByteArray.empty ByteArray.empty) ∈ cels := by
        rw [List.getD_eq_getElem?_getD, List.getElem?_eq_getElem hlt]; exact List.getElem_mem hlt
      generalize cels.getD i (.opt ByteArray.empty ByteArray.empty ByteArray.empty) = cel at hcel hdr hmem
      rw [hdr] at hst hdf
      have HDR := Lib.hid hdr
      clear hcc hcl0 hC2 hc2 he2 e1 hdr
      cases cel with
      | sec k2 k3 s =>
        have a0 := (blk_cell (show wr.heap[k]? = _ from hcel) 0).trans rfl
        have a1 := (blk_cell (show wr.heap[k]? = _ from hcel) 1).trans rfl
        have a2 := (blk_cell (show wr.heap[k]? = _ from hcel) 2).trans rfl
        clear hcel
        have hkb := HBD.out k2 k3 s hmem
        go_wp2_with (first
          | ((with_reducible refine gate_builtin (b := .append) (xs := #[.tmp 82, .tmp 87]) rfl ?_); at_builtin; refine Kd.R_append psl (w0 := w0) w0.heap.size rfl (.tmp 82) (.tmp 87) 53 56 (.pointer none) 8 rfl Tryd.underlying53 info_pus rfl (by decide) (by decide) (.slice A6 rsl.length c6) (rsl.reverse.map SecSt.k2) k2 [.pointer (some ⟨k2, 0, none⟩)] (fun _ => True) (fun _ => False) rfl rfl rfl (fun _ h => h.elim) (fun _ _ => trivial) hst.out.r6 hst.out.base hst.out.base.size ?aL ?_
             (case aL => rw [List.length_map, List.length_reverse]; have h1 := hln.out.2.1; omega)
             intro v8 w8 ho hb8 hg8 hat
             have HST2 := Lib.hid (DSt.sec hst.out hln.out.1 hkb.2 hb8 (Same.grown hst.out.r6 hg8 hg8.size) ho)
             clear ho hb8 hg8 hat))
        go_roundg (cels.length - (i + 1))
        case measure => have := hi.out.2; omega
        case rel => exact ⟨i + 1, _, os, _, by first | rfl | simp, Lib.hid ⟨hlt, Nat.le_refl _⟩, HST2, Lib.hid ⟨by have h1 := hln.out.1; have h2 := hst.out.rest.1; have h3 := hst.out.rest.2.1; omega, by show rsl.length + 1 ≤ i + 1; have := hln.out.2.1; omega, by have := hln.out.2.2.1; omega, fun x hx => by
            rcases List.mem_cons.1 hx with rfl | hx
            · exact Nat.zero_le _
            · exact Nat.le_succ_of_le (hln.out.2.2.2.1 x hx), fun x hx => by
            rcases List.mem_cons.1 hx with rfl | hx
            · have h1 := hln.out.1; have h2 := hst.out.rest.1; show w0.heap.size ≤ k2; omega
            · exact hln.out.2.2.2.2 x hx⟩, Lib.hid hdf.out⟩
      | opt s nm v =>
        obtain ⟨ko, hk1, hk2⟩ := hcel
        cases rsl with
        | nil => have h := hdf.out; cases h
        | cons x rsl =>
          obtain ⟨k2, k3, nm0, es⟩ := x
          have a0 := (blk_cell hk1 0).trans rfl
          have a1 := (blk_cell hk1 1).trans rfl
          have a2 := (blk_cell hk1 2).trans rfl
          have b0 := (blk_cell hk2 0).trans rfl
          have b1 := (blk_cell hk2 1).trans rfl
          have b2 := (blk_cell hk2 2).trans rfl
          clear hk1 hk2
          have hbo : Below wr.heap.size wr (wr.alloc (.cells #[.string s, .string nm, .string v] 48 (0, 0))) := below_alloc (Below.refl _ _) _
          have EO := Lib.hid (show (wr.alloc (.cells #[.string s, .string nm, .string v] 48 (0, 0))).heap[wr.heap.size]? = some (.cells #[.string s, .string nm, .string v] 48 (0, 0)) from blk_new _ _)
          have HS5 := Lib.hid (hst.out.below hbo)
          have HSZ5 := Lib.hid (show (wr.alloc (.cells #[.string s, .string nm, .string v] 48 (0, 0))).heap.size = wr.heap.size + 1 from alloc_size _ _)
          have HBW := Lib.hid (show w0.heap.size ≤ wr.heap.size from hst.out.base.size)
          have HM5 := Lib.hid (show popt.M (wr.alloc (.cells #[.string s, .string nm, .string v] 48 (0, 0))) w0.heap.size (fun k => k = wr.heap.size) (s, nm, v) [.pointer (some ⟨wr.heap.size, 0, none⟩)] from ⟨_, rfl, HBW.out, rfl, EO.out⟩)
          have HOK5 := Lib.hid (show ∀ k, k = wr.heap.size → (fun _ : Nat => True) k ∧ some k ≠ (Value.slice A7 os.length c7).ownBlock from fun k hk => ⟨trivial, fun he => by have := Kd.R_lt hst.out.r7 k he.symm; omega⟩)
          clear hbo
          have hl1 : ((⟨k2, k3, nm0, es⟩ : SecSt) :: rsl).length = rsl.length + 1 := rfl
          rw [hl1] at *
          clear hl1
          have q1 : ((rsl.length + 1 : Nat) : Int) = (rsl.length : Int) + 1 := by omega
          have hl6 : rsl.length ≤ 1000000 := by have h1 := hln.out.2.1; have h2 : ((⟨k2, k3, nm0, es⟩ : SecSt) :: rsl).length = rsl.length + 1 := rfl; omega
          have q2 : wrap64 ((rsl.length : Int) + 1 - 1) = (rsl.length : Int) := by rw [← i64_w, IntKind.wrap_i64]; omega
          have q3 : wrap64 (rsl.length : Int) = (rsl.length : Int) := by rw [← i64_w, IntKind.wrap_i64]; omega
          have q4 : (rsl.length : Int) < (rsl.length : Int) + 1 := by omega
          have q5 : (0 : Int) ≤ (rsl.length : Int) := by omega
          have q6 : ¬ (rsl.length : Int) + 1 = 0 := by omega
          have q7 : ((rsl.length : Int) + 1 == 0) = false := beq_eq_false_iff_ne.2 q6
          obtain ⟨g6, hg6⟩ : ∃ g6, A6 = some ⟨g6, 0, none⟩ := by
            obtain ⟨inner, hown⟩ := Kd.R_own hst.out.r6
            rcases hown.2 with ⟨h1, h2⟩ | ⟨g6, cap, cur, h1, -⟩
            · have h3 : (rsl.length + 1 : Nat) = 0 := by injection h1
              omega
            · injection h1 with h1 _ _
              exact ⟨g6, h1⟩
          subst hg6
          go_wp2_with (first
            | ((with_reducible refine gate_builtin (b := .append) (xs := #[.tmp 44, .tmp 45]) rfl ?_); at_builtin; refine Kd.R_append popt (w0 := w0) w0.heap.size rfl (.tmp 44) (.tmp 45) 42 47 (.pointer none) 8 rfl Tryd.underlying42 info_puo rfl (by decide) (by decide) (.slice A7 os.length c7) os (s, nm, v) [.pointer (some ⟨wr.heap.size, 0, none⟩)] (fun _ => True) (fun k => k = wr.heap.size) rfl (by rw [HSZ5.out]; rfl) HM5.out HOK5.out (fun _ _ => trivial) HS5.out.r7 HS5.out.base HS5.out.base.size ?aL ?_
               (case aL => have h1 := hln.out.2.2.1; omega)
               intro v8 w8 ho hb8 hg8 hat
               have HST2 := Lib.hid (DSt.opt (x := (s, nm, v)) HS5.out hb8 (Same.grown HS5.out.r7 hg8 hg8.size) ho)
               have hEO8 := blk_grown EO.out hg8 (Kd.R_ne HS5.out.r7 EO.out (by decide))
               clear ho hb8 hg8 hat a0 a1 a2 b0 b1 b2 hx0))
          obtain ⟨vE, lx, s1, s2, s3, s4, s5, s6, s7⟩ := HST2.out.secs
          obtain ⟨AE, cE, hvE⟩ := Kd.R_slice s6
          subst hvE
          have y1 : w8.cell? (⟨wr.heap.size, 1, none⟩ : Addr) = some (.string nm) := (blk_cell hEO8 1).trans rfl
          have y2 : w8.cell? (⟨wr.heap.size, 2, none⟩ : Addr) = some (.string v) := (blk_cell hEO8 2).trans rfl
          have yE : w8.cell? (⟨k2, 1, none⟩ : Addr) = some (.slice AE es.length cE) := (blk_cell (show w8.heap[k2]? = _ from s5) 1).trans rfl
          have y6 : w8.cell? (⟨g6, rsl.length, none⟩ : Addr) = some (.pointer (some ⟨k2, 0, none⟩)) := by
            obtain ⟨A', c', he, hc', hC'⟩ := Kd.R_reads HST2.out.r6
            injection he with h1 h2 h3
            subst h1
            have hlen : (((⟨k2, k3, nm0, es⟩ : SecSt) :: rsl).reverse.map SecSt.k2).length = rsl.length + 1 := by rw [List.length_map, List.length_reverse]; rfl
            obtain ⟨ad, cs, hA, -, hk, hcc⟩ := Kd.C_get hC' 0 (rsl.length : Int) (by omega) (by rw [hlen]; omega)
            injection hA with hA
            subst hA
            rw [Int.toNat_natCast] at hk hcc
            have hgd : (((⟨k2, k3, nm0, es⟩ : SecSt) :: rsl).reverse.map SecSt.k2).getD rsl.length 0 = k2 := by
              rw [List.getD_eq_getElem?_getD, List.getElem?_map, List.reverse_cons, List.getElem?_append_right (by rw [List.length_reverse]; exact Nat.le_refl _), List.length_reverse, Nat.sub_self]
              rfl
            have hcs : cs = [.pointer (some ⟨k2, 0, none⟩)] := by rw [hgd] at hk; exact hk
            have h9 := hcc 0 _ (by rw [hcs]; rfl)
            have e9 : rsl.length * psl.sz + 0 = rsl.length := by show rsl.length * 1 + 0 = rsl.length; omega
            rw [e9, add_plain] at h9
            exact h9
          obtain ⟨cs6, hB6⟩ : ∃ cs6, w8.heap[(⟨g6, rsl.length, none⟩ : Addr).block]? = some (.cells cs6 56 (0, 0)) := by
            obtain ⟨inner, hown⟩ := Kd.R_own HST2.out.r6
            exact own_typed hown g6 (by simp [Value.ownBlock])
          have HB6 := Lib.hid hB6
          have HEO8 := Lib.hid hEO8
          clear hB6
          have HW1 := Lib.hid (below_alloc (Below.refl w8.heap.size w8) (.cells #[.string nm, .string v] 65 (0, 0)))
          have HEN := Lib.hid (blk_new w8 (.cells #[.string nm, .string v] 65 (0, 0)))
          have HSZ8 := Lib.hid (show (w8.alloc (.cells #[.string nm, .string v] 65 (0, 0))).drew.heap.size = w8.heap.size + 1 from alloc_size _ _)
          have hb08 := HST2.out.base.size
          have HME := Lib.hid (show pent.M (w8.alloc (.cells #[.string nm, .string v] 65 (0, 0))).drew w0.heap.size (fun k => k = w8.heap.size) (nm, v) [.pointer (some ⟨w8.heap.size, 0, none⟩)] from ⟨_, rfl, hb08, rfl, HEN.out⟩)
          have HOKE := Lib.hid (show ∀ k, k = w8.heap.size → (fun k => k = k3 ∨ lx ≤ k) k ∧ some k ≠ (Value.slice AE es.length cE).ownBlock from fun k hk => ⟨.inr (by omega), fun he => by have := Kd.R_lt s6 k he.symm; omega⟩)
          have HRE := Lib.hid (show Kd.R pent 63 (w8.alloc (.cells #[.string nm, .string v] 65 (0, 0))).drew w0.heap.size (fun k => k = k3 ∨ lx ≤ k) (.slice AE es.length cE) es from Kd.R_below s6 (below_drew HW1.out))
          have HBE := Lib.hid (show Below w0.heap.size w0 (w8.alloc (.cells #[.string nm, .string v] 65 (0, 0))).drew from below_drew (below_step HST2.out.base HW1.out))
          have HFR := Lib.hid (show ∀ k, (w8.alloc (.cells #[.string nm, .string v] 65 (0, 0))).drew.heap.size ≤ k → (fun k => k = k3 ∨ lx ≤ k) k from fun k hk => .inr (by rw [HSZ8.out] at hk; omega))
          have HBS8 := Lib.hid (show w0.heap.size ≤ (w8.alloc (.cells #[.string nm, .string v] 65 (0, 0))).drew.heap.size by rw [HSZ8.out]; omega)
          have HLE := Lib.hid (show (es.length + 1) * 8 ≤ 140737488355328 by have h1 := hln.out.2.2.2.1 ⟨k2, k3, nm0, es⟩ List.mem_cons_self; have h2 : es.length ≤ i := h1; omega)
          have HS1 := Lib.hid s1
          have HS2 := Lib.hid s2
          have HS3 := Lib.hid s3
          have HS4 := Lib.hid s4
          have HS5' := Lib.hid s5
          have HS6 := Lib.hid s6
          have HS7 := Lib.hid s7
          have x0 : (w8.alloc (.cells #[.string nm, .string v] 65 (0, 0))).cell? ⟨g6, rsl.length, none⟩ = some (.pointer (some ⟨k2, 0, none⟩)) := pw_cell_below HW1.out y6
          have x1 : (w8.alloc (.cells #[.string nm, .string v] 65 (0, 0))).cell? ⟨k2, 1, none⟩ = some (.slice AE es.length cE) := pw_cell_below HW1.out yE
          have x2 : (w8.alloc (.cells #[.string nm, .string v] 65 (0, 0))).cell? ⟨wr.heap.size, 1, none⟩ = some (.string nm) := pw_cell_below HW1.out y1
          have x3 : (w8.alloc (.cells #[.string nm, .string v] 65 (0, 0))).cell? ⟨wr.heap.size, 2, none⟩ = some (.string v) := pw_cell_below HW1.out y2
          have z0 : ((w8.alloc (.cells #[.string nm, .string v] 65 (0, 0))).alloc (.cells #[.pointer (some ⟨w8.heap.size, 0, none⟩)] 63 (0, 0))).cell? ⟨g6, rsl.length, none⟩ = some (.pointer (some ⟨k2, 0, none⟩)) := pw_cell_below (below_alloc HW1.out _) y6
          have z1 : ((w8.alloc (.cells #[.string nm, .string v] 65 (0, 0))).alloc (.cells #[.pointer (some ⟨w8.heap.size, 0, none⟩)] 63 (0, 0))).cell? ⟨k2, 1, none⟩ = some (.slice AE es.length cE) := pw_cell_below (below_alloc HW1.out _) yE
          have z2 : ((w8.alloc (.cells #[.string nm, .string v] 65 (0, 0))).alloc (.cells #[.pointer (some ⟨w8.heap.size, 0, none⟩)] 63 (0, 0))).cell? ⟨wr.heap.size, 1, none⟩ = some (.string nm) := pw_cell_below (below_alloc HW1.out _) y1
          have z3 : ((w8.alloc (.cells #[.string nm, .string v] 65 (0, 0))).alloc (.cells #[.pointer (some ⟨w8.heap.size, 0, none⟩)] 63 (0, 0))).cell? ⟨wr.heap.size, 2, none⟩ = some (.string v) := pw_cell_below (below_alloc HW1.out _) y2
          clear s1 s2 s3 s4 s5 s6 s7 hb08 hEO8
          refine wp_region_D (fun w' : World => w'.cell? ⟨g6, rsl.length, none⟩ = some (.pointer (some ⟨k2, 0, none⟩)) ∧ w'.cell? ⟨k2, 1, none⟩ = some (.slice AE es.length cE) ∧ w'.cell? ⟨wr.heap.size, 1, none⟩ = some (.string nm) ∧ w'.cell? ⟨wr.heap.size, 2, none⟩ = some (.string v)) 21 (by kernel_rfl) ?_
          have hS0 : (fun w' : World => w'.cell? ⟨g6, rsl.length, none⟩ = some (.pointer (some ⟨k2, 0, none⟩)) ∧ w'.cell? ⟨k2, 1, none⟩ = some (.slice AE es.length cE) ∧ w'.cell? ⟨wr.heap.size, 1, none⟩ = some (.string nm) ∧ w'.cell? ⟨wr.heap.size, 2, none⟩ = some (.string v)) w8.drew := ⟨y6, yE, y1, y2⟩
          refine wpAnyD_take (i := 0) (v := ?vz0) rfl (by kernel_rfl) (by kernel_rfl) (by kernel_rfl) (by kernel_rfl) (fun _ _ _ h => h) (Or.inl ⟨by rfl, ?hz0⟩) hS0 ?rz0
          case hz0 => (intro w hSw; (try dsimp only at hSw); obtain ⟨hS1, hS2, hS3, hS4⟩ := hSw; go_simp; try (with_reducible rfl))
          try simp only [Act.put, List.setIfInBounds_toArray, List.set_cons_zero, List.set_cons_succ]
          refine wpAnyD_take (i := 1) (v := ?vz1) rfl (by kernel_rfl) (by kernel_rfl) (by kernel_rfl) (by kernel_rfl) (fun _ _ _ h => h) (Or.inl ⟨by rfl, ?hz1⟩) hS0 ?rz1
          case hz1 => (intro w hSw; (try dsimp only at hSw); obtain ⟨hS1, hS2, hS3, hS4⟩ := hSw; go_simp; try (with_reducible rfl))
          try simp only [Act.put, List.setIfInBounds_toArray, List.set_cons_zero, List.set_cons_succ]
          refine wpAnyD_take (i := 2) (v := ?vz2) rfl (by kernel_rfl) (by kernel_rfl) (by kernel_rfl) (by kernel_rfl) (fun _ _ _ h => h) (Or.inl ⟨by rfl, ?hz2⟩) hS0 ?rz2
          case hz2 => (intro w hSw; (try dsimp only at hSw); obtain ⟨hS1, hS2, hS3, hS4⟩ := hSw; go_simp; try (with_reducible rfl))
          try simp only [Act.put, List.setIfInBounds_toArray, List.set_cons_zero, List.set_cons_succ]
          refine wpAnyD_take (i := 3) (v := ?vz3) rfl (by kernel_rfl) (by kernel_rfl) (by kernel_rfl) (by kernel_rfl) (fun _ _ _ h => h) (Or.inl ⟨by rfl, ?hz3⟩) hS0 ?rz3
          case hz3 => (intro w hSw; (try dsimp only at hSw); obtain ⟨hS1, hS2, hS3, hS4⟩ := hSw; go_simp; try (with_reducible rfl))
          try simp only [Act.put, List.setIfInBounds_toArray, List.set_cons_zero, List.set_cons_succ]
          refine wpAnyD_take (i := 4) (v := ?vz4) rfl (by kernel_rfl) (by kernel_rfl) (by kernel_rfl) (by kernel_rfl) (fun _ _ _ h => h) (Or.inl ⟨by rfl, ?hz4⟩) hS0 ?rz4
          case hz4 => (intro w hSw; (try dsimp only at hSw); obtain ⟨hS1, hS2, hS3, hS4⟩ := hSw; go_simp; try (with_reducible rfl))
          try simp only [Act.put, List.setIfInBounds_toArray, List.set_cons_zero, List.set_cons_succ]
          refine wpAnyD_take (i := 5) (v := ?vz5) rfl (by kernel_rfl) (by kernel_rfl) (by kernel_rfl) (by kernel_rfl) (fun _ _ _ h => h) (Or.inl ⟨by rfl, ?hz5⟩) hS0 ?rz5
          case hz5 => (intro w hSw; (try dsimp only at hSw); obtain ⟨hS1, hS2, hS3, hS4⟩ := hSw; go_simp; try (with_reducible rfl))
          try simp only [Act.put, List.setIfInBounds_toArray, List.set_cons_zero, List.set_cons_succ]
          refine wpAnyD_take (i := 6) (v := ?vz6) rfl (by kernel_rfl) (by kernel_rfl) (by kernel_rfl) (by kernel_rfl) (fun _ _ _ h => h) (Or.inl ⟨by rfl, ?hz6⟩) hS0 ?rz6
          case hz6 => (intro w hSw; (try dsimp only at hSw); obtain ⟨hS1, hS2, hS3, hS4⟩ := hSw; go_simp; try (with_reducible rfl))
          try simp only [Act.put, List.setIfInBounds_toArray, List.set_cons_zero, List.set_cons_succ]
          refine wpAnyD_take (i := 7) (v := ?vz7) rfl (by kernel_rfl) (by kernel_rfl) (by kernel_rfl) (by kernel_rfl) (fun _ _ _ h => h) (Or.inl ⟨by rfl, ?hz7⟩) hS0 ?rz7
          case hz7 => (intro w hSw; (try dsimp only at hSw); obtain ⟨hS1, hS2, hS3, hS4⟩ := hSw; go_simp; try (with_reducible rfl))
          try simp only [Act.put, List.setIfInBounds_toArray, List.set_cons_zero, List.set_cons_succ]
          refine wpAnyD_take (i := 8) (v := ?vz8) rfl (by kernel_rfl) (by kernel_rfl) (by kernel_rfl) (by kernel_rfl) (fun _ _ _ h => h) (Or.inl ⟨by rfl, ?hz8⟩) hS0 ?rz8
          case hz8 => (intro w hSw; (try dsimp only at hSw); obtain ⟨hS1, hS2, hS3, hS4⟩ := hSw; go_simp; try (with_reducible rfl))
          try simp only [Act.put, List.setIfInBounds_toArray, List.set_cons_zero, List.set_cons_succ]
          refine wpAnyD_take (i := 9) (v := ?vz9) rfl (by kernel_rfl) (by kernel_rfl) (by kernel_rfl) (by kernel_rfl) (fun _ _ _ h => h) (Or.inl ⟨by rfl, ?hz9⟩) hS0 ?rz9
          case hz9 => (intro w hSw; (try dsimp only at hSw); obtain ⟨hS1, hS2, hS3, hS4⟩ := hSw; go_simp; try (with_reducible rfl))
          try simp only [Act.put, List.setIfInBounds_toArray, List.set_cons_zero, List.set_cons_succ]
          refine wpAnyD_take (i := 10) (v := ?vz10) rfl (by kernel_rfl) (by kernel_rfl) (by kernel_rfl) (by kernel_rfl) (fun _ _ _ h => h) (Or.inl ⟨by rfl, ?hz10⟩) hS0 ?rz10
          case hz10 => (intro w hSw; (try dsimp only at hSw); obtain ⟨hS1, hS2, hS3, hS4⟩ := hSw; go_simp; try (with_reducible rfl))
          try simp only [Act.put, List.setIfInBounds_toArray, List.set_cons_zero, List.set_cons_succ]
          refine wpAnyD_take (i := 11) (v := ?vz11) rfl (by kernel_rfl) (by kernel_rfl) (by kernel_rfl) (by kernel_rfl) (fun _ _ _ h => h) (Or.inl ⟨by rfl, ?hz11⟩) hS0 ?rz11
          case hz11 => (intro w hSw; (try dsimp only at hSw); obtain ⟨hS1, hS2, hS3, hS4⟩ := hSw; go_simp; try (with_reducible rfl))
          try simp only [Act.put, List.setIfInBounds_toArray, List.set_cons_zero, List.set_cons_succ]
          refine wpAnyD_take (i := 12) (v := ?vz12) rfl (by kernel_rfl) (by kernel_rfl) (by kernel_rfl) (by kernel_rfl) (fun _ _ _ h => h) (Or.inl ⟨by rfl, ?hz12⟩) hS0 ?rz12
          case hz12 => (intro w hSw; (try dsimp only at hSw); obtain ⟨hS1, hS2, hS3, hS4⟩ := hSw; go_simp; try (with_reducible rfl))
          try simp only [Act.put, List.setIfInBounds_toArray, List.set_cons_zero, List.set_cons_succ]
          refine wpAnyD_take (i := 13) (v := ?vz13) rfl (by kernel_rfl) (by kernel_rfl) (by kernel_rfl) (by kernel_rfl) (fun _ _ _ h => h) (Or.inl ⟨by rfl, ?hz13⟩) hS0 ?rz13
          case hz13 => (intro w hSw; (try dsimp only at hSw); obtain ⟨hS1, hS2, hS3, hS4⟩ := hSw; go_simp; try (with_reducible rfl))
          try simp only [Act.put, List.setIfInBounds_toArray, List.set_cons_zero, List.set_cons_succ]
          refine wpAnyD_take (i := 14) (v := ?vz14) rfl (by kernel_rfl) (by kernel_rfl) (by kernel_rfl) (by kernel_rfl) (fun _ _ _ h => h) (Or.inl ⟨by rfl, ?hz14⟩) hS0 ?rz14
          case hz14 => (intro w hSw; (try dsimp only at hSw); obtain ⟨hS1, hS2, hS3, hS4⟩ := hSw; go_simp; try (with_reducible rfl))
          try simp only [Act.put, List.setIfInBounds_toArray, List.set_cons_zero, List.set_cons_succ]
          refine wpAnyD_one (i := 15) (by kernel_rfl) rfl (fun K hK => ?_)
          go_simp
          refine hK.out _ _ (Or.inr ⟨y6, yE, y1, y2⟩) (fun _ => ?_)
          clear hK K
          try simp only [Act.put, List.setIfInBounds_toArray, List.set_cons_zero, List.set_cons_succ]
          refine wpAnyD_one (i := 16) (by kernel_rfl) rfl (fun K hK => ?_)
          go_simp
          refine hK.out _ _ (Or.inr ⟨x0, x1, x2, x3⟩) (fun _ => ?_)
          clear hK K
          try simp only [Act.put, List.setIfInBounds_toArray, List.set_cons_zero, List.set_cons_succ]
          refine wpAnyD_one (i := 17) (by kernel_rfl) rfl (fun K hK => ?_)
          go_simp
          refine hK.out _ _ (Or.inr ⟨z0, z1, z2, z3⟩) (fun _ => ?_)
          clear hK K
          try simp only [Act.put, List.setIfInBounds_toArray, List.set_cons_zero, List.set_cons_succ]
          refine wpAnyD_one (i := 18) (by kernel_rfl) rfl (fun K hK => ?_)
          refine Kd.R_append_step pent (w0 := w0) (W := (w8.alloc (.cells #[.string nm, .string v] 65 (0, 0))).drew) w0.heap.size (by rfl) _ _ 57 63 (.pointer none) 8 (by rfl) Tryd.underlying57 info_pue rfl (by decide) (by decide) (.slice AE es.length cE) es (nm, v) [.pointer (some ⟨w8.heap.size, 0, none⟩)] (fun k => k = k3 ∨ lx ≤ k) (fun k => k = w8.heap.size) (by rfl) (by show _ = Value.slice (some ⟨_, 0, none⟩) 1 1; rw [HSZ8.out]; rfl) HME.out HOKE.out HFR.out HRE.out HBE.out HBS8.out HLE.out ?_
          intro v9 w9 ho9 hb9 hg9 hat
          have hk9 := blk_grown (show (w8.alloc (.cells #[.string nm, .string v] 65 (0, 0))).drew.heap[k2]? = _ from blk_below (show w8.heap[k2]? = _ from HS5'.out) (below_drew HW1.out)) hg9 (Kd.R_ne HRE.out (show (w8.alloc (.cells #[.string nm, .string v] 65 (0, 0))).drew.heap[k2]? = _ from blk_below (show w8.heap[k2]? = _ from HS5'.out) (below_drew HW1.out)) (by decide))
          have zk9 := (blk_cell hk9 1).trans rfl
          have zf9 := blk_frozen hk9 1
          have HSM := Lib.hid (show Same w8 w9 [63] from (Same.below (below_drew HW1.out) _).trans (Same.grown HRE.out hg9 hg9.size))
          have zg9 := cell_same HSM.out HB6.out (by decide) y6
          have zo1 := cell_same HSM.out HEO8.out (by decide) y1
          have zo2 := cell_same HSM.out HEO8.out (by decide) y2
          obtain ⟨A9, c9, rfl⟩ := Kd.R_slice ho9
          refine hK.out _ _ (Or.inr ⟨zg9, zk9, zo1, zo2⟩) (fun _ => ?_)
          clear hK K
          try simp only [Act.put, List.setIfInBounds_toArray, List.set_cons_zero, List.set_cons_succ]
          refine wpAnyD_one (i := 19) (by kernel_rfl) rfl (fun K hK => ?_)
          go_simp
          refine hK.out _ _ (Or.inr ⟨zg9, zk9, zo1, zo2⟩) (fun _ => ?_)
          clear hK K
          try simp only [Act.put, List.setIfInBounds_toArray, List.set_cons_zero, List.set_cons_succ]
          refine wpAnyD_one (i := 20) (by kernel_rfl) rfl (fun K hK => ?_)
          go_simp
          refine hK.out _ _ (Or.inr ⟨zg9, zk9, zo1, zo2⟩) (fun _ => ?_)
          clear hK K
          try simp only [Act.put, List.setIfInBounds_toArray, List.set_cons_zero, List.set_cons_succ]
          refine wpAnyD_one (i := 21) (by kernel_rfl) rfl (fun K hK => ?_)
          go_simp
          refine hK.out _ _ (Or.inl rfl) (fun _ => ?_)
          clear hK K
          try simp only [Act.put, List.setIfInBounds_toArray, List.set_cons_zero, List.set_cons_succ]
          refine wpAnyD_done (by kernel_rfl) ?_ _
          have hlen9 : (es ++ [(nm, v)]).length = es.length + 1 := by rw [List.length_append]; rfl
          have hSet : Same w9 (w9.setCell ⟨k2, 1, none⟩ (.slice A9 (es ++ [(nm, v)]).length c9)) [59] := Same.set hk9 _ _
          have hSame : Same w8 (w9.setCell ⟨k2, 1, none⟩ (.slice A9 (es ++ [(nm, v)]).length c9)) [59, 63] := (HSM.out.mono (by simp)).trans (hSet.mono (by simp))
          have hKp : Keeps w8 (w9.setCell ⟨k2, 1, none⟩ (.slice A9 (es ++ [(nm, v)]).length c9)) (· = k2) (fun k => (Value.slice AE es.length cE).ownBlock = some k) :=
            ⟨fun k cs hk hne => (Below.heap_setCell w9 ⟨k2, 1, none⟩ _ k hne).trans (HSM.out.2 k cs _ hk (by decide)),
             fun k cs T hk hT hno => (Below.heap_setCell w9 ⟨k2, 1, none⟩ _ k (ne_type hk (show w8.heap[k2]? = _ from HS5'.out) (by rcases hT with rfl | rfl <;> decide))).trans (blk_grown (show (w8.alloc (.cells #[.string nm, .string v] 65 (0, 0))).drew.heap[k]? = _ from blk_below hk (below_drew HW1.out)) hg9 (fun e => hno e.symm))⟩
          have he2 : (w9.setCell ⟨k2, 1, none⟩ (.slice A9 (es ++ [(nm, v)]).length c9)).heap[k2]? = some (.cells #[.string nm0, .slice A9 (es ++ [(nm, v)]).length c9] 59 (0, 0)) := by
            have h := hk9
            simp [World.setCell, Array.getElem?_modify, h]
          have HNEW := Lib.hid (DSt.entry (x := ⟨k2, k3, nm0, es⟩) (es := es ++ [(nm, v)]) HST2.out HS1.out HS2.out HS3.out HS4.out HS7.out HS5'.out (fun k hk => HS6.out.1 k hk) (HST2.out.lows _ List.mem_cons_self)
            (fun k hk k3' hk3' hH' => by
              have hlw := (HST2.out.lows ⟨k2, k3, nm0, es⟩ List.mem_cons_self).2
              have hlw : k3 < lo := hlw
              have h1 := HS1.out
              rcases HS6.out.1 k hk with e | e
              · have e : k = k3 := e; omega
              · omega)
            (fun k2' k3' s' hm => HBD.out k2' k3' s' (by
              have : Cel.opt s nm v :: cels.drop (i + 1) = cels.drop i := HDR.out.symm
              exact List.mem_of_mem_drop (by rw [← this]; exact List.mem_cons_of_mem _ hm)))
            (below_set hb9 (hln.out.2.2.2.2 _ List.mem_cons_self)) hSame.1 hSame hKp he2
            (Kd.R_mono (Kd.R_far (Kd.R_types ho9 hk9 (by decide)) (fun k hk => hk.2) _) (fun _ hk => hk.1)))
          rw [hlen9] at HNEW
          have HIX := Lib.hid (show _ ∧ _ from And.intro hlt hln.out)
          clear hlen9 hSet hSame hKp he2 hk9 ho9 hb9 hg9 hat zk9 zf9
          go_wp2_with fail
          go_roundg (cels.length - (i + 1))
          case measure => have := hi.out.2; omega
          case rel => exact ⟨i + 1, _, os ++ [(s, nm, v)], lo, by first | rfl | simp, Lib.hid ⟨hlt, Nat.le_refl _⟩, HNEW, Lib.hid ⟨hln.out.1, by have h1 := hln.out.2.1; have h2 : ((⟨k2, k3, nm0, es⟩ : SecSt) :: rsl).length = rsl.length + 1 := rfl; show rsl.length + 1 ≤ i + 1; omega, by rw [List.length_append]; have h1 := hln.out.2.2.1; show os.length + 1 ≤ i + 1; omega, fun x hx => by
              rcases List.mem_cons.1 hx with rfl | hx
              · show (es ++ [(nm, v)]).length ≤ i + 1
                have h1 : es.length ≤ i := hln.out.2.2.2.1 ⟨k2, k3, nm0, es⟩ List.mem_cons_self
                rw [List.length_append]
                show es.length + 1 ≤ i + 1
                omega
              · exact Nat.le_succ_of_le (hln.out.2.2.2.1 x (List.mem_cons_of_mem _ hx)), fun x hx => by
              rcases List.mem_cons.1 hx with rfl | hx
              · exact hln.out.2.2.2.2 ⟨k2, k3, nm0, es⟩ List.mem_cons_self
              · exact hln.out.2.2.2.2 x (List.mem_cons_of_mem _ hx)⟩, Lib.hid hdf.out⟩
    · -- the end of the loop
      have hie : i = cels.length := by have := hi.out.1; omega
      have hltI : ¬ (i : Int) < (cels.length : Int) := by omega
      have hdd : cels.drop i = [] := List.drop_eq_nil_of_le (by omega)
      have hdf2 := hdf.out
      rw [hdd] at hdf2
      obtain ⟨rfl, rfl⟩ := Prod.mk.inj (Option.some.inj hdf2)
      have x2 : wr.cell? (⟨p, 2, none⟩ : Addr) = some ev := hst.out.lex.c2
      clear hie hdd hdf2 hdf
      rcases HEV.out with ⟨hok, rfl⟩ | ⟨hok, T9, q9, rfl⟩
      all_goals
        go_wp2_with fail
        go_quiet (fail)
        go_wp2_with fail
        go_ret3
        have hrd := pw_below_drewN (Below.refl wr.heap.size wr) nq
        have hE := hst.out.below hrd
        have hsm : (rsl.map SecSt.sp).length = rsl.length := List.length_map ..
        rw [hsm]
        refine ⟨_, _, _, _, _, rfl, hE.base, ⟨rsl, H0, rfl, hE.r6, hE.secs⟩, hE.r7, ?_⟩
        first | exact .inl ⟨hok, rfl⟩ | exact .inr ⟨hok, _, _, rfl⟩
end Go.Proofs.YtlmmgienbmghmaaDoor.Lex
