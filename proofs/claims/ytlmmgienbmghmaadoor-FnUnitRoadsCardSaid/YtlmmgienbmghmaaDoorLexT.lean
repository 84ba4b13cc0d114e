/- bytes.TrimSpace at every slice of bytes, by hand: how long what it hands back is. (The two loops are turned from the kit's proof at ASCII; the ways out at a byte from 128 on go by the kit's bytes.TrimFunc.) -/
import Derived.Test.YtlmmgienbmghmaaDoorLexH
set_option linter.unusedVariables false
set_option linter.unusedSimpArgs false
namespace Go.Proofs.YtlmmgienbmghmaaDoor.Lex
open Go.RowKit Go.Proofs.YtlmmgienbmghmaaDoorW.PrintWords Go.Proofs.YtlmmgienbmghmaaDoorW.PrintLast Go.Proofs.YtlmmgienbmghmaaDoorW.PrintMore Go.Proofs.YtlmmgienbmghmaaDoor.GivU
/-- What the library's tables hold. -/
structure UTabs (W : World) : Prop where
  u8 : Lib.Utf8Tabs 3 4 W
  ws : Lib.WhiteTab 6 W
  ss : Lib.TabIs Tryd.prog W "strings.asciiSpace" .u8 Lib.asciiSpaceTab
  bs : Lib.TabIs Tryd.prog W "bytes.asciiSpace" .u8 Lib.asciiSpaceTab
theorem g_ss : Tryd.prog.globalNamed "strings.asciiSpace" = some 8 := by kernel_rfl
theorem g_bs : Tryd.prog.globalNamed "bytes.asciiSpace" = some 5 := by kernel_rfl
theorem tab_below {n : String} {g : Nat} {k : IntKind} {zs : List Int} {w w' : World} (hg : Tryd.prog.globalNamed n = some g) (h : Lib.TabIs Tryd.prog w n k zs) (hb : Below w.heap.size w w') : Lib.TabIs Tryd.prog w' n k zs := by
  unfold Lib.TabIs World.var? at h ⊢
  rw [hg] at h ⊢
  simp only [Option.bind_some] at h ⊢
  have hlt : g < w.heap.size := by
    rcases Nat.lt_or_ge g w.heap.size with h' | h'
    · exact h'
    · rw [Array.getElem?_eq_none h'] at h; cases h
  rw [hb.block g hlt]
  exact h
theorem UTabs.below {W W' : World} (h : UTabs W) (hb : Below W.heap.size W W') : UTabs W' := ⟨Utf8Tabs_below h.u8 hb, WhiteTab_below h.ws hb, tab_below g_ss h.ss hb, tab_below g_bs h.bs hb⟩
theorem space_grows (W : World) (h : UTabs W) : PredGrows Tryd.prog 79 #[] Lib.isSpaceR W := fun W2 x hx hb => by
  have := lib_unicode_IsSpace_any (x : Int) W2 (by omega) (by omega) (h.below hb).ws
  rw [Lib.isSpaceZ_nat] at this
  exact this
/-- How long bytes.TrimFunc's answer is. -/
def cutLen (s : ByteArray) : Nat := if Lib.idxFunc Lib.isSpaceR false s = -1 then 0 else Lib.rightEndF Lib.isSpaceR (s.extract (Lib.idxFunc Lib.isSpaceR false s).toNat s.size)
theorem trimCut_is (s : ByteArray) (b off cap : Nat) : ∃ A c, trimCut Lib.isSpaceR s b off cap = .slice A (cutLen s) c := by
  unfold trimCut cutLen
  split
  · exact ⟨_, _, rfl⟩
  · exact ⟨_, _, rfl⟩
def frontN (l : List UInt8) : Nat := (l.takeWhile Lib.isSp).length
def lastN (l : List UInt8) : Nat := l.length - 1 - (l.reverse.takeWhile Lib.isSp).length
/-- How long bytes.TrimSpace's answer is. -/
def tsLen (l : List UInt8) : Nat :=
  if frontN l = l.length then 0
  else if 128 ≤ (l.getD (frontN l) 0).toNat then cutLen ⟨(l.drop (frontN l)).toArray⟩
  else if 128 ≤ (l.getD (lastN l) 0).toNat then cutLen ⟨((l.drop (frontN l)).take (lastN l + 1 - frontN l)).toArray⟩
  else lastN l + 1 - frontN l
theorem tw_len (l : List UInt8) : ∀ (k : Nat), (∀ j, j < k → Lib.isSp (l.getD j 0) = true) → (∀ _ : k < l.length, Lib.isSp (l.getD k 0) = false) → k ≤ l.length → (l.takeWhile Lib.isSp).length = k := by
  induction l with
  | nil => intro k _ _ hk; simp at hk; simp [hk]
  | cons x l ih =>
    intro k h1 h2 hk
    cases k with
    | zero =>
      have := h2 (by simp)
      rw [List.getD_cons_zero] at this
      rw [List.takeWhile_cons, this]
      rfl
    | succ k =>
      have h0 := h1 0 (by omega)
      rw [List.getD_cons_zero] at h0
      rw [List.takeWhile_cons, h0]
      simp only [if_true, List.length_cons]
      rw [ih k (fun j hj => by have := h1 (j + 1) (by omega); rwa [List.getD_cons_succ] at this) (fun hl => by have := h2 (by simp; omega); rwa [List.getD_cons_succ] at this) (by simp at hk; omega)]
theorem frontN_eq {l : List UInt8} {k : Nat} (h1 : ∀ j, j < k → Lib.isSp (l.getD j 0) = true) (h2 : ∀ _ : k < l.length, Lib.isSp (l.getD k 0) = false) (hk : k ≤ l.length) : frontN l = k := tw_len l k h1 h2 hk
theorem getD_rev (l : List UInt8) (j : Nat) (hj : j < l.length) : l.reverse.getD j 0 = l.getD (l.length - 1 - j) 0 := by
  rw [List.getD_eq_getElem?_getD, List.getD_eq_getElem?_getD, List.getElem?_reverse hj]
theorem lastN_eq {l : List UInt8} {m : Nat} (hm : m < l.length) (h1 : Lib.isSp (l.getD m 0) = false) (h2 : ∀ j, m < j → j < l.length → Lib.isSp (l.getD j 0) = true) : lastN l = m := by
  unfold lastN
  rw [tw_len l.reverse (l.length - 1 - m) (fun j hj => by rw [getD_rev l j (by omega)]; exact h2 _ (by omega) (by omega)) (fun hl => by rw [getD_rev l _ (by omega), show l.length - 1 - (l.length - 1 - m) = m by omega]; exact h1) (by rw [List.length_reverse]; omega)]
  omega
theorem isSp_hi (x : UInt8) (h : 128 ≤ x.toNat) : Lib.isSp x = false := by
  cases hx : Lib.isSp x with
  | false => rfl
  | true =>
    exfalso
    unfold Lib.isSp at hx
    simp only [Bool.or_eq_true, beq_iff_eq] at hx
    rcases hx with ((((rfl | rfl) | rfl) | rfl) | rfl) | rfl <;> exact absurd h (by decide)
theorem get!_mk (l : List UInt8) (j : Nat) : (⟨l.toArray⟩ : ByteArray).get! j = l.getD j 0 := by
  show l.toArray[j]! = _
  rw [List.getElem!_toArray, List.getD_eq_getElem?_getD]
  rw [List.getElem!_eq_getElem?_getD]
  rfl
set_option maxHeartbeats 4000000 in
set_option maxRecDepth 100000 in
theorem trimSpace_is (W : World) (v : Value) (l : List UInt8) (h : IsBytes W v l) (hT : UTabs W) (hl : l.length ≤ 1000000) :
    Calls Tryd.prog 74 #[v] W fun e W' => ∃ A c, e = .returned (.slice A (tsLen l) c) ∧ Below W.heap.size W W' := by
  obtain ⟨A, c, rfl, hcp, hC⟩ := h
  rcases Nat.eq_zero_or_pos l.length with h0 | h0
  · have hn : l = [] := List.eq_nil_of_length_eq_zero h0
    subst hn
    have ht : tsLen [] = 0 := rfl
    rw [ht]
    clear hC hT hl h0
    go_enter Tryd.func74, Tryd.ntmps74
    go_wp2
    go_loopg [9] 0 (fun kq v9 w' => w' = W ∧ v9 = .int .i64 0)
    case atStart => exact ⟨rfl, rfl⟩
    case round =>
      obtain ⟨rfl, rfl⟩ := hrel
      go_wp2
      go_ret
      exact ⟨_, _, rfl, Below.refl _ _⟩
  obtain ⟨b, o, rfl, -⟩ := (bytesIn_of hC).at h0
  have hcell : ∀ i, i < l.length → W.cell? ⟨b, o + i, none⟩ = some (.int .u8 ((l.getD i 0).toNat : Nat)) := fun i hi => by
    obtain ⟨ad, e, hx⟩ := Kd.at_int hC (i : Int) (by omega) (by omega)
    injection e with e
    subst e
    rw [Int.toNat_natCast] at hx
    have : rd (l.map fun b => (b.toNat : Int)) (i : Int) = ((l.getD i 0).toNat : Int) := by
      unfold rd
      rw [Int.toNat_natCast, List.getD_eq_getElem?_getD, List.getElem?_map, List.getElem?_eq_getElem hi, List.getD_eq_getElem?_getD, List.getElem?_eq_getElem hi]
      rfl
    rw [this] at hx
    have e2 : (⟨b, o, none⟩ : Addr).add i = ⟨b, o + i, none⟩ := by simp [Addr.add]
    rw [e2] at hx
    exact hx
  have HC := Lib.hid hcell
  have HT := Lib.hid (fun q (hq : q < 256) => show W.cell? ⟨5, q, none⟩ = some (.int .u8 (if Lib.isSp (UInt8.ofNat q) then 1 else 0)) by rw [hT.bs.cell g_bs q (by rw [Lib.asciiSpaceTab_length]; exact hq), Lib.asciiSpaceTab_at q hq])
  have HTT := Lib.hid hT
  have hB : ∀ k m, k ≤ m → m ≤ l.length → BytesAt ⟨((l.drop k).take (m - k)).toArray⟩ b (o + k) W := fun k m hkm hml j hj => by
    have hj2 : j < m - k := by
      have : (⟨((l.drop k).take (m - k)).toArray⟩ : ByteArray).size = ((l.drop k).take (m - k)).length := rfl
      rw [this, List.length_take, List.length_drop] at hj
      omega
    rw [get!_mk, show o + k + j = o + (k + j) by omega, hcell (k + j) (by omega)]
    congr 3
    rw [List.getD_eq_getElem?_getD, List.getD_eq_getElem?_getD, List.getElem?_take, if_pos hj2, List.getElem?_drop]
  have HB := Lib.hid hB
  obtain ⟨n, hn⟩ : ∃ n, n = l.length := ⟨_, rfl⟩
  have HN := Lib.hid hn
  rw [← hn] at HC HB hcp h0 hl ⊢
  have hts : ∃ N, N = tsLen l := ⟨_, rfl⟩
  obtain ⟨N, hN⟩ := hts
  rw [← hN]
  have HNN := Lib.hid hN
  clear hC hT hcell hB hn hN
  go_enter Tryd.func74, Tryd.ntmps74
  go_wp2
  go_loopg [9, 0] n (fun kq i s0 w' => w' = W ∧ s0 = .slice (some ⟨b, o, none⟩) n c ∧ ∃ k : Nat, k ≤ n ∧ i = .int .i64 k ∧ Hid (n - k ≤ kq) ∧ Hid (∀ j, j < k → Lib.isSp (l.getD j 0) = true))
  case atStart => exact ⟨rfl, rfl, 0, Nat.zero_le _, rfl, Lib.hid (by omega), Lib.hid (fun j hj => absurd hj (Nat.not_lt_zero _))⟩
  case round =>
    obtain ⟨rfl, rfl, k, hk, rfl, hkq, hsp⟩ := hrel
    by_cases hkn : k < n
    · obtain ⟨x, hx⟩ : ∃ x, x = l.getD k 0 := ⟨_, rfl⟩
      have hc1 : wr.cell? ⟨b, o + k, none⟩ = some (.int .u8 (x.toNat : Nat)) := by rw [hx]; exact HC.out k hkn
      have HX := Lib.hid hx
      clear hx
      have hx2 := x.toNat_lt
      have hTx : wr.cell? ⟨5, x.toNat, none⟩ = some (.int .u8 (if Lib.isSp x then 1 else 0)) := by
        have := HT.out x.toNat hx2
        simpa using this
      by_cases h128 : 128 ≤ x.toNat
      · have f1 : (128 : Int) ≤ (x.toNat : Int) := by omega
        have hck : ¬ c = k := by omega
        have hkn2 : (k : Int) ≤ (n : Int) := by omega
        have hfr := Lib.hid (frontN_eq hsp.out (fun _ => by rw [← HX.out]; exact isSp_hi x h128) (by rw [← HN.out]; omega))
        have hb2 := HB.out k n (by omega) (Nat.le_refl _)
        have hsz : (⟨((l.drop k).take (n - k)).toArray⟩ : ByteArray).size = n - k := by
          show ((l.drop k).take (n - k)).length = _
          rw [List.length_take, List.length_drop, ← HN.out]; omega
        have hF := Any7.bytes_TrimFunc lays742 79 #[] (enters_of Tryd.func79 (by kernel_rfl) rfl) Lib.isSpaceR ⟨((l.drop k).take (n - k)).toArray⟩ b (o + k) (c - k) wr (by rw [hsz]; omega) (by rw [hsz]; omega) hb2 HTT.out.u8 (space_grows wr HTT.out)
        rw [hsz] at hF
        have HF := Lib.hid hF
        clear hF hb2 hsz hTx h128
        go_wp2_with fail
        refine HF.out.mono ?_
        rintro e9 W9 ⟨rfl, hb9⟩
        obtain ⟨A9, c9, h9⟩ := trimCut_is ⟨((l.drop k).take (n - k)).toArray⟩ b (o + k) (c - k)
        rw [h9]
        go_wp2_with fail
        go_ret
        have hv : N = cutLen ⟨((l.drop k).take (n - k)).toArray⟩ := by
          rw [HNN.out]
          unfold tsLen
          rw [hfr.out, if_neg (by rw [← HN.out]; omega), if_pos (by rw [← HX.out]; omega), List.take_of_length_le (by rw [List.length_drop, ← HN.out]; exact Nat.le_refl _)]
        try rw [hv]
        first | exact ⟨_, _, rfl, hb9⟩ | exact ⟨⟨_, _, rfl⟩, hb9⟩
      · have f1 : ¬ (128 : Int) ≤ (x.toNat : Int) := by omega
        have hkn3 : (k : Int) < (n : Int) := by omega
        cases hsx : Lib.isSp x with
        | true =>
          rw [hsx] at hTx
          simp only [if_true] at hTx
          have HSX := Lib.hid hsx
          have hkqo := hkq.out
          clear hsx h128 hk
          go_wp2
          go_roundg (n - (k + 1))
          case measure => omega
          case rel =>
            refine ⟨rfl, rfl, k + 1, by omega, by first | rfl | go_num | (congr 1; omega), Lib.hid (Nat.le_refl _), Lib.hid (fun j hj => ?_)⟩
            by_cases e : j = k
            · rw [e, ← HX.out]; exact HSX.out
            · exact hsp.out j (by omega)
        | false =>
          rw [hsx] at hTx
          simp only [Bool.false_eq_true, if_false] at hTx
          have HSX := Lib.hid hsx
          have hfr := Lib.hid (frontN_eq hsp.out (fun _ => by rw [← HX.out]; exact hsx) (by rw [← HN.out]; omega))
          have h128' := Lib.hid h128
          clear hsx h128
          have hck : ¬ c = k := by omega
          have hkn2 : (k : Int) ≤ (n : Int) := by omega
          go_wp2
          go_loopg [5] (n - k) (fun kj h5 w' => w' = wr ∧ ∃ m : Nat, m < n - k ∧ h5 = .int .i64 m ∧ Hid (m ≤ kj) ∧ Hid (∀ j, k + m < j → j < n → Lib.isSp (l.getD j 0) = true))
          case atStart => exact ⟨rfl, n - k - 1, by omega, by first | rfl | go_num | (congr 1; omega), Lib.hid (by omega), Lib.hid (fun j h1 h2 => by omega)⟩
          case round =>
            obtain ⟨rfl, m, hm, rfl, hmk, hsp2⟩ := hrel
            obtain ⟨y, hy⟩ : ∃ y, y = l.getD (k + m) 0 := ⟨_, rfl⟩
            have hc2 : wr.cell? ⟨b, o + k + m, none⟩ = some (.int .u8 (y.toNat : Nat)) := by rw [hy, Nat.add_assoc]; exact HC.out (k + m) (by omega)
            have HY := Lib.hid hy
            clear hy
            have hy2 := y.toNat_lt
            have hTy : wr.cell? ⟨5, y.toNat, none⟩ = some (.int .u8 (if Lib.isSp y then 1 else 0)) := by
              have := HT.out y.toNat hy2
              simpa using this
            have hmb : (m : Int) < ((n - k : Nat) : Int) := by omega
            have hmc : (m : Int) + 1 ≤ ((c - k : Nat) : Int) := by omega
            by_cases hy128 : 128 ≤ y.toNat
            · have f2 : (128 : Int) ≤ (y.toNat : Int) := by omega
              have hla := Lib.hid (lastN_eq (l := l) (m := k + m) (by rw [← HN.out]; omega) (by rw [← HY.out]; exact isSp_hi y hy128) (fun j h1 h2 => hsp2.out j h1 (by rw [HN.out]; exact h2)))
              have hb2 := HB.out k (k + m + 1) (by omega) (by omega)
              have hsz : (⟨((l.drop k).take (k + m + 1 - k)).toArray⟩ : ByteArray).size = m + 1 := by
                show ((l.drop k).take (k + m + 1 - k)).length = _
                rw [List.length_take, List.length_drop, ← HN.out]; omega
              have hF := Any7.bytes_TrimFunc lays742 79 #[] (enters_of Tryd.func79 (by kernel_rfl) rfl) Lib.isSpaceR ⟨((l.drop k).take (k + m + 1 - k)).toArray⟩ b (o + k) (c - k) wr (by rw [hsz]; omega) (by rw [hsz]; omega) hb2 HTT.out.u8 (space_grows wr HTT.out)
              rw [hsz] at hF
              have HF := Lib.hid hF
              clear hF hb2 hsz hTy hy128 hTx
              go_wp2_with fail
              refine HF.out.mono ?_
              rintro e9 W9 ⟨rfl, hb9⟩
              obtain ⟨A9, c9, h9⟩ := trimCut_is ⟨((l.drop k).take (k + m + 1 - k)).toArray⟩ b (o + k) (c - k)
              rw [h9]
              go_wp2_with fail
              go_ret
              have hv : N = cutLen ⟨((l.drop k).take (k + m + 1 - k)).toArray⟩ := by
                rw [HNN.out]
                unfold tsLen
                rw [hfr.out, hla.out, if_neg (by rw [← HN.out]; omega), if_neg (by rw [← HX.out]; exact h128'.out), if_pos (by rw [← HY.out]; omega)]
              try rw [hv]
              first | exact ⟨_, _, rfl, hb9⟩ | exact ⟨⟨_, _, rfl⟩, hb9⟩
            · have f2 : ¬ (128 : Int) ≤ (y.toNat : Int) := by omega
              cases hsy : Lib.isSp y with
              | true =>
                rw [hsy] at hTy
                simp only [if_true] at hTy
                have hm0 : 0 < m := by
                  rcases Nat.eq_zero_or_pos m with e | e
                  · subst e
                    have h1 := HY.out
                    rw [Nat.add_zero, ← HX.out] at h1
                    rw [h1, HSX.out] at hsy
                    cases hsy
                  · exact e
                have HSY := Lib.hid hsy
                have hmko := hmk.out
                clear hsy hy128
                go_wp2
                go_roundg (m - 1)
                case measure => omega
                case rel =>
                  refine ⟨rfl, m - 1, by omega, by first | rfl | go_num | (congr 1; omega), Lib.hid (Nat.le_refl _), Lib.hid (fun j h1 h2 => ?_)⟩
                  by_cases e : j = k + m
                  · rw [e, ← HY.out]; exact HSY.out
                  · exact hsp2.out j (by omega) h2
              | false =>
                rw [hsy] at hTy
                simp only [Bool.false_eq_true, if_false] at hTy
                have hla := Lib.hid (lastN_eq (l := l) (m := k + m) (by rw [← HN.out]; omega) (by rw [← HY.out]; exact hsy) (fun j h1 h2 => hsp2.out j h1 (by rw [HN.out]; exact h2)))
                have h128y := Lib.hid hy128
                clear hsy hy128
                go_wp2
                go_ret
                have hv : N = m + 1 := by
                  rw [HNN.out]
                  unfold tsLen
                  rw [hfr.out, hla.out, if_neg (by rw [← HN.out]; omega), if_neg (by rw [← HX.out]; exact h128'.out), if_neg (by rw [← HY.out]; exact h128y.out)]
                  omega
                try rw [hv]
                first | exact ⟨_, _, rfl, Below.refl _ _⟩ | exact ⟨⟨_, _, rfl⟩, Below.refl _ _⟩
    · have hke : k = n := by omega
      subst hke
      have hT0 : ¬ ((k : Int) < (k : Int)) := by omega
      have hv : N = 0 := by
        rw [HNN.out]
        unfold tsLen
        rw [frontN_eq hsp.out (fun h => by rw [← HN.out] at h; omega) (by rw [← HN.out]; exact Nat.le_refl _), if_pos HN.out]
      go_wp2
      go_ret
      try rw [hv]
      first | exact ⟨_, _, rfl, Below.refl _ _⟩ | exact ⟨⟨_, _, rfl⟩, Below.refl _ _⟩
end Go.Proofs.YtlmmgienbmghmaaDoor.Lex
