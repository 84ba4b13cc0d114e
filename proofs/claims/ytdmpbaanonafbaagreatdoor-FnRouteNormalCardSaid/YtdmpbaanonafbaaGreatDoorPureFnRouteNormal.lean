/- The pure law of /proc/net/route: what is read of a text is read of what is written anew of it. -/
import Derived.Test.YtdmpbaanonafbaaGreatDoorU4
import Derived.Test.YtdmpbaanonafbaaGreatDoorRtL
import Derived.Test.YtdmpbaanonafbaaGreatDoorTreesV
set_option linter.unusedVariables false
set_option linter.unusedSimpArgs false
namespace Go.Proofs.YtdmpbaanonafbaaGreatDoor.Pure
open Go.RowKit Go.Proofs.YtdmpbaanonafbaaGreatDoorW.PrintWords Go.Proofs.YtdmpbaanonafbaaGreatDoorW.PrintLast Go.Proofs.YtdmpbaanonafbaaGreatDoor.GivZ Go.Proofs.YtdmpbaanonafbaaGreatDoor.GivDec Go.Proofs.YtdmpbaanonafbaaGreatDoor.GivHex Go.Proofs.YtdmpbaanonafbaaGreatDoor.GivPW Go.Proofs.YtdmpbaanonafbaaGreatDoorPt Go.Proofs.YtdmpbaanonafbaaGreatDoor.E Go.Proofs.YtdmpbaanonafbaaGreatDoor.V Go.Proofs.YtdmpbaanonafbaaGreatDoor.L Go.Proofs.YtdmpbaanonafbaaGreatDoor.R Go.Proofs.YtdmpbaanonafbaaGreatDoor.U Go.Proofs.YtdmpbaanonafbaaGreatDoor.O Go.Proofs.YtdmpbaanonafbaaGreatDoor.Texts Go.Proofs.YtdmpbaanonafbaaGreatDoor.Trees Go.Proofs.YtdmpbaanonafbaaGreatDoor.HexT Go.Proofs.YtdmpbaanonafbaaGreatDoor.HexL Go.Proofs.YtdmpbaanonafbaaGreatDoor.RtL Go.Proofs.YtdmpbaanonafbaaGreatDoor.ScanL Go.Proofs.YtdmpbaanonafbaaGreatDoor.RtLine Go.Proofs.YtdmpbaanonafbaaGreatDoor.RtLoop Go.Proofs.YtdmpbaanonafbaaGreatDoor.DoorRt Go.Proofs.YtdmpbaanonafbaaGreatDoor.Upper Go.Proofs.YtdmpbaanonafbaaGreatDoor.Lives
set_option maxHeartbeats 8000000 in
theorem ifName_loop (s : ByteArray) (hs : s.size ≤ 100000) (d : Nat) : ∀ (i : Nat), i ≤ s.size → s.size - i = d →
    ∃ b, Ev (fun k => spec_ifName.l0 k s (s.size : Int) (i : Int)) b ∧ (b = true → (∀ c ∈ s.data.toList.drop i, c ≠ 42) ∧ s.size ≤ 15) := by
  have hlen := len_data s
  induction d with
  | zero =>
    intro i h1 hd
    have hi : i = s.size := by omega
    subst hi
    by_cases c1 : (s.size : Int) ≥ 1
    · refine ⟨_, Ev.step (f := fun _ => some (decide ((s.size : Int) ≤ 15))) (fun k => ?_) (Ev.now _), fun h => ⟨fun c hc => ?_, by have := of_decide_eq_true h; omega⟩⟩
      · simp only [spec_ifName.l0]
        rw [if_neg (by omega), if_pos c1]
      · rw [List.drop_of_length_le (by omega)] at hc; cases hc
    · refine ⟨false, Ev.step (f := fun _ => some false) (fun k => ?_) (Ev.now _), fun h => by cases h⟩
      simp only [spec_ifName.l0]
      rw [if_neg (by omega), if_neg c1]
  | succ d ih =>
    intro i h1 hd
    have hi : i < s.size := by omega
    obtain ⟨c, hc, hb, hg⟩ := drop_data s i hi
    obtain ⟨b, hE, hP⟩ := ih (i + 1) (by omega) (by omega)
    have hpre : ∀ k, spec_ifName.l0 (k + 1) s (s.size : Int) (i : Int) = (if (97 ≤ (c.toNat : Int) ∧ (c.toNat : Int) ≤ 122) ∨ (65 ≤ (c.toNat : Int) ∧ (c.toNat : Int) ≤ 90) ∨ (48 ≤ (c.toNat : Int) ∧ (c.toNat : Int) ≤ 57) ∨ (c.toNat : Int) = 46 ∨ (c.toNat : Int) = 45 ∨ (c.toNat : Int) = 95 then (spec_ifName.l0 k s (s.size : Int) ((i + 1 : Nat) : Int)) else (some false)) := by
      intro k
      simp only [spec_ifName.l0]
      rw [if_pos (show (i : Int) < (s.size : Int) by omega), if_pos (show (0 : Int) ≤ (i : Int) by omega), if_pos (show (i : Int) < (s.size : Int) by omega), hb, wrap_in (by omega) (by omega)]
      generalize hx : ((i : Int) + 1) = y
      have hy : ((i + 1 : Nat) : Int) = y := by omega
      rw [hy]
      generalize spec_ifName.l0 k s (s.size : Int) y = X
      generalize (c.toNat : Int) = z
      by_cases q : (97 ≤ z ∧ z ≤ 122) ∨ (65 ≤ z ∧ z ≤ 90) ∨ (48 ≤ z ∧ z ≤ 57) ∨ z = 46 ∨ z = 45 ∨ z = 95
      · rw [if_pos q]
        (repeat' split) <;> first | rfl | (exfalso; omega)
      · rw [if_neg q]
        (repeat' split) <;> first | rfl | (exfalso; omega)
    by_cases q : (97 ≤ (c.toNat : Int) ∧ (c.toNat : Int) ≤ 122) ∨ (65 ≤ (c.toNat : Int) ∧ (c.toNat : Int) ≤ 90) ∨ (48 ≤ (c.toNat : Int) ∧ (c.toNat : Int) ≤ 57) ∨ (c.toNat : Int) = 46 ∨ (c.toNat : Int) = 45 ∨ (c.toNat : Int) = 95
    · refine ⟨b, Ev.step hpre (Ev.congr (fun k => by rw [if_pos q]) hE), fun h => ⟨fun e he => ?_, (hP h).2⟩⟩
      rw [hc] at he
      rcases List.mem_cons.1 he with rfl | he
      · rintro rfl
        revert q
        decide
      · exact (hP h).1 e he
    · exact ⟨false, Ev.step hpre (Ev.congr (f := fun _ => some false) (fun k => by rw [if_neg q]) (Ev.now _)), fun h => by cases h⟩
theorem ifName_is (s : ByteArray) (hs : s.size ≤ 100000) : ∃ b, Ev (fun k => spec_ifName.f k s) b ∧ (b = true → (∀ c ∈ s.data.toList, c ≠ 42) ∧ s.size ≤ 15) := by
  obtain ⟨b, h1, h2⟩ := ifName_loop s hs s.size 0 (by omega) (by omega)
  exact ⟨b, h1, by simpa using h2⟩
/-- A row's common bounds. -/
structure RB (r : S48) : Prop where
  f0 : r.f0.size ≤ 100000
  f2 : r.f2 = []
  len : r.f1.length = 10
  val : ∀ v ∈ r.f1, 0 ≤ v ∧ v ≤ 18446744073709551615
structure FineR (r : S48) : Prop where
  star : ∀ c ∈ r.f0.data.toList, c ≠ 42
  size : r.f0.size ≤ 15
  small : ∀ v ∈ r.f1, v ≤ 4294967295
  flags : r.f1.getD 2 0 ≤ 9
def Fine (rows : List S48) : Prop := ∀ r ∈ rows, FineR r
theorem fine_loop (rows : List S48) (hl : rows.length ≤ 200000) (hb : ∀ r ∈ rows, RB r) (d : Nat) : ∀ (i : Nat), i ≤ rows.length → rows.length - i = d →
    ∃ b, Ev (fun k => spec_routeFine.l0 k rows (rows.length : Int) (i : Int)) b ∧ (b = true → ∀ r ∈ rows.drop i, FineR r) := by
  induction d with
  | zero =>
    intro i h1 hd
    refine ⟨true, Ev.step (f := fun _ => some true) (fun k => ?_) (Ev.now _), fun _ r hr => ?_⟩
    · simp only [spec_routeFine.l0]
      rw [if_neg (by omega)]
    · rw [List.drop_of_length_le (by omega)] at hr; cases hr
  | succ d ih =>
    intro i h1 hd
    have hi : i < rows.length := by omega
    have hx := hb _ (getD_mem rows z48 i hi)
    have hdr := drop_list rows z48 i hi
    have hrd : rd_T48 rows (i : Int) = rows.getD i z48 := by simp [rd_T48]
    obtain ⟨b, hE, hP⟩ := ih (i + 1) (by omega) (by omega)
    generalize rows.getD i z48 = x at hx hdr hrd
    have hxl := hx.len
    obtain ⟨b1, hI, hI2⟩ := ifName_is x.f0 hx.f0
    obtain ⟨b2, hC, hC2⟩ := counted_any x.f1 x.f0 x.f2 (by omega) 10 (by omega)
    have hrd2 : rd x.f1 2 = x.f1.getD 2 0 := rfl
    have hpre : ∀ k, spec_routeFine.l0 (k + 1) rows (rows.length : Int) (i : Int) = ((spec_ifName.f k x.f0).bind fun t103 => (if t103 = true then ((spec_counted.f k x.f0 x.f1 x.f2 10 32 0).bind fun t104 => (if t104 = true then (if x.f1.getD 2 0 > 9 then (some false) else (spec_routeFine.l0 k rows (rows.length : Int) ((i + 1 : Nat) : Int))) else (some false))) else (some false))) := by
      intro k
      simp only [spec_routeFine.l0]
      rw [if_pos (show (i : Int) < (rows.length : Int) by omega), if_pos (show (0 : Int) ≤ (i : Int) by omega), if_pos (show (i : Int) < (rows.length : Int) by omega), hrd, if_pos (show (2 : Int) < (x.f1.length : Int) by omega), hrd2, wrap_in (by omega) (by omega)]
      rfl
    cases b1 with
    | false => exact ⟨false, Ev.step hpre (Ev.bind hI (Ev.congr (f := fun _ => some false) (fun k => by rw [if_neg (by simp)]) (Ev.now _))), fun h => by cases h⟩
    | true =>
      cases b2 with
      | false => exact ⟨false, Ev.step hpre (Ev.bind hI (Ev.congr (fun k => by rw [if_pos rfl]) (Ev.bind hC (Ev.congr (f := fun _ => some false) (fun k => by rw [if_neg (by simp)]) (Ev.now _))))), fun h => by cases h⟩
      | true =>
        by_cases c9 : x.f1.getD 2 0 > 9
        · exact ⟨false, Ev.step hpre (Ev.bind hI (Ev.congr (fun k => by rw [if_pos rfl]) (Ev.bind hC (Ev.congr (f := fun _ => some false) (fun k => by rw [if_pos rfl, if_pos c9]) (Ev.now _))))), fun h => by cases h⟩
        · refine ⟨b, Ev.step hpre (Ev.bind hI (Ev.congr (fun k => by rw [if_pos rfl]) (Ev.bind hC (Ev.congr (fun k => by rw [if_pos rfl, if_neg c9]) hE)))), fun h r hr => ?_⟩
          rw [hdr] at hr
          rcases List.mem_cons.1 hr with rfl | hr
          · exact ⟨(hI2 rfl).1, (hI2 rfl).2, hC2 rfl, by omega⟩
          · exact hP h r hr
theorem fine_is (rows : List S48) (hl : rows.length ≤ 200000) (hb : ∀ r ∈ rows, RB r) : ∃ b, Ev (fun k => spec_routeFine.f k rows) b ∧ (b = true → Fine rows) := by
  obtain ⟨b, hE, h⟩ := fine_loop rows hl hb rows.length 0 (by omega) (by omega)
  exact ⟨b, hE, h⟩
/-- A word that the reference reads as number i of a row. -/
def SN (i : Nat) (x : List UInt8) (v : Int) : Prop := x ≠ [] ∧ 0 ≤ v ∧ v ≤ 18446744073709551615 ∧ (if i < 3 ∨ i = 6 then hexv 0 x = some v.toNat else decv 0 x = some v.toNat)
/-- A word that the program reads as number i of a row. -/
def W (i : Nat) (x : List UInt8) (v : Int) : Prop := x ≠ [] ∧ 0 ≤ v ∧ v ≤ 4294967295 ∧ (if base10 i = true then decv 0 x = some v.toNat else hexv 0 x = some v.toNat)
theorem w_of {i : Nat} {x : List UInt8} {v : Int} (h : SN i x v) (hv : v ≤ 4294967295) (h2 : i = 2 → v ≤ 9) : W i x v := by
  obtain ⟨a, b, c, d⟩ := h
  refine ⟨a, b, hv, ?_⟩
  by_cases q : i < 3 ∨ i = 6
  · rw [if_pos q] at d
    by_cases e : i = 2
    · subst e
      rw [if_pos (by decide)]
      exact hex_dec _ _ _ d (by have := h2 rfl; omega)
    · have hb : base10 i = false := by
        have : i = 0 ∨ i = 1 ∨ i = 6 := by omega
        rcases this with rfl | rfl | rfl <;> rfl
      rw [if_neg (by rw [hb]; simp)]
      exact d
  · rw [if_neg q] at d
    have hb : base10 i = true := by
      unfold base10
      simp
      omega
    rw [if_pos hb]
    exact d
theorem W.read {i : Nat} {x : List UInt8} {v : Int} (h : W i x v) (hl : x.length ≤ 100000) : strconv_ParseU.f (toB x) (if base10 i = true then 10 else 16) 32 = some (v, none) := by
  obtain ⟨a, b, c, d⟩ := h
  have h0 := List.length_pos_iff.2 a
  unfold strconv_ParseU.f
  rw [toB_size, toB_data, if_pos (by omega)]
  by_cases q : base10 i = true
  · rw [if_pos q] at d ⊢
    rw [if_neg (by decide), if_pos rfl, d, Option.bind_some, if_pos rfl]
    unfold lim
    rw [if_pos (by omega)]
    congr 2
    omega
  · rw [if_neg q] at d ⊢
    rw [if_pos rfl, d, Option.bind_some, if_pos rfl]
    unfold lim
    rw [if_pos (by omega)]
    congr 2
    omega
theorem read_inner (ws : List ByteArray) (hl : ws.length ≤ 200000) (hs : ∀ x ∈ ws, x.size ≤ 100000) (rows : List S48) (L : List ByteArray) (n i : Int) (e : ByteArray) (d : Nat) : ∀ (ns : List Int) (j : Nat), j ≤ ws.length → ws.length - j = d → ns.length = j → (∀ q, q < j → SN q (ws.getD q ByteArray.empty).data.toList (ns.getD q 0)) →
    (∃ ns' : List Int, ns'.length = ws.length ∧ (∀ q, q < ws.length → SN q (ws.getD q ByteArray.empty).data.toList (ns'.getD q 0)) ∧ ∀ res, Ev (fun k => if rows.length < 2199023255552 then (spec_RouteRead.l0 k (rows ++ [(⟨e, ns', ([] : List ByteArray)⟩ : S48)]) L n (wrap64 (i + 1))) else none) res → Ev (fun k => spec_RouteRead.l1 k rows L n i ws (ws.length : Int) (j : Int) e ns) res) ∨
    Ev (fun k => spec_RouteRead.l1 k rows L n i ws (ws.length : Int) (j : Int) e ns) (([] : List S48), false, 2) := by
  induction d with
  | zero =>
    intro ns j h1 hd hn ha
    refine .inl ⟨ns, by omega, fun q hq => ha q (by omega), fun res h => Ev.step (fun k => ?_) h⟩
    simp only [spec_RouteRead.l1]
    rw [if_neg (by omega)]
  | succ d ih =>
    intro ns j h1 hd hn ha
    have hj : j < ws.length := by omega
    have hmem := getD_mem ws ByteArray.empty j hj
    have hrd : rdOf ByteArray.empty ws (j : Int) = ws.getD j ByteArray.empty := by simp [rdOf]
    have hgo : ∀ v, SN j (ws.getD j ByteArray.empty).data.toList v → ∀ q, q < j + 1 → SN q (ws.getD q ByteArray.empty).data.toList ((ns ++ [v]).getD q 0) := by
      intro v hv q hq
      by_cases c : q = j
      · subst c
        have e1 : (ns ++ [v]).getD q 0 = v := by rw [List.getD_eq_getElem?_getD, List.getElem?_append_right (by omega), hn]; simp
        rw [e1]
        exact hv
      · have e1 : (ns ++ [v]).getD q 0 = ns.getD q 0 := by rw [List.getD_eq_getElem?_getD, List.getElem?_append_left (by omega), ← List.getD_eq_getElem?_getD]
        rw [e1]
        exact ha q (by omega)
    have hsx := hs _ hmem
    generalize hxx : ws.getD j ByteArray.empty = x at hrd hsx hgo
    have h4 : ∀ (base : Int) (k : Nat), spec_RouteRead.j4 (k + 1) rows x base L n i ws (ws.length : Int) (j : Int) e ns = ((spec_Number.f k x base).bind fun bt => (if bt.2 = true then (if base = 10 then ((spec_Text.f k bt.1).bind fun t129 => (if t129.toList = x.toList then (if ns.length < 17592186044416 then (spec_RouteRead.l1 k rows L n i ws (ws.length : Int) ((j + 1 : Nat) : Int) e (ns ++ [bt.1])) else (none)) else (some (([] : List (S48)), false, 2)))) else (if ns.length < 17592186044416 then (spec_RouteRead.l1 k rows L n i ws (ws.length : Int) ((j + 1 : Nat) : Int) e (ns ++ [bt.1])) else (none))) else (some (([] : List (S48)), false, 2)))) := by
      intro base k
      simp only [spec_RouteRead.j4]
      rw [wrap_in (by omega) (by omega)]
      rfl
    have hnext : ∀ v, SN j x.data.toList v → (∀ res, Ev (fun k => spec_RouteRead.l1 k rows L n i ws (ws.length : Int) ((j + 1 : Nat) : Int) e (ns ++ [v])) res → Ev (fun k => spec_RouteRead.l1 k rows L n i ws (ws.length : Int) (j : Int) e ns) res) →
        (∃ ns' : List Int, ns'.length = ws.length ∧ (∀ q, q < ws.length → SN q (ws.getD q ByteArray.empty).data.toList (ns'.getD q 0)) ∧ ∀ res, Ev (fun k => if rows.length < 2199023255552 then (spec_RouteRead.l0 k (rows ++ [(⟨e, ns', ([] : List ByteArray)⟩ : S48)]) L n (wrap64 (i + 1))) else none) res → Ev (fun k => spec_RouteRead.l1 k rows L n i ws (ws.length : Int) (j : Int) e ns) res) ∨
        Ev (fun k => spec_RouteRead.l1 k rows L n i ws (ws.length : Int) (j : Int) e ns) (([] : List S48), false, 2) := by
      intro v hv hgo2
      rcases ih (ns ++ [v]) (j + 1) (by omega) (by omega) (by rw [List.length_append, hn]; rfl) (hgo v hv) with ⟨ns', q1, q2, q3⟩ | h
      · exact .inl ⟨ns', q1, q2, fun res h => hgo2 _ (q3 res h)⟩
      · exact .inr (hgo2 _ h)
    have hto16 : (j < 3 ∨ j = 6) → ∀ res, Ev (fun k => spec_RouteRead.j4 k rows x 16 L n i ws (ws.length : Int) (j : Int) e ns) res → Ev (fun k => spec_RouteRead.l1 k rows L n i ws (ws.length : Int) (j : Int) e ns) res := by
      intro hc res h
      refine Ev.step (f := fun k => spec_RouteRead.j3 k rows x 10 L n i ws (ws.length : Int) (j : Int) true e ns) (fun k => ?_) (Ev.step (fun k => ?_) h)
      · simp only [spec_RouteRead.l1]
        rw [if_pos (show (j : Int) < (ws.length : Int) by omega), if_pos (show (0 : Int) ≤ (j : Int) by omega), if_pos (show (j : Int) < (ws.length : Int) by omega), hrd]
        by_cases c3 : (j : Int) < 3
        · rw [if_pos c3]
        · rw [if_neg c3, show ((j : Int) == 6) = true from by rw [beq_iff_eq]; omega]
      · simp only [spec_RouteRead.j3]
        rw [if_pos trivial]
    have hto10 : ¬ (j < 3 ∨ j = 6) → ∀ res, Ev (fun k => spec_RouteRead.j4 k rows x 10 L n i ws (ws.length : Int) (j : Int) e ns) res → Ev (fun k => spec_RouteRead.l1 k rows L n i ws (ws.length : Int) (j : Int) e ns) res := by
      intro hc res h
      refine Ev.step (f := fun k => spec_RouteRead.j3 k rows x 10 L n i ws (ws.length : Int) (j : Int) false e ns) (fun k => ?_) (Ev.step (fun k => ?_) h)
      · simp only [spec_RouteRead.l1]
        rw [if_pos (show (j : Int) < (ws.length : Int) by omega), if_pos (show (0 : Int) ≤ (j : Int) by omega), if_pos (show (j : Int) < (ws.length : Int) by omega), hrd, if_neg (show ¬ (j : Int) < 3 by omega), show ((j : Int) == 6) = false from by rw [beq_eq_false_iff_ne]; omega]
      · simp only [spec_RouteRead.j3]
        rw [if_neg (by simp)]
    by_cases hc : j < 3 ∨ j = 6
    · obtain ⟨v, ok, hD, v0, v1, hV⟩ := hex_ev x hsx
      cases ok with
      | false => exact .inr (hto16 hc _ (Ev.step (h4 16) (Ev.bind hD (Ev.congr (f := fun _ => some (([] : List S48), false, 2)) (fun k => by dsimp only; rw [if_neg (by simp)]) (Ev.now _)))))
      | true =>
        obtain ⟨q0, q1, q2, q3⟩ := hV rfl
        have hne : x.data.toList ≠ [] := by intro h; have := len_data x; rw [h] at this; simp at this; omega
        refine hnext v ⟨hne, q0, q1, by rw [if_pos hc]; exact q3⟩ (fun res h => hto16 hc _ (Ev.step (h4 16) (Ev.bind hD (Ev.congr (fun k => ?_) h))))
        dsimp only
        rw [if_pos rfl, if_neg (by decide), if_pos (by omega)]
    · obtain ⟨v, ok, hD, v0, v1, hV⟩ := dec_ev x hsx
      have hD' : Ev (fun k => spec_Number.f k x 10) (v, ok) := by
        obtain ⟨K, hK⟩ := hD
        refine ⟨K, fun k hk => ?_⟩
        have := hK k hk
        unfold spec_Dec.f at this
        obtain ⟨⟨a, b⟩, h1, h2⟩ := Option.bind_eq_some_iff.1 this
        obtain ⟨rfl, rfl⟩ := Prod.mk.inj (Option.some.inj h2)
        exact h1
      cases ok with
      | false => exact .inr (hto10 hc _ (Ev.step (h4 10) (Ev.bind hD' (Ev.congr (f := fun _ => some (([] : List S48), false, 2)) (fun k => by dsimp only; rw [if_neg (by simp)]) (Ev.now _)))))
      | true =>
        obtain ⟨q0, q1, q2, q3⟩ := hV rfl
        have hne : x.data.toList ≠ [] := by intro h; have := len_data x; rw [h] at this; simp at this; omega
        obtain ⟨t, hT, tS⟩ := text_ev v v0 v1
        by_cases ct : t.toList = x.toList
        · refine hnext v ⟨hne, q0, q1, by rw [if_neg hc]; exact q3⟩ (fun res h => hto10 hc _ (Ev.step (h4 10) (Ev.bind hD' (Ev.congr (f := fun k => (spec_Text.f k v).bind fun t129 => (if t129.toList = x.toList then (if ns.length < 17592186044416 then (spec_RouteRead.l1 k rows L n i ws (ws.length : Int) ((j + 1 : Nat) : Int) e (ns ++ [v])) else (none)) else (some (([] : List (S48)), false, 2)))) (fun k => ?_) (Ev.bind hT (Ev.congr (fun k => ?_) h))))))
          · dsimp only
            rw [if_pos rfl, if_pos rfl]
          · rw [if_pos ct, if_pos (by omega)]
        · refine .inr (hto10 hc _ (Ev.step (h4 10) (Ev.bind hD' (Ev.congr (f := fun k => (spec_Text.f k v).bind fun t129 => (if t129.toList = x.toList then (if ns.length < 17592186044416 then (spec_RouteRead.l1 k rows L n i ws (ws.length : Int) ((j + 1 : Nat) : Int) e (ns ++ [v])) else (none)) else (some (([] : List (S48)), false, 2)))) (fun k => ?_) (Ev.bind hT (Ev.congr (f := fun _ => some (([] : List S48), false, 2)) (fun k => ?_) (Ev.now _)))))))
          · dsimp only
            rw [if_pos rfl, if_pos rfl]
          · rw [if_neg ct]
/-- A row that is read off a line. -/
structure RowOf (x : ByteArray) (r : S48) : Prop where
  rb : RB r
  len : (wordsL x.data.toList).length = 11
  name : r.f0 = toB ((wordsL x.data.toList).getD 0 [])
  num : ∀ q, q < 10 → SN q ((wordsL x.data.toList).getD (q + 1) []) (r.f1.getD q 0)
theorem read_outer (L : List ByteArray) (hl : L.length ≤ 100000) (hs : ∀ x ∈ L, x.size ≤ 60000) (d : Nat) : ∀ (rows : List S48) (i : Nat), i ≤ L.length → L.length - i = d → rows.length = i → all2 RowOf (L.take i) rows →
    ∃ (rows' : List S48) (ok : Bool) (told : Int), Ev (fun k => spec_RouteRead.l0 k rows L (L.length : Int) (i : Int)) (rows', ok, told) ∧ (told = 1 → ok = true ∧ all2 RowOf L rows' ∧ Fine rows' ∧ Ev (fun k => spec_routeFine.f k rows') true) := by
  induction d with
  | zero =>
    intro rows i h1 hd hn ha
    rw [List.take_of_length_le (by omega)] at ha
    obtain ⟨b, hF, hB⟩ := fine_is rows (by omega) (all2_right (fun x y h => h.rb) _ _ ha)
    have hpre : ∀ k, spec_RouteRead.l0 (k + 1) rows L (L.length : Int) (i : Int) = ((spec_routeFine.f k rows).bind fun t111 => ((spec_told.f t111).bind fun t112 => (some (rows, true, t112)))) := by
      intro k
      simp only [spec_RouteRead.l0]
      rw [if_neg (by omega)]
    cases b with
    | true => exact ⟨rows, true, 1, Ev.step hpre (Ev.bind hF (Ev.congr (f := fun _ => some (rows, true, 1)) (fun k => rfl) (Ev.now _))), fun _ => ⟨rfl, ha, hB rfl, hF⟩⟩
    | false => exact ⟨rows, true, 2, Ev.step hpre (Ev.bind hF (Ev.congr (f := fun _ => some (rows, true, 2)) (fun k => rfl) (Ev.now _))), fun h => by omega⟩
  | succ d ih =>
    intro rows i h1 hd hn ha
    have hi : i < L.length := by omega
    have hmem := hs _ (getD_mem L ByteArray.empty i hi)
    have hrd : rdOf ByteArray.empty L (i : Int) = L.getD i ByteArray.empty := by simp [rdOf]
    have htk : L.take (i + 1) = L.take i ++ [L.getD i ByteArray.empty] := by
      rw [List.take_add_one, List.getElem?_eq_getElem hi, List.getD_eq_getElem?_getD, List.getElem?_eq_getElem hi]
      rfl
    generalize L.getD i ByteArray.empty = x at hmem hrd htk
    have hFi := fields_ev x (by omega)
    have hw1 : ∀ w ∈ wordsL x.data.toList, w.length ≤ 60000 := by
      intro w hw
      have := (wordsGo_mem _ [] w hw).2.1
      rw [len_data] at this
      simp at this
      omega
    have hpre : ∀ k, spec_RouteRead.l0 (k + 1) rows L (L.length : Int) (i : Int) = ((spec_Fields.f k x).bind fun t114 => (if (t114.length : Int) = 11 then (if 0 < (t114.length : Int) then (if 1 ≤ (t114.length : Int) then ((some (t114.drop 1 : List ByteArray)).bind fun y119 => (spec_RouteRead.l1 k rows L (L.length : Int) (i : Int) y119 (y119.length : Int) 0 (rdOf ByteArray.empty t114 0) ([] : List Int))) else (none)) else (none)) else (some (([] : List (S48)), false, 2)))) := by
      intro k
      simp only [spec_RouteRead.l0]
      rw [if_pos (show (i : Int) < (L.length : Int) by omega), if_pos (show (0 : Int) ≤ (i : Int) by omega), if_pos (show (i : Int) < (L.length : Int) by omega), hrd]
    by_cases c11 : (wordsL x.data.toList).length = 11
    · have hl11 : (((wordsL x.data.toList).map toB).length : Int) = 11 := by rw [List.length_map]; omega
      have hdl : (((wordsL x.data.toList).map toB).drop 1).length = 10 := by rw [List.length_drop, List.length_map]; omega
      have hget : ∀ q, q < 10 → (((wordsL x.data.toList).map toB).drop 1).getD q ByteArray.empty = toB ((wordsL x.data.toList).getD (q + 1) []) := by
        intro q hq
        rw [List.getD_eq_getElem?_getD, List.getElem?_drop, List.getElem?_map, List.getD_eq_getElem?_getD, Nat.add_comm 1 q, List.getElem?_eq_getElem (show q + 1 < (wordsL x.data.toList).length by omega)]
        rfl
      have hn0 : rdOf ByteArray.empty ((wordsL x.data.toList).map toB) 0 = toB ((wordsL x.data.toList).getD 0 []) := by
        show ((wordsL x.data.toList).map toB).getD 0 ByteArray.empty = _
        rw [List.getD_eq_getElem?_getD, List.getElem?_map, List.getD_eq_getElem?_getD, List.getElem?_eq_getElem (show 0 < (wordsL x.data.toList).length by omega)]
        rfl
      have hin := read_inner (((wordsL x.data.toList).map toB).drop 1) (by omega) (fun y hy => by
        obtain ⟨w, hw, rfl⟩ := List.mem_map.1 (List.mem_of_mem_drop hy)
        rw [toB_size]
        have := hw1 w hw
        omega) rows L (L.length : Int) (i : Int) (rdOf ByteArray.empty ((wordsL x.data.toList).map toB) 0) 10 [] 0 (by omega) (by omega) rfl (fun q hq => absurd hq (Nat.not_lt_zero _))
      have hgo : ∀ res, Ev (fun k => spec_RouteRead.l1 k rows L (L.length : Int) (i : Int) (((wordsL x.data.toList).map toB).drop 1) ((((wordsL x.data.toList).map toB).drop 1).length : Int) ((0 : Nat) : Int) (rdOf ByteArray.empty ((wordsL x.data.toList).map toB) 0) ([] : List Int)) res → Ev (fun k => spec_RouteRead.l0 k rows L (L.length : Int) (i : Int)) res := fun res h =>
        Ev.step hpre (Ev.bind hFi (Ev.congr (fun k => by rw [if_pos hl11, if_pos (by omega), if_pos (by omega), Option.bind_some]; rfl) h))
      rcases hin with ⟨ns', q1, q2, q3⟩ | h
      · have hq : ∀ q, q < 10 → SN q ((wordsL x.data.toList).getD (q + 1) []) (ns'.getD q 0) := by
          intro q hq
          have := q2 q (by omega)
          rw [hget q hq, toB_data] at this
          exact this
        have hrow : RowOf x (⟨rdOf ByteArray.empty ((wordsL x.data.toList).map toB) 0, ns', ([] : List ByteArray)⟩ : S48) := by
          refine ⟨⟨?_, rfl, by show ns'.length = 10; omega, fun v hv => ?_⟩, c11, hn0, hq⟩
          · show (rdOf ByteArray.empty ((wordsL x.data.toList).map toB) 0).size ≤ 100000
            rw [hn0, toB_size]
            have := hw1 _ (getD_mem (wordsL x.data.toList) [] 0 (by omega))
            omega
          · obtain ⟨q, hq2, rfl⟩ := List.getElem_of_mem hv
            have hq3 : q < 10 := by have : q < ns'.length := hq2; omega
            have := hq q hq3
            rw [List.getD_eq_getElem?_getD (l := ns'), List.getElem?_eq_getElem hq2] at this
            exact ⟨this.2.1, this.2.2.1⟩
        obtain ⟨rows', ok, told, hE, hP⟩ := ih (rows ++ [(⟨rdOf ByteArray.empty ((wordsL x.data.toList).map toB) 0, ns', ([] : List ByteArray)⟩ : S48)]) (i + 1) (by omega) (by omega) (by rw [List.length_append, hn]; rfl) (by rw [htk]; exact all2_snoc _ _ _ _ ha hrow)
        refine ⟨rows', ok, told, hgo _ (q3 _ (Ev.congr (fun k => ?_) hE)), hP⟩
        rw [if_pos (by omega), wrap_in (by omega) (by omega)]
        rfl
      · exact ⟨[], false, 2, hgo _ h, fun h => by omega⟩
    · exact ⟨[], false, 2, Ev.step hpre (Ev.bind hFi (Ev.congr (f := fun _ => some (([] : List S48), false, 2)) (fun k => by rw [if_neg (by rw [List.length_map]; omega)]) (Ev.now _))), fun h => by omega⟩
/-- A line that is written of a row. -/
def LineOf (x : List UInt8) (r : S48) : Prop := ∃ (us : List (List UInt8)) (q : Nat), us.length = 10 ∧ x = joinT (List.replicate q 32) (r.f0.data.toList :: us) ∧ (∀ i, i < 10 → W i (us.getD i []) (r.f1.getD i 0)) ∧ (∀ u ∈ us, u ≠ [] ∧ u.length ≤ 20 ∧ ∀ c ∈ u, 33 ≤ c.toNat ∧ c.toNat ≤ 126)
theorem sz1 (c : UInt8) : (⟨#[c]⟩ : ByteArray).size = 1 := rfl
theorem print_line (x : S48) (hB : RB x) (hF : FineR x) (R : List S48) (i : Nat) (hi : i < R.length) (hR : R.length ≤ 100000) (hrd : rd_T48 R (i : Int) = x) (acc : ByteArray) (ha : acc.size ≤ 1000000000) :
    ∃ (ln : ByteArray), LineOf ln.data.toList x ∧ ln.size ≤ 900 ∧ ∀ res, Ev (fun k => spec_RoutePrint.l0 k (acc ++ (ln ++ (⟨#[10]⟩ : ByteArray))) R (R.length : Int) ((i + 1 : Nat) : Int)) res → Ev (fun k => spec_RoutePrint.l0 k acc R (R.length : Int) (i : Int)) res := by
  have hl := hB.len
  have hnm := hF.size
  have hv : ∀ q, q < 10 → 0 ≤ x.f1.getD q 0 ∧ x.f1.getD q 0 ≤ 4294967295 := fun q hq => by
    have hm := getD_mem x.f1 0 q (by omega)
    exact ⟨(hB.val _ hm).1, hF.small _ hm⟩
  obtain ⟨s0, hU0, z0, w0⟩ := upper_is (x.f1.getD 0 0) (hv 0 (by decide)).1 (hv 0 (by decide)).2 8 (by decide)
  replace hU0 : Ev (fun k => spec_upper.f k (rd x.f1 0) 8) s0 := hU0
  obtain ⟨s1, hU1, z1, w1⟩ := upper_is (x.f1.getD 1 0) (hv 1 (by decide)).1 (hv 1 (by decide)).2 8 (by decide)
  replace hU1 : Ev (fun k => spec_upper.f k (rd x.f1 1) 8) s1 := hU1
  obtain ⟨s2, hU2, z2, w2⟩ := upper_is (x.f1.getD 2 0) (hv 2 (by decide)).1 (hv 2 (by decide)).2 4 (by decide)
  replace hU2 : Ev (fun k => spec_upper.f k (rd x.f1 2) 4) s2 := hU2
  obtain ⟨s3, hU3, z3, w3⟩ := txt_is (x.f1.getD 3 0) (hv 3 (by decide)).1 (hv 3 (by decide)).2
  replace hU3 : Ev (fun k => spec_Text.f k (rd x.f1 3)) s3 := hU3
  obtain ⟨s4, hU4, z4, w4⟩ := txt_is (x.f1.getD 4 0) (hv 4 (by decide)).1 (hv 4 (by decide)).2
  replace hU4 : Ev (fun k => spec_Text.f k (rd x.f1 4)) s4 := hU4
  obtain ⟨s5, hU5, z5, w5⟩ := txt_is (x.f1.getD 5 0) (hv 5 (by decide)).1 (hv 5 (by decide)).2
  replace hU5 : Ev (fun k => spec_Text.f k (rd x.f1 5)) s5 := hU5
  obtain ⟨s6, hU6, z6, w6⟩ := upper_is (x.f1.getD 6 0) (hv 6 (by decide)).1 (hv 6 (by decide)).2 8 (by decide)
  replace hU6 : Ev (fun k => spec_upper.f k (rd x.f1 6) 8) s6 := hU6
  obtain ⟨s7, hU7, z7, w7⟩ := txt_is (x.f1.getD 7 0) (hv 7 (by decide)).1 (hv 7 (by decide)).2
  replace hU7 : Ev (fun k => spec_Text.f k (rd x.f1 7)) s7 := hU7
  obtain ⟨s8, hU8, z8, w8⟩ := txt_is (x.f1.getD 8 0) (hv 8 (by decide)).1 (hv 8 (by decide)).2
  replace hU8 : Ev (fun k => spec_Text.f k (rd x.f1 8)) s8 := hU8
  obtain ⟨s9, hU9, z9, w9⟩ := txt_is (x.f1.getD 9 0) (hv 9 (by decide)).1 (hv 9 (by decide)).2
  replace hU9 : Ev (fun k => spec_Text.f k (rd x.f1 9)) s9 := hU9
  obtain ⟨cat, hcat⟩ : ∃ cat : ByteArray, cat = ((((((((((((((((((((x.f0 ++ (⟨#[9]⟩ : ByteArray)) ++ s0) ++ (⟨#[9]⟩ : ByteArray)) ++ s1) ++ (⟨#[9]⟩ : ByteArray)) ++ s2) ++ (⟨#[9]⟩ : ByteArray)) ++ s3) ++ (⟨#[9]⟩ : ByteArray)) ++ s4) ++ (⟨#[9]⟩ : ByteArray)) ++ s5) ++ (⟨#[9]⟩ : ByteArray)) ++ s6) ++ (⟨#[9]⟩ : ByteArray)) ++ s7) ++ (⟨#[9]⟩ : ByteArray)) ++ s8) ++ (⟨#[9]⟩ : ByteArray)) ++ s9) := ⟨_, rfl⟩
  have hcs : cat.size ≤ 400 := by rw [hcat]; simp only [ByteArray.size_append, sz1]; omega
  have hcd : cat.data.toList = joinT [] (x.f0.data.toList :: [s0.data.toList, s1.data.toList, s2.data.toList, s3.data.toList, s4.data.toList, s5.data.toList, s6.data.toList, s7.data.toList, s8.data.toList, s9.data.toList]) := by
    rw [hcat]
    simp only [app_data, joinT]
    simp
  obtain ⟨ln, q, hLn, hL1, hL2⟩ := left_is 127 _ cat rfl (by omega) (by decide)
  replace hLn : Ev (fun k => spec_Left.f k cat 127) ln := hLn
  have hjt : ∀ (t : List UInt8) (ws : List (List UInt8)), ws ≠ [] → joinT [] ws ++ t = joinT t ws := by
    intro t ws
    induction ws with
    | nil => intro h; exact absurd rfl h
    | cons a ws ih =>
      intro _
      cases ws with
      | nil => simp [joinT]
      | cons b ws => rw [joinT, List.append_assoc, List.cons_append, ih (by simp), joinT]
  have hbyH : ∀ {u : List UInt8} {v : Int}, WH u v → u ≠ [] ∧ u.length ≤ 20 ∧ ∀ c ∈ u, 33 ≤ c.toNat ∧ c.toNat ≤ 126 := fun h => ⟨h.ne, h.len, hexv_bytes _ _ _ h.val⟩
  have hbyD : ∀ {u : List UInt8} {v : Int}, WD u v → u ≠ [] ∧ u.length ≤ 20 ∧ ∀ c ∈ u, 33 ≤ c.toNat ∧ c.toNat ≤ 126 := fun h => ⟨h.ne, h.len, decv_bytes _ _ _ h.val⟩
  have hWH : ∀ (i : Nat) {u : List UInt8}, base10 i = false → WH u (x.f1.getD i 0) → i < 10 → W i u (x.f1.getD i 0) := fun i u hb h hi => ⟨h.ne, h.lo, (hv i hi).2, by rw [if_neg (by rw [hb]; simp)]; exact h.val⟩
  have hWD : ∀ (i : Nat) {u : List UInt8}, base10 i = true → WD u (x.f1.getD i 0) → i < 10 → W i u (x.f1.getD i 0) := fun i u hb h hi => ⟨h.ne, h.lo, (hv i hi).2, by rw [if_pos hb]; exact h.val⟩
  have hW2 : W 2 s2.data.toList (x.f1.getD 2 0) := ⟨w2.ne, w2.lo, (hv 2 (by decide)).2, by rw [if_pos (by decide)]; exact hex_dec _ _ _ w2.val (by have := hF.flags; omega)⟩
  refine ⟨ln, ⟨[s0.data.toList, s1.data.toList, s2.data.toList, s3.data.toList, s4.data.toList, s5.data.toList, s6.data.toList, s7.data.toList, s8.data.toList, s9.data.toList], q, rfl, ?_, fun j hj => ?_, fun u hu => ?_⟩, by omega, fun res h => ?_⟩
  · rw [hL1, hcd, hjt _ _ (by simp)]
  · have hj2 : j = 0 ∨ j = 1 ∨ j = 2 ∨ j = 3 ∨ j = 4 ∨ j = 5 ∨ j = 6 ∨ j = 7 ∨ j = 8 ∨ j = 9 := by omega
    rcases hj2 with rfl | rfl | rfl | rfl | rfl | rfl | rfl | rfl | rfl | rfl
    · exact hWH 0 rfl w0 (by decide)
    · exact hWH 1 rfl w1 (by decide)
    · exact hW2
    · exact hWD 3 rfl w3 (by decide)
    · exact hWD 4 rfl w4 (by decide)
    · exact hWD 5 rfl w5 (by decide)
    · exact hWH 6 rfl w6 (by decide)
    · exact hWD 7 rfl w7 (by decide)
    · exact hWD 8 rfl w8 (by decide)
    · exact hWD 9 rfl w9 (by decide)
  · simp only [List.mem_cons, List.not_mem_nil, or_false] at hu
    rcases hu with rfl | rfl | rfl | rfl | rfl | rfl | rfl | rfl | rfl | rfl
    · exact hbyH w0
    · exact hbyH w1
    · exact hbyH w2
    · exact hbyD w3
    · exact hbyD w4
    · exact hbyD w5
    · exact hbyH w6
    · exact hbyD w7
    · exact hbyD w8
    · exact hbyD w9
  · refine Ev.step (f := fun k => spec_RoutePrint.l0 (k + 1) acc R (R.length : Int) (i : Int)) (fun k => rfl) ?_
    simp only [spec_RoutePrint.l0, hrd]
    refine Ev.congr (fun k => if_pos (show (i : Int) < (R.length : Int) by omega)) ?_
    refine Ev.congr (fun k => if_pos (show (0 : Int) ≤ (i : Int) by omega)) ?_
    refine Ev.congr (fun k => if_pos (show (i : Int) < (R.length : Int) by omega)) ?_
    refine Ev.congr (fun k => if_pos (by omega)) ?_
    refine Ev.congr (fun k => if_pos (by omega)) ?_
    refine Ev.bind hU0 ?_
    refine Ev.congr (fun k => if_pos (by simp only [ByteArray.size_append, sz1]; omega)) ?_
    refine Ev.congr (fun k => if_pos (by simp only [ByteArray.size_append, sz1]; omega)) ?_
    refine Ev.congr (fun k => if_pos (by omega)) ?_
    refine Ev.bind hU1 ?_
    refine Ev.congr (fun k => if_pos (by simp only [ByteArray.size_append, sz1]; omega)) ?_
    refine Ev.congr (fun k => if_pos (by simp only [ByteArray.size_append, sz1]; omega)) ?_
    refine Ev.congr (fun k => if_pos (by omega)) ?_
    refine Ev.bind hU2 ?_
    refine Ev.congr (fun k => if_pos (by simp only [ByteArray.size_append, sz1]; omega)) ?_
    refine Ev.congr (fun k => if_pos (by simp only [ByteArray.size_append, sz1]; omega)) ?_
    refine Ev.congr (fun k => if_pos (by omega)) ?_
    refine Ev.bind hU3 ?_
    refine Ev.congr (fun k => if_pos (by simp only [ByteArray.size_append, sz1]; omega)) ?_
    refine Ev.congr (fun k => if_pos (by simp only [ByteArray.size_append, sz1]; omega)) ?_
    refine Ev.congr (fun k => if_pos (by omega)) ?_
    refine Ev.bind hU4 ?_
    refine Ev.congr (fun k => if_pos (by simp only [ByteArray.size_append, sz1]; omega)) ?_
    refine Ev.congr (fun k => if_pos (by simp only [ByteArray.size_append, sz1]; omega)) ?_
    refine Ev.congr (fun k => if_pos (by omega)) ?_
    refine Ev.bind hU5 ?_
    refine Ev.congr (fun k => if_pos (by simp only [ByteArray.size_append, sz1]; omega)) ?_
    refine Ev.congr (fun k => if_pos (by simp only [ByteArray.size_append, sz1]; omega)) ?_
    refine Ev.congr (fun k => if_pos (by omega)) ?_
    refine Ev.bind hU6 ?_
    refine Ev.congr (fun k => if_pos (by simp only [ByteArray.size_append, sz1]; omega)) ?_
    refine Ev.congr (fun k => if_pos (by simp only [ByteArray.size_append, sz1]; omega)) ?_
    refine Ev.congr (fun k => if_pos (by omega)) ?_
    refine Ev.bind hU7 ?_
    refine Ev.congr (fun k => if_pos (by simp only [ByteArray.size_append, sz1]; omega)) ?_
    refine Ev.congr (fun k => if_pos (by simp only [ByteArray.size_append, sz1]; omega)) ?_
    refine Ev.congr (fun k => if_pos (by omega)) ?_
    refine Ev.bind hU8 ?_
    refine Ev.congr (fun k => if_pos (by simp only [ByteArray.size_append, sz1]; omega)) ?_
    refine Ev.congr (fun k => if_pos (by simp only [ByteArray.size_append, sz1]; omega)) ?_
    refine Ev.congr (fun k => if_pos (by omega)) ?_
    refine Ev.bind hU9 ?_
    refine Ev.congr (fun k => if_pos (by simp only [ByteArray.size_append, sz1]; omega)) ?_
    rw [← hcat]
    refine Ev.bind hLn ?_
    refine Ev.congr (fun k => if_pos (by omega)) ?_
    refine Ev.congr (fun k => if_pos (by simp only [ByteArray.size_append, sz1]; omega)) ?_
    rw [wrap_in (by omega) (by omega)]
    exact h
def hline : List UInt8 := [73, 102, 97, 99, 101, 9, 68, 101, 115, 116, 105, 110, 97, 116, 105, 111, 110, 9, 71, 97, 116, 101, 119, 97, 121, 32, 9, 70, 108, 97, 103, 115, 9, 82, 101, 102, 67, 110, 116, 9, 85, 115, 101, 9, 77, 101, 116, 114, 105, 99, 9, 77, 97, 115, 107, 9, 9, 77, 84, 85, 9, 87, 105, 110, 100, 111, 119, 9, 73, 82, 84, 84, 32, 32, 32, 32, 32, 32, 32, 32, 32, 32, 32, 32, 32, 32, 32, 32, 32, 32, 32, 32, 32, 32, 32, 32, 32, 32, 32, 32, 32, 32, 32, 32, 32, 32, 32, 32, 32, 32, 32, 32, 32, 32, 32, 32, 32, 32, 32, 32, 32, 32, 32, 32, 32, 32, 32]
theorem print_outer (R : List S48) (hl : R.length ≤ 100000) (hb : ∀ r ∈ R, RB r) (hf : Fine R) (pre : List UInt8) (d : Nat) : ∀ (acc : ByteArray) (ls : List (List UInt8)) (i : Nat), i ≤ R.length → R.length - i = d → acc.data.toList = pre ++ (ls.flatMap fun x => x ++ [10]) → acc.size ≤ 1000 + i * 1000 → all2 LineOf ls (R.take i) →
    ∃ (s : ByteArray) (ls' : List (List UInt8)), Ev (fun k => spec_RoutePrint.l0 k acc R (R.length : Int) (i : Int)) (s, 1) ∧ s.data.toList = pre ++ (ls'.flatMap fun x => x ++ [10]) ∧ all2 LineOf ls' R := by
  induction d with
  | zero =>
    intro acc ls i h1 hd ha hs h8
    rw [List.take_of_length_le (by omega)] at h8
    refine ⟨acc, ls, Ev.step (f := fun _ => some (acc, 1)) (fun k => ?_) (Ev.now _), ha, h8⟩
    simp only [spec_RoutePrint.l0]
    rw [if_neg (by omega)]
  | succ d ih =>
    intro acc ls i h1 hd ha hs h8
    have hi : i < R.length := by omega
    have hmem := getD_mem R z48 i hi
    have hrd : rd_T48 R (i : Int) = R.getD i z48 := by simp [rd_T48]
    have htk : R.take (i + 1) = R.take i ++ [R.getD i z48] := by
      rw [List.take_add_one, List.getElem?_eq_getElem hi, List.getD_eq_getElem?_getD, List.getElem?_eq_getElem hi]
      rfl
    have hi2 : i * 1000 ≤ 100000 * 1000 := Nat.mul_le_mul_right _ (by omega)
    obtain ⟨ln, hL, hz, hgo⟩ := print_line _ (hb _ hmem) (hf _ hmem) R i hi hl hrd acc (by omega)
    obtain ⟨nl, hnl⟩ : ∃ nl : ByteArray, nl = (⟨#[10]⟩ : ByteArray) := ⟨_, rfl⟩
    have hnd : nl.data.toList = [10] := by rw [hnl]
    have hns : nl.size = 1 := by rw [← len_data, hnd]; rfl
    rw [← hnl] at hgo
    obtain ⟨s, ls', hE, r1, r2⟩ := ih (acc ++ (ln ++ nl)) (ls ++ [ln.data.toList]) (i + 1) (by omega) (by omega) (by rw [app_data, app_data, ha, hnd]; simp) (by rw [ByteArray.size_append, ByteArray.size_append, hns]; omega) (by rw [htk]; exact all2_snoc _ _ _ _ h8 hL)
    exact ⟨s, ls', hgo _ hE, r1, r2⟩
set_option maxRecDepth 100000 in
theorem print_is (R : List S48) (hl : R.length ≤ 100000) (hb : ∀ r ∈ R, RB r) (hf : Fine R) (hF : Ev (fun k => spec_routeFine.f k R) true) : ∃ (s : ByteArray) (ls : List (List UInt8)), Ev (fun k => spec_RoutePrint.f k R) (s, 1) ∧ s.data.toList = (hline ++ [10]) ++ (ls.flatMap fun x => x ++ [10]) ∧ all2 LineOf ls R := by
  obtain ⟨s, ls, hE, h1, h2⟩ := print_outer R hl hb hf (hline ++ [10]) R.length (⟨#[73, 102, 97, 99, 101, 9, 68, 101, 115, 116, 105, 110, 97, 116, 105, 111, 110, 9, 71, 97, 116, 101, 119, 97, 121, 32, 9, 70, 108, 97, 103, 115, 9, 82, 101, 102, 67, 110, 116, 9, 85, 115, 101, 9, 77, 101, 116, 114, 105, 99, 9, 77, 97, 115, 107, 9, 9, 77, 84, 85, 9, 87, 105, 110, 100, 111, 119, 9, 73, 82, 84, 84, 32, 32, 32, 32, 32, 32, 32, 32, 32, 32, 32, 32, 32, 32, 32, 32, 32, 32, 32, 32, 32, 32, 32, 32, 32, 32, 32, 32, 32, 32, 32, 32, 32, 32, 32, 32, 32, 32, 32, 32, 32, 32, 32, 32, 32, 32, 32, 32, 32, 32, 32, 32, 32, 32, 32, 10]⟩ : ByteArray) [] 0 (by omega) (by omega) (by rfl) (by decide) (by rw [List.take_zero]; trivial)
  exact ⟨s, ls, Ev.bind hF (Ev.congr (fun k => by rw [if_pos rfl]; rfl) hE), h1, h2⟩
theorem all2_map {α β γ : Type} {P : α → γ → Prop} (f : β → γ) : ∀ (xs : List α) (ys : List β), all2 (fun x y => P x (f y)) xs ys → all2 P xs (ys.map f)
  | [], [], _ => trivial
  | x :: xs, y :: ys, h => ⟨h.1, all2_map f xs ys h.2⟩
  | [], _ :: _, h => h.elim
  | _ :: _, [], h => h.elim
theorem all2_of_get {α β : Type} {P : α → β → Prop} (a : α) (b : β) : ∀ (xs : List α) (ys : List β), xs.length = ys.length → (∀ i, i < xs.length → P (xs.getD i a) (ys.getD i b)) → all2 P xs ys
  | [], [], _, _ => trivial
  | x :: xs, y :: ys, hl, h => ⟨by simpa using h 0 (by simp), all2_of_get a b xs ys (by simpa using hl) (fun i hi => by simpa using h (i + 1) (by simpa using hi))⟩
  | [], _ :: _, hl, _ => by simp at hl
  | _ :: _, [], hl, _ => by simp at hl
theorem words_nb : ∀ (l cur x : List UInt8), x ∈ wordsGo cur l → (∀ c ∈ cur, c ≠ 32 ∧ c ≠ 9) → ∀ c ∈ x, c ≠ 32 ∧ c ≠ 9
  | [], cur, x, h, hc => by
    unfold wordsGo at h
    split at h
    · cases h
    · rw [List.mem_singleton.1 h]; exact hc
  | d :: cs, cur, x, h, hc => by
    unfold wordsGo at h
    by_cases hd : d = 32 ∨ d = 9
    · rw [if_pos hd] at h
      split at h
      · exact words_nb cs [] x h (fun c hc => by cases hc)
      · rcases List.mem_cons.1 h with rfl | h
        · exact hc
        · exact words_nb cs [] x h (fun c hc => by cases hc)
    · rw [if_neg hd] at h
      refine words_nb cs _ x h (fun c hc2 => ?_)
      rcases List.mem_append.1 hc2 with hc2 | hc2
      · exact hc c hc2
      · rw [List.mem_singleton.1 hc2]
        exact ⟨fun e => hd (.inl e), fun e => hd (.inr e)⟩
/-- What the program makes of a row. -/
def zOf (r : S48) : S133 := rowS r.f0 r.f1
theorem row_of {x : List UInt8} {r : S48} (hp : PlainL x) (hl : x.length ≤ 60000) (h11 : (wordsL x).length = 11) (hn : r.f0 = toB ((wordsL x).getD 0 [])) (hs : ∀ c ∈ r.f0.data.toList, c ≠ 42) (hlen : r.f1.length = 10) (hW : ∀ q, q < 10 → W q ((wordsL x).getD (q + 1) []) (r.f1.getD q 0)) : rtRow x = some (zOf r) := by
  have hwl : ∀ w ∈ wordsL x, w.length ≤ 100000 := fun w hw => by
    have := (wordsGo_mem _ [] w hw).2.1
    simp at this
    omega
  have hg : ∀ q, q < 11 → rdOf ByteArray.empty ((wordsL x).map toB) ((q : Nat) : Int) = toB ((wordsL x).getD q []) := by
    intro q hq
    show ((wordsL x).map toB).getD ((q : Int)).toNat ByteArray.empty = _
    rw [Int.toNat_natCast, List.getD_eq_getElem?_getD, List.getElem?_map, List.getD_eq_getElem?_getD, List.getElem?_eq_getElem (show q < (wordsL x).length by omega)]
    rfl
  have h0 : rdOf ByteArray.empty ((wordsL x).map toB) 0 = r.f0 := by rw [hn]; exact hg 0 (by decide)
  unfold rtRow zOf
  rw [fields_plain x hp (by omega), Option.bind_some, if_pos ⟨by rw [List.length_map]; exact h11, by
    rw [h0, toList_data]
    intro h
    exact hs 42 (by rw [h]; exact List.mem_cons_self) rfl⟩, h0]
  have hm : mapO (rtNum ((wordsL x).map toB)) (List.range 10) = some r.f1 := by
    refine mapO_of _ _ (all2_of_get (0 : Nat) (0 : Int) _ _ (by rw [List.length_range, hlen]) (fun i hi => ?_))
    rw [List.length_range] at hi
    have e : (List.range 10).getD i 0 = i := by rw [List.getD_eq_getElem?_getD, List.getElem?_range hi]; rfl
    rw [e]
    have hw := hW i hi
    unfold rtNum
    rw [hg (i + 1) (by omega), hw.read (hwl _ (getD_mem _ _ _ (by omega))), Option.bind_some, if_pos ⟨rfl, hw.2.1, hw.2.2.1⟩]
  rw [hm]
  rfl
theorem text_row {x : List UInt8} {r : S48} (hp : PlainL x) (hl : x.length ≤ 60000) (h : RowOf (toB x) r) (hf : FineR r) : rtRow x = some (zOf r) := by
  have h1 := h.len
  have h2 := h.name
  have h3 := h.num
  rw [toB_data] at h1 h2 h3
  refine row_of hp hl h1 h2 hf.star h.rb.len (fun q hq => w_of (h3 q hq) ?_ (fun e => ?_))
  · exact hf.small _ (getD_mem _ _ _ (by rw [h.rb.len]; exact hq))
  · subst e; exact hf.flags
/-- A name of printed signs. -/
def NameOk (r : S48) : Prop := r.f0.data.toList ≠ [] ∧ ∀ c ∈ r.f0.data.toList, 33 ≤ c.toNat ∧ c.toNat ≤ 126
theorem name_ok {x : List UInt8} {r : S48} (hp : PlainL x) (h : RowOf (toB x) r) : NameOk r := by
  have h1 := h.len
  have h2 := h.name
  rw [toB_data] at h1 h2
  have hm := getD_mem (wordsL x) [] 0 (by omega)
  have hw := wordsGo_mem x [] _ hm
  have hnb := words_nb x [] _ hm (fun c hc => by cases hc)
  unfold NameOk
  rw [h2, toB_data]
  refine ⟨hw.1, fun c hc => ?_⟩
  rcases hw.2.2 c hc with h3 | h3
  · cases h3
  · have h4 := hp c h3
    have h5 := hnb c hc
    refine ⟨?_, h4.1⟩
    by_cases c32 : c.toNat < 32
    · exact absurd (h4.2 c32) h5.2
    · have : c.toNat ≠ 32 := fun e => h5.1 (UInt8.toNat_inj.1 e)
      omega
theorem line_row {x : List UInt8} {r : S48} (h : LineOf x r) (hn : NameOk r) (hb : RB r) (hf : FineR r) : PlainL x ∧ (∀ b ∈ x, b ≠ 10) ∧ (x.length ≤ 60000 → rtRow x = some (zOf r)) := by
  obtain ⟨us, q, hu, rfl, hW, hby⟩ := h
  have hall : ∀ w ∈ r.f0.data.toList :: us, w ≠ [] ∧ ∀ c ∈ w, 33 ≤ c.toNat ∧ c.toNat ≤ 126 := by
    intro w hw
    rcases List.mem_cons.1 hw with rfl | hw
    · exact hn
    · exact ⟨(hby w hw).1, (hby w hw).2.2⟩
  have hc : ∀ c ∈ joinT (List.replicate q 32) (r.f0.data.toList :: us), c = 32 ∨ c = 9 ∨ (33 ≤ c.toNat ∧ c.toNat ≤ 126) := by
    intro c hc
    rcases joinT_bytes q _ c hc with h | h | ⟨w, hw, h⟩
    · exact .inl h
    · exact .inr (.inl h)
    · exact .inr (.inr ((hall w hw).2 c h))
  have hp : PlainL (joinT (List.replicate q 32) (r.f0.data.toList :: us)) := by
    intro c h
    rcases hc c h with rfl | rfl | h
    · decide
    · decide
    · exact ⟨h.2, fun h2 => by omega⟩
  refine ⟨hp, fun c h => ?_, fun hl => ?_⟩
  · rintro rfl
    rcases hc _ h with h | h | h
    · exact absurd h (by decide)
    · exact absurd h (by decide)
    · exact absurd h.1 (by decide)
  · have hws := words_joinT q (r.f0.data.toList :: us) (by simp) (fun w hw => ⟨(hall w hw).1, fun c h => ⟨by rintro rfl; exact absurd ((hall w hw).2 _ h).1 (by decide), by rintro rfl; exact absurd ((hall w hw).2 _ h).1 (by decide)⟩⟩)
    refine row_of hp hl (by rw [hws, List.length_cons, hu]) (by rw [hws]; exact (toB_of _).symm) hf.star hb.len (fun j hj => ?_)
    rw [hws]
    exact hW j hj
theorem rec_ok (x0 : ByteArray) (x1 x2 x3 x4 x5 x6 x7 x8 x9 x10 : Int) : ∃ ks, impl_Route_1_1.f x0 x1 x2 x3 x4 x5 x6 x7 x8 x9 x10 = some ((⟨#[]⟩ : ByteArray), 8, false, 0, 0, 0, (⟨#[]⟩ : ByteArray), ks) ∧ good 1 ks := by
  refine ⟨_, by simp [impl_Route_1_1.f, impl_procfsNetRouteLine.f]; rfl, ?_⟩
  refine ⟨by simp, ?_⟩
  intro x hx
  simp at hx
  rcases hx with rfl | rfl | rfl | rfl | rfl | rfl | rfl | rfl | rfl | rfl | rfl <;> rfl
theorem list_loop (zs : List S133) (hl : zs.length ≤ 200000) (d : Nat) : ∀ (out : List S35) (i k : Nat), i ≤ zs.length → zs.length - i = d → out.length = i → d < k → (∀ x ∈ out, good 1 x.f7) →
    ∃ more, procfs_NetRouteLine___NetRouteLine.l0 k zs (zs.length : Int) (i : Int) (⟨#[]⟩ : ByteArray) 6 false 0 0 0 (⟨#[]⟩ : ByteArray) out = some ((⟨#[]⟩ : ByteArray), 6, false, 0, 0, 0, (⟨#[]⟩ : ByteArray), more) ∧ more.length = zs.length ∧ ∀ x ∈ more, good 1 x.f7 := by
  induction d with
  | zero =>
    intro out i k h1 hd ho hk hg
    obtain ⟨k, rfl⟩ : ∃ m, k = m + 1 := ⟨k - 1, by omega⟩
    refine ⟨out, ?_, by omega, hg⟩
    simp only [procfs_NetRouteLine___NetRouteLine.l0]
    rw [if_neg (by omega)]
  | succ d ih =>
    intro out i k h1 hd ho hk hg
    obtain ⟨k, rfl⟩ : ∃ m, k = m + 1 := ⟨k - 1, by omega⟩
    obtain ⟨ks, hR, hG⟩ := rec_ok (rd_T133 zs (i : Int)).f0 (rd_T133 zs (i : Int)).f1 (rd_T133 zs (i : Int)).f2 (rd_T133 zs (i : Int)).f3 (rd_T133 zs (i : Int)).f4 (rd_T133 zs (i : Int)).f5 (rd_T133 zs (i : Int)).f6 (rd_T133 zs (i : Int)).f7 (rd_T133 zs (i : Int)).f8 (rd_T133 zs (i : Int)).f9 (rd_T133 zs (i : Int)).f10
    obtain ⟨more, hM, hL, hg2⟩ := ih (out ++ [(⟨(⟨#[]⟩ : ByteArray), 8, false, 0, 0, 0, (⟨#[]⟩ : ByteArray), ks⟩ : S35)]) (i + 1) k (by omega) (by omega) (by simp [ho]) (by omega) (fun x hx => by
      rcases List.mem_append.1 hx with hx | hx
      · exact hg x hx
      · rw [List.mem_singleton.1 hx]; exact hG)
    refine ⟨more, ?_, hL, hg2⟩
    simp only [procfs_NetRouteLine___NetRouteLine.l0]
    rw [if_pos (by omega), if_pos (by omega), if_pos (by omega), hR]
    simp only [Option.bind_some]
    rw [if_pos (by omega), wrap_in (by omega) (by omega)]
    exact hM
theorem door_val (zs : List S133) (hl : zs.length ≤ 200000) : ∃ more : List S35, good 2 more ∧ ∀ a0 : ByteArray, a0.size ≤ 40000 → runH rtRow a0.data.toList = some zs → impl_Route.f a0 = some ((⟨#[]⟩ : ByteArray), 6, false, 0, 0, 0, (⟨#[]⟩ : ByteArray), more, 0) := by
  obtain ⟨more, hM, hL, hg⟩ := list_loop zs hl zs.length [] 0 (zs.length + 1) (by omega) (by omega) rfl (by omega) (fun x hx => by cases hx)
  refine ⟨more, ⟨by omega, hg⟩, fun a0 ha hr => ?_⟩
  unfold impl_Route.f
  rw [if_pos (by omega), hr, Option.bind_some, if_pos (by omega)]
  have e : impl_Route_1.f (zs.length + 1) zs = some ((⟨#[]⟩ : ByteArray), 6, false, 0, 0, 0, (⟨#[]⟩ : ByteArray), more) := by
    unfold impl_Route_1.f procfs_NetRouteLine___NetRouteLine.f
    rw [show ((0 : Nat) : Int) = 0 from rfl] at hM
    rw [hM]
    rfl
  rw [e]
  rfl
set_option maxRecDepth 100000 in
theorem run_of (l : List UInt8) (rest : List UInt8) (hl : l = (hline ++ [10]) ++ rest) (rows : List S48) (hp : ∀ x ∈ linesL l, PlainL x) (hlen : l.length ≤ 60000) (h : all2 (fun x r => rtRow x = some (zOf r)) (linesL rest) rows) : runH rtRow l = some (rows.map zOf) := by
  have hls : linesL l = hline :: linesL rest := by
    rw [hl, List.append_assoc, List.singleton_append]
    unfold linesL
    rw [linesGo_app hline [] rest (by decide)]
    rfl
  unfold runH
  rw [if_pos (plain_fits hp hlen), hls]
  exact mapO_of _ _ (all2_map zOf _ _ h)
theorem rows_lines : ∀ (xs : List (List UInt8)) (rs : List S48), all2 RowOf (xs.map toB) rs → all2 (fun x r => RowOf (toB x) r) xs rs
  | [], [], _ => trivial
  | x :: xs, r :: rs, h => ⟨h.1, rows_lines xs rs h.2⟩
  | [], _ :: _, h => h.elim
  | _ :: _, [], h => h.elim
/-- What is told of a text: its rows, and what is written of them; the door answers the same tree of both. -/
def Told (a0 : ByteArray) (l : List S48) (ok : Bool) (told : Int) : Prop := told = 1 → ok = true ∧ ∃ s : ByteArray, Ev (fun k => spec_RoutePrint.f k l) (s, 1) ∧ ∃ more : List S35, good 2 more ∧
  impl_Route.f a0 = some ((⟨#[]⟩ : ByteArray), 6, false, 0, 0, 0, (⟨#[]⟩ : ByteArray), more, 0) ∧ (s.size ≤ 40000 → impl_Route.f s = some ((⟨#[]⟩ : ByteArray), 6, false, 0, 0, 0, (⟨#[]⟩ : ByteArray), more, 0))
set_option maxRecDepth 100000 in
theorem read_ev (a0 : ByteArray) (ha : a0.size ≤ 40000) : ∃ (l : List S48) (ok : Bool) (told : Int), Ev (fun k => spec_RouteRead.f k a0) (l, ok, told) ∧ Told a0 l ok told := by
  have hlen := len_data a0
  obtain ⟨pb, hPl, hPb⟩ := plain_ev a0 (by omega)
  obtain ⟨hdr, hhd⟩ : ∃ hdr : ByteArray, hdr = (⟨#[73, 102, 97, 99, 101, 9, 68, 101, 115, 116, 105, 110, 97, 116, 105, 111, 110, 9, 71, 97, 116, 101, 119, 97, 121, 32, 9, 70, 108, 97, 103, 115, 9, 82, 101, 102, 67, 110, 116, 9, 85, 115, 101, 9, 77, 101, 116, 114, 105, 99, 9, 77, 97, 115, 107, 9, 9, 77, 84, 85, 9, 87, 105, 110, 100, 111, 119, 9, 73, 82, 84, 84, 32, 32, 32, 32, 32, 32, 32, 32, 32, 32, 32, 32, 32, 32, 32, 32, 32, 32, 32, 32, 32, 32, 32, 32, 32, 32, 32, 32, 32, 32, 32, 32, 32, 32, 32, 32, 32, 32, 32, 32, 32, 32, 32, 32, 32, 32, 32, 32, 32, 32, 32, 32, 32, 32, 32, 10]⟩ : ByteArray) := ⟨_, rfl⟩
  have hhdd : hdr.data.toList = hline ++ [10] := by rw [hhd]; rfl
  have hhds : hdr.size = 128 := by rw [← len_data, hhdd]; rfl
  have hj0 : ∀ k b, spec_RouteRead.j0 (k + 1) a0 b = (if b = true then (some (([] : List (S48)), false, 2)) else (if 128 ≤ (a0.size : Int) then ((spec_Lines.f k (a0.extract 128 a0.size)).bind fun t108 => (spec_RouteRead.l0 k ([] : List (S48)) t108 (t108.length : Int) 0)) else (none))) := fun k b => by simp only [spec_RouteRead.j0]
  have hno : Ev (fun k => spec_RouteRead.j0 k a0 true) (([] : List S48), false, 2) := Ev.step (f := fun _ => some (([] : List S48), false, 2)) (fun k => by rw [hj0, if_pos rfl]) (Ev.now _)
  have hf0 : ∀ k, spec_RouteRead.f k a0 = (spec_Plain.f k a0).bind fun t106 => (if t106 = true then ((spec_Begins.f a0 hdr).bind fun t107 => (spec_RouteRead.j0 k a0 (!t107))) else (spec_RouteRead.j0 k a0 true)) := fun k => by rw [hhd]; rfl
  have hfe : ∀ res, Ev (fun k => (spec_Plain.f k a0).bind fun t106 => (if t106 = true then ((spec_Begins.f a0 hdr).bind fun t107 => (spec_RouteRead.j0 k a0 (!t107))) else (spec_RouteRead.j0 k a0 true))) res → Ev (fun k => spec_RouteRead.f k a0) res := fun res h => Ev.congr hf0 h
  cases pb with
  | false => exact ⟨[], false, 2, hfe _ (Ev.bind hPl (Ev.congr (fun k => by rw [if_neg (by simp)]) hno)), fun h => by omega⟩
  | true =>
    have hbg : spec_Begins.f a0 hdr = some (decide (128 ≤ a0.size) && ((a0.extract 0 128).toList == hdr.toList)) := by
      unfold spec_Begins.f
      rw [hhds]
      by_cases c : 128 ≤ a0.size
      · rw [if_pos (by omega), if_pos (by omega), if_pos (by omega), decide_eq_true c, Bool.true_and]
        rfl
      · rw [if_neg (by omega), decide_eq_false c, Bool.false_and]
    by_cases cb : (decide (128 ≤ a0.size) && ((a0.extract 0 128).toList == hdr.toList)) = true
    · rw [cb] at hbg
      rw [Bool.and_eq_true] at cb
      have hsz := of_decide_eq_true cb.1
      have hpre : a0.data.toList = (hline ++ [10]) ++ (a0.extract 128 a0.size).data.toList := by
        have h1 := beq_iff_eq.1 cb.2
        rw [toList_data, toList_data, hhdd, Lib.extract_data] at h1
        have h2 : (a0.data.toList.drop 128).take (a0.size - 128) = a0.data.toList.drop 128 := List.take_of_length_le (by rw [List.length_drop]; omega)
        rw [Lib.extract_data, h2, ← h1, List.drop_zero, Nat.sub_zero, List.take_append_drop]
      obtain ⟨rest, hrest⟩ : ∃ rest : ByteArray, rest = a0.extract 128 a0.size := ⟨_, rfl⟩
      rw [← hrest] at hpre
      have hrs : rest.size ≤ 40000 := by rw [hrest, ByteArray.size_extract]; omega
      have hrl := len_data rest
      have hplain := lines_plain (hPb rfl)
      have hrplain : ∀ x ∈ linesL rest.data.toList, PlainL x := lines_plain (fun c hc => hPb rfl c (by rw [hpre]; exact List.mem_append_right _ hc))
      have hL := lines_ev rest (by omega)
      have hc := linesGo_size rest.data.toList []
      have hm : ∀ x ∈ (linesL rest.data.toList).map toB, x.size ≤ 60000 := by
        intro x hx
        obtain ⟨w, hw, rfl⟩ := List.mem_map.1 hx
        have := linesGo_len _ [] w hw
        rw [toB_size]
        simp at this
        omega
      have hn : ((linesL rest.data.toList).map toB).length ≤ 40001 := by
        rw [List.length_map]
        unfold linesL
        omega
      obtain ⟨rows, ok, told, hE, hT⟩ := read_outer ((linesL rest.data.toList).map toB) (by omega) hm ((linesL rest.data.toList).map toB).length [] 0 (by omega) (by omega) rfl (by rw [List.take_zero]; trivial)
      refine ⟨rows, ok, told, hfe _ (Ev.bind hPl (Ev.congr (fun k => by rw [if_pos rfl, hbg, Option.bind_some]) (Ev.step (f := fun k => (spec_Lines.f k rest).bind fun t108 => (spec_RouteRead.l0 k ([] : List (S48)) t108 (t108.length : Int) 0)) (fun k => by rw [hj0, if_neg (by simp), if_pos (by omega), hrest]) (Ev.bind hL hE)))), fun ht => ?_⟩
      obtain ⟨h1, h2, h3, h4⟩ := hT ht
      have hrl2 := all2_len _ _ h2
      have hRB : ∀ r ∈ rows, RB r := all2_right (fun x y h => h.rb) _ _ h2
      have h2' := rows_lines _ _ h2
      have hlx : ∀ x ∈ linesL rest.data.toList, x.length ≤ 60000 := fun x hx => by
        have := linesGo_len _ [] x hx
        simp at this
        omega
      have hnm : ∀ r ∈ rows, NameOk r := by
        have := all2_mono (Q := fun x r => NameOk r) _ _ (fun x hx r _ h => name_ok (hrplain x hx) h) h2'
        exact all2_right (Q := NameOk) (fun x r h => h) _ _ this
      obtain ⟨s, ls, hS, hs1, hs2⟩ := print_is rows (by omega) hRB h3 h4
      obtain ⟨more, hg, hD⟩ := door_val (rows.map zOf) (by rw [List.length_map]; omega)
      refine ⟨h1, s, hS, more, hg, hD a0 ha (run_of _ rest.data.toList hpre rows hplain (by omega) (all2_mono _ _ (fun x hx r hr h => text_row (hrplain x hx) (hlx x hx) h (h3 r hr)) h2')), fun hsz2 => hD s hsz2 ?_⟩
      have hfac := all2_mono (Q := fun x r => (PlainL x ∧ (∀ b ∈ x, b ≠ 10)) ∧ (x.length ≤ 60000 → rtRow x = some (zOf r))) _ _ (fun x _ r hr h => ⟨⟨(line_row h (hnm r hr) (hRB r hr) (h3 r hr)).1, (line_row h (hnm r hr) (hRB r hr) (h3 r hr)).2.1⟩, (line_row h (hnm r hr) (hRB r hr) (h3 r hr)).2.2⟩) hs2
      have hf := all2_left (Q := fun x => PlainL x ∧ (∀ b ∈ x, b ≠ 10)) (fun x r h => h.1) _ _ hfac
      have hlin : linesL (ls.flatMap fun x => x ++ [10]) = ls := lines_flat ls (fun x hx => (hf x hx).2)
      have hslen := len_data s
      have hlall : linesL s.data.toList = hline :: ls := by
        rw [hs1, List.append_assoc, List.singleton_append]
        have e := hlin
        unfold linesL at e ⊢
        rw [linesGo_app hline [] _ (by decide), e]
        rfl
      refine run_of _ (ls.flatMap fun x => x ++ [10]) hs1 rows (by
        rw [hlall]
        intro x hx
        rcases List.mem_cons.1 hx with rfl | hx
        · unfold PlainL; decide
        · exact (hf x hx).1) (by omega) ?_
      rw [hlin]
      refine all2_mono _ _ (fun x hx r _ h => h.2 ?_) hfac
      have := linesGo_len s.data.toList [] x (by have : x ∈ linesL s.data.toList := by rw [hlall]; exact List.mem_cons_of_mem _ hx
                                                 exact this)
      simp at this
      omega
    · have cb2 : (decide (128 ≤ a0.size) && ((a0.extract 0 128).toList == hdr.toList)) = false := by simpa using cb
      rw [cb2] at hbg
      exact ⟨[], false, 2, hfe _ (Ev.bind hPl (Ev.congr (fun k => by rw [if_pos rfl, hbg, Option.bind_some]; rfl) hno)), fun h => by omega⟩
theorem normal_ev (a0 : ByteArray) : Ev (fun k => laws_normal__Route.f k a0) true := by
  by_cases c : (a0.size : Int) > 40000
  · exact Ev.congr (f := fun _ => some true) (fun k => by unfold laws_normal__Route.f; rw [if_pos c]) (Ev.now _)
  · obtain ⟨l, ok, told, hR, hprop⟩ := read_ev a0 (by omega)
    have hpre : ∀ (h : Ev (fun k => if told = 1 then (laws_normal__Route.j0 k a0 l (!ok)) else (laws_normal__Route.j0 k a0 l true)) true), Ev (fun k => laws_normal__Route.f k a0) true := fun h =>
      Ev.congr (fun k => by unfold laws_normal__Route.f; rw [if_neg c]) (Ev.bind hR h)
    by_cases ct : told = 1
    · obtain ⟨rfl, s, hPr, more, hg, hD1, hD2⟩ := hprop ct
      refine hpre (Ev.congr (f := fun k => laws_normal__Route.j0 k a0 l false) (fun k => by rw [if_pos ct]; rfl) (Ev.step (f := fun k => (spec_RoutePrint.f k l).bind fun bt139 => (if bt139.2 = 1 then (laws_normal__Route.j1 k a0 bt139.1 (decide ((bt139.1.size : Int) > 40000))) else (laws_normal__Route.j1 k a0 bt139.1 true))) (fun k => by simp only [laws_normal__Route.j0]; rw [if_neg (by simp)]) (Ev.bind hPr (Ev.congr (f := fun k => laws_normal__Route.j1 k a0 s (decide ((s.size : Int) > 40000))) (fun k => by dsimp only; rw [if_pos rfl]) ?_))))
      by_cases cs : (s.size : Int) > 40000
      · rw [decide_eq_true cs]
        refine Ev.step (f := fun _ => some true) (fun k => ?_) (Ev.now _)
        simp only [laws_normal__Route.j1]
        rw [if_pos trivial]
        rfl
      · rw [decide_eq_false cs]
        have hD3 := hD2 (by omega)
        obtain ⟨l', g', hN⟩ := toNode_ev 2 more hg
        obtain ⟨e1, he1⟩ : ∃ e : ByteArray, e = ⟨#[]⟩ := ⟨_, rfl⟩
        rw [← he1] at hD1 hD3
        have hS := same_ev 2 l' g' e1 6 false 0 0 0 e1
        refine Ev.step (f := fun k => (laws_toNode.f k e1 6 false 0 0 0 e1 more).bind fun bt166 => ((laws_toNode.f k e1 6 false 0 0 0 e1 more).bind fun bt176 => ((spec_SameNode.f k bt166.1 bt166.2.1 bt166.2.2.1 bt166.2.2.2.1 bt166.2.2.2.2.1 bt166.2.2.2.2.2.1 bt166.2.2.2.2.2.2.1 bt166.2.2.2.2.2.2.2 bt176.1 bt176.2.1 bt176.2.2.1 bt176.2.2.2.1 bt176.2.2.2.2.1 bt176.2.2.2.2.2.1 bt176.2.2.2.2.2.2.1 bt176.2.2.2.2.2.2.2).bind fun t186 => (if t186 = true then ((laws_lives.f).bind fun t187 => (some t187)) else (none))))) (fun k => ?_) (Ev.bind (hN e1 6 false 0 0 0 e1) (Ev.bind (hN e1 6 false 0 0 0 e1) (Ev.bind hS (Ev.now _))))
        simp only [laws_normal__Route.j1]
        rw [if_neg (by simp), hD1, hD3]
        simp only [Option.bind_some]
        rw [if_pos trivial, if_pos trivial]
    · refine hpre (Ev.congr (f := fun k => laws_normal__Route.j0 k a0 l true) (fun k => by rw [if_neg ct]) (Ev.step (f := fun _ => some true) (fun k => ?_) (Ev.now _)))
      simp only [laws_normal__Route.j0]
      rw [if_pos trivial]
      rfl
theorem FnRouteNormal : laws_FnRouteNormal.Pure := by
  intro a0 ha
  obtain ⟨K, hK⟩ := normal_ev a0
  refine ⟨K, ?_⟩
  unfold laws_FnRouteNormal.f
  by_cases c : (a0.size : Int) > 2147483647
  · rw [if_pos c]
  · rw [if_neg c, show laws_normal__Route.f K a0 = some true from hK K (Nat.le_refl _)]
    rfl
end Go.Proofs.YtdmpbaanonafbaaGreatDoor.Pure
