/- The pure law of /proc/net/stat/nf_conntrack: what is read of a text is read of what is written anew of it. -/
import Derived.Test.YtdmpbaanonafbaaGreatDoorJ3
import Derived.Test.YtdmpbaanonafbaaGreatDoorHexL
import Derived.Test.YtdmpbaanonafbaaGreatDoorTreesV
set_option linter.unusedVariables false
set_option linter.unusedSimpArgs false
namespace Go.Proofs.YtdmpbaanonafbaaGreatDoor.Pure
open Go.RowKit Go.Proofs.YtdmpbaanonafbaaGreatDoorW.PrintWords Go.Proofs.YtdmpbaanonafbaaGreatDoorW.PrintLast Go.Proofs.YtdmpbaanonafbaaGreatDoor.GivZ Go.Proofs.YtdmpbaanonafbaaGreatDoor.GivPW Go.Proofs.YtdmpbaanonafbaaGreatDoorPt Go.Proofs.YtdmpbaanonafbaaGreatDoor.E Go.Proofs.YtdmpbaanonafbaaGreatDoor.V Go.Proofs.YtdmpbaanonafbaaGreatDoor.L Go.Proofs.YtdmpbaanonafbaaGreatDoor.R Go.Proofs.YtdmpbaanonafbaaGreatDoor.J Go.Proofs.YtdmpbaanonafbaaGreatDoor.K Go.Proofs.YtdmpbaanonafbaaGreatDoor.Texts Go.Proofs.YtdmpbaanonafbaaGreatDoor.Trees Go.Proofs.YtdmpbaanonafbaaGreatDoor.HexT Go.Proofs.YtdmpbaanonafbaaGreatDoor.HexL Go.Proofs.YtdmpbaanonafbaaGreatDoor.ScanL Go.Proofs.YtdmpbaanonafbaaGreatDoor.CtLine Go.Proofs.YtdmpbaanonafbaaGreatDoor.CtLoop Go.Proofs.YtdmpbaanonafbaaGreatDoor.DoorCt Go.Proofs.YtdmpbaanonafbaaGreatDoor.Lives
theorem read64 {x : List UInt8} {v : Int} (h : H8 x v) : strconv_ParseU.f (toB x) 16 64 = some (v, none) := by
  unfold strconv_ParseU.f
  have h1 := h.len
  have h2 := h.lo
  have h3 := h.hi
  rw [toB_size, toB_data, if_pos (by omega), if_pos rfl, h.val, Option.bind_some, if_neg (by decide), if_pos rfl]
  unfold lim
  rw [if_pos (by omega)]
  congr 2
  omega
theorem counted_not (l : List Int) (f0 : ByteArray) (f2 : List ByteArray) (hl : l.length ≤ 200000) (hb : ∀ v ∈ l, 0 ≤ v ∧ v ≤ 4294967295) (m : Int) (hm : (l.length : Int) ≠ m) (d : Nat) : ∀ (i : Nat), i ≤ l.length → l.length - i = d →
    Ev (fun k => spec_counted.l0 k m 32 0 l (l.length : Int) (i : Int) f0 l f2) false := by
  have hw1 : wrap64 (32 - 1) = 31 := by decide +kernel
  have hw2 : IntKind.u64.wrap (IntKind.u64.wrap (shl .u64 1 31 * 2) - 1) = 4294967295 := by decide +kernel
  induction d with
  | zero =>
    intro i h1 hd
    refine Ev.step (f := fun _ => some false) (fun k => ?_) (Ev.now _)
    simp only [spec_counted.l0]
    rw [if_neg (by omega), if_neg hm]
  | succ d ih =>
    intro i h1 hd
    have hi : i < l.length := by omega
    have hv := hb _ (getD_mem l 0 i hi)
    refine Ev.step (fun k => ?_) (ih (i + 1) (by omega) (by omega))
    simp only [spec_counted.l0]
    rw [if_pos (by omega), if_pos (by omega), if_pos (by omega), hw1, if_pos (by decide), hw2, if_neg (show ¬ rd l (i : Int) > 4294967295 by
      show ¬ l.getD ((i : Int)).toNat 0 > _
      rw [Int.toNat_natCast]
      omega), wrap_in (by omega) (by omega)]
    rfl
/-- A row's common bounds. -/
structure RB (r : S48) : Prop where
  f0 : r.f0.toList = []
  f2 : r.f2 = []
  len : r.f1.length ≤ 200000
  val : ∀ v ∈ r.f1, 0 ≤ v ∧ v ≤ 4294967295
theorem fine_loop (rows : List S48) (hl : rows.length ≤ 200000) (hb : ∀ r ∈ rows, RB r) (d : Nat) : ∀ (i : Nat), i ≤ rows.length → rows.length - i = d →
    ∃ b, Ev (fun k => spec_conntrackFine.l0 k rows (rows.length : Int) (i : Int)) b ∧ (b = true → ∀ r ∈ rows.drop i, r.f1.length = 17) := by
  induction d with
  | zero =>
    intro i h1 hd
    refine ⟨true, Ev.step (f := fun _ => some true) (fun k => ?_) (Ev.now _), fun _ r hr => ?_⟩
    · simp only [spec_conntrackFine.l0]
      rw [if_neg (by omega)]
    · rw [List.drop_of_length_le (by omega)] at hr; cases hr
  | succ d ih =>
    intro i h1 hd
    have hi : i < rows.length := by omega
    have hx := hb _ (getD_mem rows z48 i hi)
    have hdr := drop_list rows z48 i hi
    have hrd : rd_T48 rows (i : Int) = rows.getD i z48 := by simp [rd_T48]
    obtain ⟨b, hE, hP⟩ := ih (i + 1) (by omega) (by omega)
    generalize rows.getD i z48 = x at hx hdr hrd
    have hpre : ∀ k, spec_conntrackFine.l0 (k + 1) rows (rows.length : Int) (i : Int) = ((spec_counted.f k x.f0 x.f1 x.f2 17 32 0).bind fun t => (if t = true then (spec_conntrackFine.l0 k rows (rows.length : Int) ((i + 1 : Nat) : Int)) else (some false))) := by
      intro k
      simp only [spec_conntrackFine.l0]
      rw [if_pos (show (i : Int) < (rows.length : Int) by omega), if_pos (show (0 : Int) ≤ (i : Int) by omega), if_pos (show (i : Int) < (rows.length : Int) by omega), hrd, if_pos hx.f0, wrap_in (by omega) (by omega)]
      rfl
    by_cases c : (x.f1.length : Int) = 17
    · have hC := counted_is x.f1 x.f0 x.f2 hx.len hx.val 17 c
      rw [show ((x.f2.length : Int) == 0) = true by rw [hx.f2]; rfl] at hC
      refine ⟨b, Ev.step hpre (Ev.bind hC (Ev.congr (fun k => by rw [if_pos rfl]) hE)), fun h r hr => ?_⟩
      rw [hdr] at hr
      rcases List.mem_cons.1 hr with rfl | hr
      · omega
      · exact hP h r hr
    · have hC := counted_not x.f1 x.f0 x.f2 hx.len hx.val 17 c x.f1.length 0 (by omega) (by omega)
      exact ⟨false, Ev.step hpre (Ev.bind (show Ev (fun k => spec_counted.f k x.f0 x.f1 x.f2 17 32 0) false from hC) (Ev.congr (f := fun _ => some false) (fun k => by rw [if_neg (by simp)]) (Ev.now _))), fun h => by cases h⟩
theorem fine_is (rows : List S48) (hl : rows.length ≤ 200000) (hb : ∀ r ∈ rows, RB r) : ∃ b, Ev (fun k => spec_conntrackFine.f k rows) b ∧ (b = true → ∀ r ∈ rows, r.f1.length = 17) := by
  obtain ⟨b, hE, h⟩ := fine_loop rows hl hb rows.length 0 (by omega) (by omega)
  exact ⟨b, hE, h⟩
/-- Words of eight digits. -/
def HB (w : ByteArray) (v : Int) : Prop := H8 w.data.toList v
theorem read_inner (ws : List ByteArray) (hl : ws.length ≤ 200000) (hs : ∀ x ∈ ws, x.size ≤ 100000) (rows : List S48) (L : List ByteArray) (n i : Int) (e : ByteArray) (d : Nat) : ∀ (ns : List Int) (j : Nat), j ≤ ws.length → ws.length - j = d → ns.length = j → all2 HB (ws.take j) ns →
    (∃ ns', all2 HB ws ns' ∧ ∀ res, Ev (fun k => if rows.length < 2199023255552 then (spec_ConntrackRead.l0 k (rows ++ [(⟨e, ns', ([] : List ByteArray)⟩ : S48)]) L n (wrap64 (i + 1))) else none) res → Ev (fun k => spec_ConntrackRead.l1 k rows L n i ws (ws.length : Int) (j : Int) e ns) res) ∨
    Ev (fun k => spec_ConntrackRead.l1 k rows L n i ws (ws.length : Int) (j : Int) e ns) (([] : List S48), false, 2) := by
  induction d with
  | zero =>
    intro ns j h1 hd hn ha
    rw [List.take_of_length_le (by omega)] at ha
    refine .inl ⟨ns, ha, fun res h => Ev.step (fun k => ?_) h⟩
    simp only [spec_ConntrackRead.l1]
    rw [if_neg (by omega)]
  | succ d ih =>
    intro ns j h1 hd hn ha
    have hj : j < ws.length := by omega
    have hmem := getD_mem ws ByteArray.empty j hj
    have hrd : rdOf ByteArray.empty ws (j : Int) = ws.getD j ByteArray.empty := by simp [rdOf]
    have htk : ws.take (j + 1) = ws.take j ++ [ws.getD j ByteArray.empty] := by
      rw [List.take_add_one, List.getElem?_eq_getElem hj, List.getD_eq_getElem?_getD, List.getElem?_eq_getElem hj]
      rfl
    obtain ⟨v, ok, hD, v0, v1, hV⟩ := hex_ev (ws.getD j ByteArray.empty) (hs _ hmem)
    generalize ws.getD j ByteArray.empty = x at hrd htk hD hV
    have hpre : ∀ k, spec_ConntrackRead.l1 (k + 1) rows L n i ws (ws.length : Int) (j : Int) e ns = ((spec_Number.f k x 16).bind fun bt => (if bt.2 = true then (if (x.size : Int) = 8 then (if ns.length < 17592186044416 then (spec_ConntrackRead.l1 k rows L n i ws (ws.length : Int) ((j + 1 : Nat) : Int) e (ns ++ [bt.1])) else (none)) else (some (([] : List (S48)), false, 2))) else (some (([] : List (S48)), false, 2)))) := by
      intro k
      simp only [spec_ConntrackRead.l1]
      rw [if_pos (show (j : Int) < (ws.length : Int) by omega), if_pos (show (0 : Int) ≤ (j : Int) by omega), if_pos (show (j : Int) < (ws.length : Int) by omega), hrd, wrap_in (by omega) (by omega)]
      rfl
    cases ok with
    | false => exact .inr (Ev.step hpre (Ev.bind hD (Ev.congr (f := fun _ => some (([] : List S48), false, 2)) (fun k => by dsimp only; rw [if_neg (by simp)]) (Ev.now _))))
    | true =>
      by_cases c8 : (x.size : Int) = 8
      · have hx8 : HB x v := h8_of (hV rfl) (by omega)
        have hgo : ∀ res, Ev (fun k => spec_ConntrackRead.l1 k rows L n i ws (ws.length : Int) ((j + 1 : Nat) : Int) e (ns ++ [v])) res → Ev (fun k => spec_ConntrackRead.l1 k rows L n i ws (ws.length : Int) (j : Int) e ns) res := fun res h =>
          Ev.step hpre (Ev.bind hD (Ev.congr (fun k => by dsimp only; rw [if_pos rfl, if_pos c8, if_pos (by omega)]) h))
        rcases ih (ns ++ [v]) (j + 1) (by omega) (by omega) (by rw [List.length_append, hn]; rfl) (by rw [htk]; exact all2_snoc _ _ _ _ ha hx8) with ⟨ns', h1, h2⟩ | h
        · exact .inl ⟨ns', h1, fun res h => hgo _ (h2 res h)⟩
        · exact .inr (hgo _ h)
      · exact .inr (Ev.step hpre (Ev.bind hD (Ev.congr (f := fun _ => some (([] : List S48), false, 2)) (fun k => by dsimp only; rw [if_pos rfl, if_neg c8]) (Ev.now _))))
/-- A row that is read off a line. -/
def RowOf (x : ByteArray) (r : S48) : Prop := RB r ∧ all2 H8 (wordsL x.data.toList) r.f1
theorem hb_words : ∀ (xs : List (List UInt8)) (vs : List Int), all2 HB (xs.map toB) vs → all2 H8 xs vs
  | [], [], _ => trivial
  | x :: xs, v :: vs, h => ⟨by have := h.1; unfold HB at this; rw [toB_data] at this; exact this, hb_words xs vs h.2⟩
  | [], _ :: _, h => h.elim
  | _ :: _, [], h => h.elim
def Fine (rows : List S48) : Prop := ∀ r ∈ rows, r.f1.length = 17
theorem read_outer (L : List ByteArray) (hl : L.length ≤ 100000) (hs : ∀ x ∈ L, x.size ≤ 60000) (d : Nat) : ∀ (rows : List S48) (i : Nat), i ≤ L.length → L.length - i = d → rows.length = i → all2 RowOf (L.take i) rows →
    ∃ (rows' : List S48) (ok : Bool) (told : Int), Ev (fun k => spec_ConntrackRead.l0 k rows L (L.length : Int) (i : Int)) (rows', ok, told) ∧ (told = 1 → ok = true ∧ all2 RowOf L rows' ∧ Fine rows' ∧ Ev (fun k => spec_conntrackFine.f k rows') true) := by
  induction d with
  | zero =>
    intro rows i h1 hd hn ha
    rw [List.take_of_length_le (by omega)] at ha
    obtain ⟨b, hF, hB⟩ := fine_is rows (by omega) (all2_right (fun x y h => h.1) _ _ ha)
    have hpre : ∀ k, spec_ConntrackRead.l0 (k + 1) rows L (L.length : Int) (i : Int) = ((spec_conntrackFine.f k rows).bind fun t111 => ((spec_told.f t111).bind fun t112 => (some (rows, true, t112)))) := by
      intro k
      simp only [spec_ConntrackRead.l0]
      rw [if_neg (by omega)]
    cases b with
    | true => exact ⟨rows, true, 1, Ev.step hpre (Ev.bind hF (Ev.congr (f := fun _ => some (rows, true, 1)) (fun k => rfl) (Ev.now _))), fun _ => ⟨rfl, ha, hB rfl, hF⟩⟩
    | false => exact ⟨rows, true, 2, Ev.step hpre (Ev.bind hF (Ev.congr (f := fun _ => some (rows, true, 2)) (fun k => rfl) (Ev.now _))), fun h => by omega⟩
  | succ d ih =>
    intro rows i h1 hd hn ha
    have hi : i < L.length := by omega
    have hmem := hs _ (getD_mem L ByteArray.empty i hi)
    have hrd : rdOf ByteArray.empty L (i : Int) = L.getD i ByteArray.empty := by simp [rdOf]
    have htk : L.take (i + 1) = L.take i ++ [L.getD i ByteArray.empty] := by
      rw [List.take_add_one, List.getElem?_eq_getElem hi, List.getD_eq_getElem?_getD, List.getElem?_eq_getElem hi]
      rfl
    generalize L.getD i ByteArray.empty = x at hmem hrd htk
    have hFi := fields_ev x (by omega)
    have hw1 : ∀ y ∈ (wordsL x.data.toList).map toB, y.size ≤ 100000 := by
      intro y hy
      obtain ⟨w, hw, rfl⟩ := List.mem_map.1 hy
      have := (wordsGo_mem _ [] w hw).2.1
      rw [len_data] at this
      rw [toB_size]
      simp at this
      omega
    have hw2 : ((wordsL x.data.toList).map toB).length ≤ 200000 := by
      rw [List.length_map]
      have := wordsGo_size x.data.toList []
      rw [len_data] at this
      unfold wordsL
      omega
    obtain ⟨e, he⟩ : ∃ e : ByteArray, e = ⟨#[]⟩ := ⟨_, rfl⟩
    have hpre : ∀ k, spec_ConntrackRead.l0 (k + 1) rows L (L.length : Int) (i : Int) = ((spec_Fields.f k x).bind fun t115 => (spec_ConntrackRead.l1 k rows L (L.length : Int) (i : Int) t115 (t115.length : Int) 0 e ([] : List Int))) := by
      intro k
      simp only [spec_ConntrackRead.l0]
      rw [if_pos (show (i : Int) < (L.length : Int) by omega), if_pos (show (0 : Int) ≤ (i : Int) by omega), if_pos (show (i : Int) < (L.length : Int) by omega), hrd, he]
    have hin := read_inner ((wordsL x.data.toList).map toB) hw2 hw1 rows L (L.length : Int) (i : Int) e ((wordsL x.data.toList).map toB).length [] 0 (by omega) (by omega) rfl trivial
    rcases hin with ⟨ns', h2, h3⟩ | h
    · have h8 := hb_words _ _ h2
      have hrow : RowOf x (⟨e, ns', ([] : List ByteArray)⟩ : S48) := by
        refine ⟨⟨by show e.toList = []; rw [toList_data, he], rfl, ?_, all2_right (fun a v h => ⟨h.lo, h.hi⟩) _ _ h8⟩, h8⟩
        show ns'.length ≤ 200000
        rw [← all2_len _ _ h8]
        rw [List.length_map] at hw2
        exact hw2
      obtain ⟨rows', ok, told, hE, hP⟩ := ih (rows ++ [(⟨e, ns', ([] : List ByteArray)⟩ : S48)]) (i + 1) (by omega) (by omega) (by rw [List.length_append, hn]; rfl) (by rw [htk]; exact all2_snoc _ _ _ _ ha hrow)
      refine ⟨rows', ok, told, Ev.step hpre (Ev.bind hFi (h3 _ (Ev.congr (fun k => ?_) hE))), hP⟩
      rw [if_pos (by omega), wrap_in (by omega) (by omega)]
      rfl
    · exact ⟨[], false, 2, Ev.step hpre (Ev.bind hFi h), fun h => by omega⟩
theorem words_app : ∀ (x cur y : List UInt8), wordsGo cur (x ++ 32 :: y) = wordsGo cur x ++ wordsGo [] y
  | [], cur, y => by
    by_cases c : cur = []
    · subst c; rfl
    · have e1 : wordsGo cur (32 :: y) = cur :: wordsGo [] y := by rw [wordsGo, if_pos (.inl rfl), if_neg (by simpa using c)]
      have e2 : wordsGo cur [] = [cur] := by rw [wordsGo, if_neg (by simpa using c)]
      rw [List.nil_append, e1, e2]; rfl
  | a :: x, cur, y => by
    rw [List.cons_append, wordsGo, wordsGo]
    by_cases h : a = 32 ∨ a = 9
    · rw [if_pos h, if_pos h]
      split
      · exact words_app x [] y
      · rw [words_app x [] y]; rfl
    · rw [if_neg h, if_neg h]
      exact words_app x _ y
theorem words_one {s : List UInt8} {v : Int} (h : H8 s v) : wordsGo [] s = [s] := by
  have := words_last s [] (fun c hc => by have := h.bytes c hc; exact ⟨by rintro rfl; exact absurd this.1 (by decide), by rintro rfl; exact absurd this.1 (by decide)⟩) (by simpa using h.ne)
  simpa using this
theorem words_lead (s : List UInt8) : wordsGo [] (32 :: s) = wordsGo [] s := by
  rw [wordsGo, if_pos (.inl rfl)]
  rfl
/-- A line that is written of a row. -/
def LineOf (x : List UInt8) (r : S48) : Prop := (∀ c ∈ x, c = 32 ∨ (33 ≤ c.toNat ∧ c.toNat ≤ 126)) ∧ all2 H8 (wordsL x) r.f1
theorem print_inner (R : List S48) (n i : Int) (l : List Int) (hl : l.length ≤ 1000) (hv : ∀ v ∈ l, 0 ≤ v ∧ v ≤ 4294967295) (pre : List UInt8) (hp : pre.length ≤ 1000000000) (d : Nat) : ∀ (acc : ByteArray) (x : List UInt8) (j : Nat), j ≤ l.length → l.length - j = d → (j = 0 → x = []) → acc.data.toList = pre ++ x → acc.size ≤ pre.length + j * 10 → (∀ c ∈ x, c = 32 ∨ (33 ≤ c.toNat ∧ c.toNat ≤ 126)) → all2 H8 (wordsL x) (l.take j) →
    ∃ (acc' : ByteArray) (x' : List UInt8), acc'.data.toList = pre ++ x' ∧ acc'.size ≤ pre.length + l.length * 10 ∧ (∀ c ∈ x', c = 32 ∨ (33 ≤ c.toNat ∧ c.toNat ≤ 126)) ∧ all2 H8 (wordsL x') l ∧ ∀ res, Ev (fun k => spec_ConntrackPrint.l0 k (acc' ++ (⟨#[10]⟩ : ByteArray)) R n (wrap64 (i + 1))) res → Ev (fun k => spec_ConntrackPrint.l1 k acc R n i l (l.length : Int) (j : Int)) res := by
  induction d with
  | zero =>
    intro acc x j h1 hd h0 ha hs hc h8
    rw [List.take_of_length_le (by omega)] at h8
    refine ⟨acc, x, ha, by rw [show l.length = j by omega]; exact hs, hc, h8, fun res h => Ev.step (fun k => ?_) h⟩
    simp only [spec_ConntrackPrint.l1]
    rw [if_neg (by omega), if_pos (by omega)]
  | succ d ih =>
    intro acc x j h1 hd h0 ha hs hc h8
    have hj : j < l.length := by omega
    have hmem := hv _ (getD_mem l 0 j hj)
    have hrd : rd l (j : Int) = l.getD j 0 := by
      show l.getD ((j : Int)).toNat 0 = _
      rw [Int.toNat_natCast]
    have htk : l.take (j + 1) = l.take j ++ [l.getD j 0] := by
      rw [List.take_add_one, List.getElem?_eq_getElem hj, List.getD_eq_getElem?_getD, List.getElem?_eq_getElem hj]
      rfl
    generalize l.getD j 0 = v at hmem hrd htk
    obtain ⟨s, hS, hs8⟩ := padded_is v hmem.1 hmem.2
    have hsz : s.size = 8 := by rw [← len_data]; exact hs8.len
    have hsb := hs8.bytes
    obtain ⟨sp, hsp⟩ : ∃ sp : ByteArray, sp = (⟨#[32]⟩ : ByteArray) := ⟨_, rfl⟩
    have hspd : sp.data.toList = [32] := by rw [hsp]
    have hsps : sp.size = 1 := by rw [← len_data, hspd]; rfl
    by_cases c0 : j = 0
    · have hx := h0 c0
      subst hx
      obtain ⟨acc', x', q1, q2, q3, q5, q4⟩ := ih (acc ++ s) s.data.toList (j + 1) (by omega) (by omega) (fun h => by omega) (by rw [app_data, ha]; simp) (by rw [ByteArray.size_append]; omega) (fun c h => .inr (hsb c h)) (by
        rw [htk]
        show all2 H8 (wordsGo [] s.data.toList) _
        rw [words_one hs8]
        exact all2_snoc [] _ _ _ h8 hs8)
      refine ⟨acc', x', q1, q2, q3, q5, fun res h => Ev.step (f := fun k => (spec_Padded.f k v 16 8).bind fun t132 => (if acc.size + t132.size ≤ 9223372036854775807 then (spec_ConntrackPrint.l1 k (acc ++ t132) R n i l (l.length : Int) ((j + 1 : Nat) : Int)) else (none))) (fun k => ?_) (Ev.bind hS (Ev.congr (fun k => ?_) (q4 res h)))⟩
      · simp only [spec_ConntrackPrint.l1]
        rw [if_pos (show (j : Int) < (l.length : Int) by omega), if_pos (show (0 : Int) ≤ (j : Int) by omega), if_pos (show (j : Int) < (l.length : Int) by omega), if_neg (show ¬ (j : Int) > 0 by omega), if_neg (show ¬ (j : Int) = 1 by omega), if_neg (show ¬ (j : Int) = 13 by omega), hrd, wrap_in (by omega) (by omega)]
        rfl
      · rw [if_pos (by omega)]
    · have hws1 : wordsL (x ++ 32 :: s.data.toList) = wordsL x ++ [s.data.toList] := by
        unfold wordsL
        rw [words_app, words_one hs8]
      have hws2 : wordsL (x ++ 32 :: 32 :: s.data.toList) = wordsL x ++ [s.data.toList] := by
        unfold wordsL
        rw [words_app, words_lead, words_one hs8]
      by_cases cd : j = 1 ∨ j = 13
      · obtain ⟨acc', x', q1, q2, q3, q5, q4⟩ := ih (((acc ++ sp) ++ sp) ++ s) (x ++ 32 :: 32 :: s.data.toList) (j + 1) (by omega) (by omega) (fun h => by omega) (by rw [app_data, app_data, app_data, ha, hspd]; simp) (by rw [ByteArray.size_append, ByteArray.size_append, ByteArray.size_append]; omega) (fun c h => by
          rcases List.mem_append.1 h with h | h
          · exact hc c h
          · rcases List.mem_cons.1 h with h | h
            · exact .inl h
            · rcases List.mem_cons.1 h with h | h
              · exact .inl h
              · exact .inr (hsb c h)) (by rw [htk, hws2]; exact all2_snoc _ _ _ _ h8 hs8)
        refine ⟨acc', x', q1, q2, q3, q5, fun res h => Ev.step (f := fun k => (spec_Padded.f k v 16 8).bind fun t132 => (if ((acc ++ sp) ++ sp).size + t132.size ≤ 9223372036854775807 then (spec_ConntrackPrint.l1 k (((acc ++ sp) ++ sp) ++ t132) R n i l (l.length : Int) ((j + 1 : Nat) : Int)) else (none))) (fun k => ?_) (Ev.bind hS (Ev.congr (fun k => ?_) (q4 res h)))⟩
        · simp only [spec_ConntrackPrint.l1]
          rw [if_pos (show (j : Int) < (l.length : Int) by omega), if_pos (show (0 : Int) ≤ (j : Int) by omega), if_pos (show (j : Int) < (l.length : Int) by omega), if_pos (show (j : Int) > 0 by omega), if_pos (by omega), ← hsp, hrd, wrap_in (by omega) (by omega)]
          by_cases e1 : j = 1
          · rw [if_pos (show (j : Int) = 1 by omega), if_pos (by rw [ByteArray.size_append]; omega)]
            rfl
          · rw [if_neg (show ¬ (j : Int) = 1 by omega), if_pos (show (j : Int) = 13 by omega), if_pos (by rw [ByteArray.size_append]; omega)]
            rfl
        · rw [if_pos (by rw [ByteArray.size_append, ByteArray.size_append]; omega)]
      · obtain ⟨acc', x', q1, q2, q3, q5, q4⟩ := ih ((acc ++ sp) ++ s) (x ++ 32 :: s.data.toList) (j + 1) (by omega) (by omega) (fun h => by omega) (by rw [app_data, app_data, ha, hspd]; simp) (by rw [ByteArray.size_append, ByteArray.size_append]; omega) (fun c h => by
          rcases List.mem_append.1 h with h | h
          · exact hc c h
          · rcases List.mem_cons.1 h with h | h
            · exact .inl h
            · exact .inr (hsb c h)) (by rw [htk, hws1]; exact all2_snoc _ _ _ _ h8 hs8)
        refine ⟨acc', x', q1, q2, q3, q5, fun res h => Ev.step (f := fun k => (spec_Padded.f k v 16 8).bind fun t132 => (if (acc ++ sp).size + t132.size ≤ 9223372036854775807 then (spec_ConntrackPrint.l1 k ((acc ++ sp) ++ t132) R n i l (l.length : Int) ((j + 1 : Nat) : Int)) else (none))) (fun k => ?_) (Ev.bind hS (Ev.congr (fun k => ?_) (q4 res h)))⟩
        · simp only [spec_ConntrackPrint.l1]
          rw [if_pos (show (j : Int) < (l.length : Int) by omega), if_pos (show (0 : Int) ≤ (j : Int) by omega), if_pos (show (j : Int) < (l.length : Int) by omega), if_pos (show (j : Int) > 0 by omega), if_pos (by omega), ← hsp, if_neg (show ¬ (j : Int) = 1 by omega), if_neg (show ¬ (j : Int) = 13 by omega), hrd, wrap_in (by omega) (by omega)]
          rfl
        · rw [if_pos (by rw [ByteArray.size_append]; omega)]
def hline : List UInt8 := [101, 110, 116, 114, 105, 101, 115, 32, 32, 115, 101, 97, 114, 99, 104, 101, 100, 32, 102, 111, 117, 110, 100, 32, 110, 101, 119, 32, 105, 110, 118, 97, 108, 105, 100, 32, 105, 103, 110, 111, 114, 101, 32, 100, 101, 108, 101, 116, 101, 32, 100, 101, 108, 101, 116, 101, 95, 108, 105, 115, 116, 32, 105, 110, 115, 101, 114, 116, 32, 105, 110, 115, 101, 114, 116, 95, 102, 97, 105, 108, 101, 100, 32, 100, 114, 111, 112, 32, 101, 97, 114, 108, 121, 95, 100, 114, 111, 112, 32, 105, 99, 109, 112, 95, 101, 114, 114, 111, 114, 32, 32, 101, 120, 112, 101, 99, 116, 95, 110, 101, 119, 32, 101, 120, 112, 101, 99, 116, 95, 99, 114, 101, 97, 116, 101, 32, 101, 120, 112, 101, 99, 116, 95, 100, 101, 108, 101, 116, 101, 32, 115, 101, 97, 114, 99, 104, 95, 114, 101, 115, 116, 97, 114, 116]
theorem print_outer (R : List S48) (hl : R.length ≤ 100000) (hb : ∀ r ∈ R, RB r) (hf : Fine R) (pre : List UInt8) (d : Nat) : ∀ (acc : ByteArray) (ls : List (List UInt8)) (i : Nat), i ≤ R.length → R.length - i = d → acc.data.toList = pre ++ (ls.flatMap fun x => x ++ [10]) → acc.size ≤ 1000 + i * 1000 → all2 LineOf ls (R.take i) →
    ∃ (s : ByteArray) (ls' : List (List UInt8)), Ev (fun k => spec_ConntrackPrint.l0 k acc R (R.length : Int) (i : Int)) (s, 1) ∧ s.data.toList = pre ++ (ls'.flatMap fun x => x ++ [10]) ∧ all2 LineOf ls' R := by
  induction d with
  | zero =>
    intro acc ls i h1 hd ha hs h8
    rw [List.take_of_length_le (by omega)] at h8
    refine ⟨acc, ls, Ev.step (f := fun _ => some (acc, 1)) (fun k => ?_) (Ev.now _), ha, h8⟩
    simp only [spec_ConntrackPrint.l0]
    rw [if_neg (by omega)]
  | succ d ih =>
    intro acc ls i h1 hd ha hs h8
    have hi : i < R.length := by omega
    have hmem := getD_mem R z48 i hi
    have hrd : rd_T48 R (i : Int) = R.getD i z48 := by simp [rd_T48]
    have htk : R.take (i + 1) = R.take i ++ [R.getD i z48] := by
      rw [List.take_add_one, List.getElem?_eq_getElem hi, List.getD_eq_getElem?_getD, List.getElem?_eq_getElem hi]
      rfl
    have hB := hb _ hmem
    have hF := hf _ hmem
    generalize R.getD i z48 = x at hrd htk hB hF
    have hsz : acc.data.toList.length ≤ 1000 + i * 1000 := by rw [len_data]; exact hs
    have hi2 : i * 1000 ≤ 100000 * 1000 := Nat.mul_le_mul_right _ (by omega)
    obtain ⟨acc', x', q1, q2, q3, q5, q4⟩ := print_inner R (R.length : Int) (i : Int) x.f1 (by omega) hB.val acc.data.toList (by omega) x.f1.length acc [] 0 (by omega) (by omega) (fun _ => rfl) (by simp) (by rw [len_data]; omega) (fun c h => by cases h) (by rw [List.take_zero]; trivial)
    obtain ⟨nl, hnl⟩ : ∃ nl : ByteArray, nl = (⟨#[10]⟩ : ByteArray) := ⟨_, rfl⟩
    have hnd : nl.data.toList = [10] := by rw [hnl]
    have hns : nl.size = 1 := by rw [← len_data, hnd]; rfl
    rw [← hnl] at q4
    obtain ⟨s, ls', hE, r1, r2⟩ := ih (acc' ++ nl) (ls ++ [x']) (i + 1) (by omega) (by omega) (by rw [app_data, q1, ha, hnd]; simp) (by rw [ByteArray.size_append, hns]; omega) (by rw [htk]; exact all2_snoc _ _ _ _ h8 ⟨q3, q5⟩)
    refine ⟨s, ls', Ev.step (f := fun k => spec_ConntrackPrint.l1 k acc R (R.length : Int) (i : Int) x.f1 (x.f1.length : Int) 0) (fun k => ?_) (q4 _ (Ev.congr (fun k => ?_) hE)), r1, r2⟩
    · simp only [spec_ConntrackPrint.l0]
      rw [if_pos (show (i : Int) < (R.length : Int) by omega), if_pos (show (0 : Int) ≤ (i : Int) by omega), if_pos (show (i : Int) < (R.length : Int) by omega), hrd]
    · rw [wrap_in (by omega) (by omega)]
      rfl
set_option maxRecDepth 100000 in
theorem print_is (R : List S48) (hl : R.length ≤ 100000) (hb : ∀ r ∈ R, RB r) (hf : Fine R) (hF : Ev (fun k => spec_conntrackFine.f k R) true) : ∃ (s : ByteArray) (ls : List (List UInt8)), Ev (fun k => spec_ConntrackPrint.f k R) (s, 1) ∧ s.data.toList = (hline ++ [10]) ++ (ls.flatMap fun x => x ++ [10]) ∧ all2 LineOf ls R := by
  obtain ⟨s, ls, hE, h1, h2⟩ := print_outer R hl hb hf (hline ++ [10]) R.length (⟨#[101, 110, 116, 114, 105, 101, 115, 32, 32, 115, 101, 97, 114, 99, 104, 101, 100, 32, 102, 111, 117, 110, 100, 32, 110, 101, 119, 32, 105, 110, 118, 97, 108, 105, 100, 32, 105, 103, 110, 111, 114, 101, 32, 100, 101, 108, 101, 116, 101, 32, 100, 101, 108, 101, 116, 101, 95, 108, 105, 115, 116, 32, 105, 110, 115, 101, 114, 116, 32, 105, 110, 115, 101, 114, 116, 95, 102, 97, 105, 108, 101, 100, 32, 100, 114, 111, 112, 32, 101, 97, 114, 108, 121, 95, 100, 114, 111, 112, 32, 105, 99, 109, 112, 95, 101, 114, 114, 111, 114, 32, 32, 101, 120, 112, 101, 99, 116, 95, 110, 101, 119, 32, 101, 120, 112, 101, 99, 116, 95, 99, 114, 101, 97, 116, 101, 32, 101, 120, 112, 101, 99, 116, 95, 100, 101, 108, 101, 116, 101, 32, 115, 101, 97, 114, 99, 104, 95, 114, 101, 115, 116, 97, 114, 116, 10]⟩ : ByteArray) [] 0 (by omega) (by omega) (by rfl) (by decide) (by rw [List.take_zero]; trivial)
  exact ⟨s, ls, Ev.bind hF (Ev.congr (fun k => by rw [if_pos rfl]; rfl) hE), h1, h2⟩
theorem all2_map {α β γ : Type} {P : α → γ → Prop} (f : β → γ) : ∀ (xs : List α) (ys : List β), all2 (fun x y => P x (f y)) xs ys → all2 P xs (ys.map f)
  | [], [], _ => trivial
  | x :: xs, y :: ys, h => ⟨h.1, all2_map f xs ys h.2⟩
  | [], _ :: _, h => h.elim
  | _ :: _, [], h => h.elim
theorem all2_of_get {α β : Type} {P : α → β → Prop} (a : α) (b : β) : ∀ (xs : List α) (ys : List β), xs.length = ys.length → (∀ i, i < xs.length → P (xs.getD i a) (ys.getD i b)) → all2 P xs ys
  | [], [], _, _ => trivial
  | x :: xs, y :: ys, hl, h => ⟨by simpa using h 0 (by simp), all2_of_get a b xs ys (by simpa using hl) (fun i hi => by simpa using h (i + 1) (by simpa using hi))⟩
  | [], _ :: _, hl, _ => by simp at hl
  | _ :: _, [], hl, _ => by simp at hl
/-- What the program makes of a row. -/
def zOf (r : S48) : S113 := rowS r.f1
theorem row_of {x : List UInt8} {r : S48} (hp : PlainL x) (hl : x.length ≤ 60000) (h : all2 H8 (wordsL x) r.f1) (hf : r.f1.length = 17) : ctRow x = some (zOf r) := by
  have hn := all2_len _ _ h
  have hg : ∀ q, q < 17 → rdOf ByteArray.empty ((wordsL x).map toB) ((q : Nat) : Int) = toB ((wordsL x).getD q []) := by
    intro q hq
    show ((wordsL x).map toB).getD ((q : Int)).toNat ByteArray.empty = _
    rw [Int.toNat_natCast, List.getD_eq_getElem?_getD, List.getElem?_map, List.getD_eq_getElem?_getD, List.getElem?_eq_getElem (show q < (wordsL x).length by omega)]
    rfl
  unfold ctRow zOf
  rw [fields_plain x hp (by omega), Option.bind_some, if_pos (by rw [List.length_map]; omega)]
  have hm : mapO (ctNum ((wordsL x).map toB)) (List.range 17) = some r.f1 := by
    refine mapO_of _ _ (all2_of_get (0 : Nat) (0 : Int) _ _ (by rw [List.length_range, hf]) (fun i hi => ?_))
    rw [List.length_range] at hi
    have e : (List.range 17).getD i 0 = i := by rw [List.getD_eq_getElem?_getD, List.getElem?_range hi]; rfl
    have h8 := all2_get [] (0 : Int) _ _ h i (by omega)
    rw [e]
    unfold ctNum
    rw [hg i hi, read64 h8, Option.bind_some, if_pos ⟨rfl, h8.lo, by have := h8.hi; omega⟩]
  rw [hm]
  rfl
theorem line_facts {x : List UInt8} {r : S48} (h : LineOf x r) : PlainL x ∧ (∀ b ∈ x, b ≠ 10) ∧ all2 H8 (wordsL x) r.f1 := by
  refine ⟨fun c hc => ?_, fun c hc => ?_, h.2⟩
  · rcases h.1 c hc with rfl | h
    · decide
    · exact ⟨h.2, fun h2 => by omega⟩
  · rintro rfl
    rcases h.1 _ hc with h | h
    · exact absurd h (by decide)
    · exact absurd h.1 (by decide)
theorem rec_ok (x0 x1 x2 x3 x4 x5 x6 x7 x8 x9 x10 x11 x12 : Int) : ∃ ks, impl_Conntrack_1_1.f x0 x1 x2 x3 x4 x5 x6 x7 x8 x9 x10 x11 x12 = some ((⟨#[]⟩ : ByteArray), 8, false, 0, 0, 0, (⟨#[]⟩ : ByteArray), ks) ∧ good 1 ks := by
  refine ⟨_, by simp [impl_Conntrack_1_1.f, impl_procfsConntrackStatEntry.f]; rfl, ?_⟩
  refine ⟨by simp, ?_⟩
  intro x hx
  simp at hx
  rcases hx with rfl | rfl | rfl | rfl | rfl | rfl | rfl | rfl | rfl | rfl | rfl | rfl | rfl <;> rfl
theorem list_loop (zs : List S113) (hl : zs.length ≤ 200000) (d : Nat) : ∀ (out : List S35) (i k : Nat), i ≤ zs.length → zs.length - i = d → out.length = i → d < k → (∀ x ∈ out, good 1 x.f7) →
    ∃ more, procfs_ConntrackStatEntry___ConntrackStatEntry.l0 k zs (zs.length : Int) (i : Int) (⟨#[]⟩ : ByteArray) 6 false 0 0 0 (⟨#[]⟩ : ByteArray) out = some ((⟨#[]⟩ : ByteArray), 6, false, 0, 0, 0, (⟨#[]⟩ : ByteArray), more) ∧ more.length = zs.length ∧ ∀ x ∈ more, good 1 x.f7 := by
  induction d with
  | zero =>
    intro out i k h1 hd ho hk hg
    obtain ⟨k, rfl⟩ : ∃ m, k = m + 1 := ⟨k - 1, by omega⟩
    refine ⟨out, ?_, by omega, hg⟩
    simp only [procfs_ConntrackStatEntry___ConntrackStatEntry.l0]
    rw [if_neg (by omega)]
  | succ d ih =>
    intro out i k h1 hd ho hk hg
    obtain ⟨k, rfl⟩ : ∃ m, k = m + 1 := ⟨k - 1, by omega⟩
    obtain ⟨ks, hR, hG⟩ := rec_ok (rd_T113 zs (i : Int)).f0 (rd_T113 zs (i : Int)).f1 (rd_T113 zs (i : Int)).f2 (rd_T113 zs (i : Int)).f3 (rd_T113 zs (i : Int)).f4 (rd_T113 zs (i : Int)).f5 (rd_T113 zs (i : Int)).f6 (rd_T113 zs (i : Int)).f7 (rd_T113 zs (i : Int)).f8 (rd_T113 zs (i : Int)).f9 (rd_T113 zs (i : Int)).f10 (rd_T113 zs (i : Int)).f11 (rd_T113 zs (i : Int)).f12
    obtain ⟨more, hM, hL, hg2⟩ := ih (out ++ [(⟨(⟨#[]⟩ : ByteArray), 8, false, 0, 0, 0, (⟨#[]⟩ : ByteArray), ks⟩ : S35)]) (i + 1) k (by omega) (by omega) (by simp [ho]) (by omega) (fun x hx => by
      rcases List.mem_append.1 hx with hx | hx
      · exact hg x hx
      · rw [List.mem_singleton.1 hx]; exact hG)
    refine ⟨more, ?_, hL, hg2⟩
    simp only [procfs_ConntrackStatEntry___ConntrackStatEntry.l0]
    rw [if_pos (by omega), if_pos (by omega), if_pos (by omega), hR]
    simp only [Option.bind_some]
    rw [if_pos (by omega), wrap_in (by omega) (by omega)]
    exact hM
theorem door_val (zs : List S113) (hl : zs.length ≤ 200000) : ∃ more : List S35, good 2 more ∧ ∀ a0 : ByteArray, a0.size ≤ 40000 → runH ctRow a0.data.toList = some zs → impl_Conntrack.f a0 = some ((⟨#[]⟩ : ByteArray), 6, false, 0, 0, 0, (⟨#[]⟩ : ByteArray), more, 0) := by
  obtain ⟨more, hM, hL, hg⟩ := list_loop zs hl zs.length [] 0 (zs.length + 1) (by omega) (by omega) rfl (by omega) (fun x hx => by cases hx)
  refine ⟨more, ⟨by omega, hg⟩, fun a0 ha hr => ?_⟩
  unfold impl_Conntrack.f
  rw [if_pos (by omega), hr, Option.bind_some, if_pos (by omega)]
  have e : impl_Conntrack_1.f (zs.length + 1) zs = some ((⟨#[]⟩ : ByteArray), 6, false, 0, 0, 0, (⟨#[]⟩ : ByteArray), more) := by
    unfold impl_Conntrack_1.f procfs_ConntrackStatEntry___ConntrackStatEntry.f
    rw [show ((0 : Nat) : Int) = 0 from rfl] at hM
    rw [hM]
    rfl
  rw [e]
  rfl
set_option maxRecDepth 100000 in
theorem run_of (l : List UInt8) (rest : List UInt8) (hl : l = (hline ++ [10]) ++ rest) (rows : List S48) (hp : ∀ x ∈ linesL l, PlainL x) (hlen : l.length ≤ 60000) (h : all2 (fun x r => ctRow x = some (zOf r)) (linesL rest) rows) : runH ctRow l = some (rows.map zOf) := by
  have hls : linesL l = hline :: linesL rest := by
    rw [hl, List.append_assoc, List.singleton_append]
    unfold linesL
    rw [linesGo_app hline [] rest (by decide)]
    rfl
  unfold runH
  rw [if_pos (plain_fits hp hlen), hls]
  exact mapO_of _ _ (all2_map zOf _ _ h)
theorem rows_lines : ∀ (xs : List (List UInt8)) (rs : List S48), all2 RowOf (xs.map toB) rs → all2 (fun x r => all2 H8 (wordsL x) r.f1) xs rs
  | [], [], _ => trivial
  | x :: xs, r :: rs, h => ⟨by have := h.1.2; rw [toB_data] at this; exact this, rows_lines xs rs h.2⟩
  | [], _ :: _, h => h.elim
  | _ :: _, [], h => h.elim
/-- What is told of a text: its rows, and what is written of them; the door answers the same tree of both. -/
def Told (a0 : ByteArray) (l : List S48) (ok : Bool) (told : Int) : Prop := told = 1 → ok = true ∧ ∃ s : ByteArray, Ev (fun k => spec_ConntrackPrint.f k l) (s, 1) ∧ ∃ more : List S35, good 2 more ∧
  impl_Conntrack.f a0 = some ((⟨#[]⟩ : ByteArray), 6, false, 0, 0, 0, (⟨#[]⟩ : ByteArray), more, 0) ∧ (s.size ≤ 40000 → impl_Conntrack.f s = some ((⟨#[]⟩ : ByteArray), 6, false, 0, 0, 0, (⟨#[]⟩ : ByteArray), more, 0))
set_option maxRecDepth 100000 in
theorem read_ev (a0 : ByteArray) (ha : a0.size ≤ 40000) : ∃ (l : List S48) (ok : Bool) (told : Int), Ev (fun k => spec_ConntrackRead.f k a0) (l, ok, told) ∧ Told a0 l ok told := by
  have hlen := len_data a0
  obtain ⟨pb, hPl, hPb⟩ := plain_ev a0 (by omega)
  obtain ⟨hdr, hhd⟩ : ∃ hdr : ByteArray, hdr = (⟨#[101, 110, 116, 114, 105, 101, 115, 32, 32, 115, 101, 97, 114, 99, 104, 101, 100, 32, 102, 111, 117, 110, 100, 32, 110, 101, 119, 32, 105, 110, 118, 97, 108, 105, 100, 32, 105, 103, 110, 111, 114, 101, 32, 100, 101, 108, 101, 116, 101, 32, 100, 101, 108, 101, 116, 101, 95, 108, 105, 115, 116, 32, 105, 110, 115, 101, 114, 116, 32, 105, 110, 115, 101, 114, 116, 95, 102, 97, 105, 108, 101, 100, 32, 100, 114, 111, 112, 32, 101, 97, 114, 108, 121, 95, 100, 114, 111, 112, 32, 105, 99, 109, 112, 95, 101, 114, 114, 111, 114, 32, 32, 101, 120, 112, 101, 99, 116, 95, 110, 101, 119, 32, 101, 120, 112, 101, 99, 116, 95, 99, 114, 101, 97, 116, 101, 32, 101, 120, 112, 101, 99, 116, 95, 100, 101, 108, 101, 116, 101, 32, 115, 101, 97, 114, 99, 104, 95, 114, 101, 115, 116, 97, 114, 116, 10]⟩ : ByteArray) := ⟨_, rfl⟩
  have hhdd : hdr.data.toList = hline ++ [10] := by rw [hhd]; rfl
  have hhds : hdr.size = 165 := by rw [← len_data, hhdd]; rfl
  have hj0 : ∀ k b, spec_ConntrackRead.j0 (k + 1) a0 b = (if b = true then (some (([] : List (S48)), false, 2)) else (if 165 ≤ (a0.size : Int) then ((spec_Lines.f k (a0.extract 165 a0.size)).bind fun t106 => (spec_ConntrackRead.l0 k ([] : List (S48)) t106 (t106.length : Int) 0)) else (none))) := fun k b => by simp only [spec_ConntrackRead.j0]
  have hno : Ev (fun k => spec_ConntrackRead.j0 k a0 true) (([] : List S48), false, 2) := Ev.step (f := fun _ => some (([] : List S48), false, 2)) (fun k => by rw [hj0, if_pos rfl]) (Ev.now _)
  have hf0 : ∀ k, spec_ConntrackRead.f k a0 = (spec_Plain.f k a0).bind fun t104 => (if t104 = true then ((spec_Begins.f a0 hdr).bind fun t105 => (spec_ConntrackRead.j0 k a0 (!t105))) else (spec_ConntrackRead.j0 k a0 true)) := fun k => by rw [hhd]; rfl
  have hfe : ∀ res, Ev (fun k => (spec_Plain.f k a0).bind fun t104 => (if t104 = true then ((spec_Begins.f a0 hdr).bind fun t105 => (spec_ConntrackRead.j0 k a0 (!t105))) else (spec_ConntrackRead.j0 k a0 true))) res → Ev (fun k => spec_ConntrackRead.f k a0) res := fun res h => Ev.congr hf0 h
  cases pb with
  | false => exact ⟨[], false, 2, hfe _ (Ev.bind hPl (Ev.congr (fun k => by rw [if_neg (by simp)]) hno)), fun h => by omega⟩
  | true =>
    have hbg : spec_Begins.f a0 hdr = some (decide (165 ≤ a0.size) && ((a0.extract 0 165).toList == hdr.toList)) := by
      unfold spec_Begins.f
      rw [hhds]
      by_cases c : 165 ≤ a0.size
      · rw [if_pos (by omega), if_pos (by omega), if_pos (by omega), decide_eq_true c, Bool.true_and]
        rfl
      · rw [if_neg (by omega), decide_eq_false c, Bool.false_and]
    by_cases cb : (decide (165 ≤ a0.size) && ((a0.extract 0 165).toList == hdr.toList)) = true
    · rw [cb] at hbg
      rw [Bool.and_eq_true] at cb
      have hsz := of_decide_eq_true cb.1
      have hpre : a0.data.toList = (hline ++ [10]) ++ (a0.extract 165 a0.size).data.toList := by
        have h1 := beq_iff_eq.1 cb.2
        rw [toList_data, toList_data, hhdd, Lib.extract_data] at h1
        have h2 : (a0.data.toList.drop 165).take (a0.size - 165) = a0.data.toList.drop 165 := List.take_of_length_le (by rw [List.length_drop]; omega)
        rw [Lib.extract_data, h2, ← h1, List.drop_zero, Nat.sub_zero, List.take_append_drop]
      obtain ⟨rest, hrest⟩ : ∃ rest : ByteArray, rest = a0.extract 165 a0.size := ⟨_, rfl⟩
      rw [← hrest] at hpre
      have hrs : rest.size ≤ 40000 := by rw [hrest, ByteArray.size_extract]; omega
      have hrl := len_data rest
      have hplain := lines_plain (hPb rfl)
      have hrplain : ∀ x ∈ linesL rest.data.toList, PlainL x := lines_plain (fun c hc => hPb rfl c (by rw [hpre]; exact List.mem_append_right _ hc))
      have hL := lines_ev rest (by omega)
      have hc := linesGo_size rest.data.toList []
      have hm : ∀ x ∈ (linesL rest.data.toList).map toB, x.size ≤ 60000 := by
        intro x hx
        obtain ⟨w, hw, rfl⟩ := List.mem_map.1 hx
        have := linesGo_len _ [] w hw
        rw [toB_size]
        simp at this
        omega
      have hn : ((linesL rest.data.toList).map toB).length ≤ 40001 := by
        rw [List.length_map]
        unfold linesL
        omega
      obtain ⟨rows, ok, told, hE, hT⟩ := read_outer ((linesL rest.data.toList).map toB) (by omega) hm ((linesL rest.data.toList).map toB).length [] 0 (by omega) (by omega) rfl (by rw [List.take_zero]; trivial)
      refine ⟨rows, ok, told, hfe _ (Ev.bind hPl (Ev.congr (fun k => by rw [if_pos rfl, hbg, Option.bind_some]) (Ev.step (f := fun k => (spec_Lines.f k rest).bind fun t106 => (spec_ConntrackRead.l0 k ([] : List (S48)) t106 (t106.length : Int) 0)) (fun k => by rw [hj0, if_neg (by simp), if_pos (by omega), hrest]) (Ev.bind hL hE)))), fun ht => ?_⟩
      obtain ⟨h1, h2, h3, h4⟩ := hT ht
      have hrl2 := all2_len _ _ h2
      have hRB : ∀ r ∈ rows, RB r := all2_right (fun x y h => h.1) _ _ h2
      have h2' := rows_lines _ _ h2
      have hlx : ∀ x ∈ linesL rest.data.toList, x.length ≤ 60000 := fun x hx => by
        have := linesGo_len _ [] x hx
        simp at this
        omega
      obtain ⟨s, ls, hS, hs1, hs2⟩ := print_is rows (by omega) hRB h3 h4
      obtain ⟨more, hg, hD⟩ := door_val (rows.map zOf) (by rw [List.length_map]; omega)
      refine ⟨h1, s, hS, more, hg, hD a0 ha (run_of _ rest.data.toList hpre rows hplain (by omega) (all2_mono _ _ (fun x hx r hr h => row_of (hrplain x hx) (hlx x hx) h (h3 r hr)) h2')), fun hsz2 => hD s hsz2 ?_⟩
      have hf := all2_left (Q := fun x => PlainL x ∧ (∀ b ∈ x, b ≠ 10)) (fun x r h => ⟨(line_facts h).1, (line_facts h).2.1⟩) _ _ hs2
      have hlin : linesL (ls.flatMap fun x => x ++ [10]) = ls := lines_flat ls (fun x hx => (hf x hx).2)
      have hslen := len_data s
      have hlall : linesL s.data.toList = hline :: ls := by
        rw [hs1, List.append_assoc, List.singleton_append]
        have e := hlin
        unfold linesL at e ⊢
        rw [linesGo_app hline [] _ (by decide), e]
        rfl
      refine run_of _ (ls.flatMap fun x => x ++ [10]) hs1 rows (by
        rw [hlall]
        intro x hx
        rcases List.mem_cons.1 hx with rfl | hx
        · unfold PlainL; decide
        · exact (hf x hx).1) (by omega) ?_
      rw [hlin]
      refine all2_mono _ _ (fun x hx r hr h => row_of (hf x hx).1 ?_ (line_facts h).2.2 (h3 r hr)) hs2
      have := linesGo_len s.data.toList [] x (by have : x ∈ linesL s.data.toList := by rw [hlall]; exact List.mem_cons_of_mem _ hx
                                                 exact this)
      simp at this
      omega
    · have cb2 : (decide (165 ≤ a0.size) && ((a0.extract 0 165).toList == hdr.toList)) = false := by simpa using cb
      rw [cb2] at hbg
      exact ⟨[], false, 2, hfe _ (Ev.bind hPl (Ev.congr (fun k => by rw [if_pos rfl, hbg, Option.bind_some]; rfl) hno)), fun h => by omega⟩
theorem normal_ev (a0 : ByteArray) : Ev (fun k => laws_normal__Conntrack.f k a0) true := by
  by_cases c : (a0.size : Int) > 40000
  · exact Ev.congr (f := fun _ => some true) (fun k => by unfold laws_normal__Conntrack.f; rw [if_pos c]) (Ev.now _)
  · obtain ⟨l, ok, told, hR, hprop⟩ := read_ev a0 (by omega)
    have hpre : ∀ (h : Ev (fun k => if told = 1 then (laws_normal__Conntrack.j0 k a0 l (!ok)) else (laws_normal__Conntrack.j0 k a0 l true)) true), Ev (fun k => laws_normal__Conntrack.f k a0) true := fun h =>
      Ev.congr (fun k => by unfold laws_normal__Conntrack.f; rw [if_neg c]) (Ev.bind hR h)
    by_cases ct : told = 1
    · obtain ⟨rfl, s, hPr, more, hg, hD1, hD2⟩ := hprop ct
      refine hpre (Ev.congr (f := fun k => laws_normal__Conntrack.j0 k a0 l false) (fun k => by rw [if_pos ct]; rfl) (Ev.step (f := fun k => (spec_ConntrackPrint.f k l).bind fun bt139 => (if bt139.2 = 1 then (laws_normal__Conntrack.j1 k a0 bt139.1 (decide ((bt139.1.size : Int) > 40000))) else (laws_normal__Conntrack.j1 k a0 bt139.1 true))) (fun k => by simp only [laws_normal__Conntrack.j0]; rw [if_neg (by simp)]) (Ev.bind hPr (Ev.congr (f := fun k => laws_normal__Conntrack.j1 k a0 s (decide ((s.size : Int) > 40000))) (fun k => by dsimp only; rw [if_pos rfl]) ?_))))
      by_cases cs : (s.size : Int) > 40000
      · rw [decide_eq_true cs]
        refine Ev.step (f := fun _ => some true) (fun k => ?_) (Ev.now _)
        simp only [laws_normal__Conntrack.j1]
        rw [if_pos trivial]
        rfl
      · rw [decide_eq_false cs]
        have hD3 := hD2 (by omega)
        obtain ⟨l', g', hN⟩ := toNode_ev 2 more hg
        obtain ⟨e1, he1⟩ : ∃ e : ByteArray, e = ⟨#[]⟩ := ⟨_, rfl⟩
        rw [← he1] at hD1 hD3
        have hS := same_ev 2 l' g' e1 6 false 0 0 0 e1
        refine Ev.step (f := fun k => (laws_toNode.f k e1 6 false 0 0 0 e1 more).bind fun bt166 => ((laws_toNode.f k e1 6 false 0 0 0 e1 more).bind fun bt176 => ((spec_SameNode.f k bt166.1 bt166.2.1 bt166.2.2.1 bt166.2.2.2.1 bt166.2.2.2.2.1 bt166.2.2.2.2.2.1 bt166.2.2.2.2.2.2.1 bt166.2.2.2.2.2.2.2 bt176.1 bt176.2.1 bt176.2.2.1 bt176.2.2.2.1 bt176.2.2.2.2.1 bt176.2.2.2.2.2.1 bt176.2.2.2.2.2.2.1 bt176.2.2.2.2.2.2.2).bind fun t186 => (if t186 = true then ((laws_lives.f).bind fun t187 => (some t187)) else (none))))) (fun k => ?_) (Ev.bind (hN e1 6 false 0 0 0 e1) (Ev.bind (hN e1 6 false 0 0 0 e1) (Ev.bind hS (Ev.now _))))
        simp only [laws_normal__Conntrack.j1]
        rw [if_neg (by simp), hD1, hD3]
        simp only [Option.bind_some]
        rw [if_pos trivial, if_pos trivial]
    · refine hpre (Ev.congr (f := fun k => laws_normal__Conntrack.j0 k a0 l true) (fun k => by rw [if_neg ct]) (Ev.step (f := fun _ => some true) (fun k => ?_) (Ev.now _)))
      simp only [laws_normal__Conntrack.j0]
      rw [if_pos trivial]
      rfl
theorem FnConntrackNormal : laws_FnConntrackNormal.Pure := by
  intro a0 ha
  obtain ⟨K, hK⟩ := normal_ev a0
  refine ⟨K, ?_⟩
  unfold laws_FnConntrackNormal.f
  by_cases c : (a0.size : Int) > 2147483647
  · rw [if_pos c]
  · rw [if_neg c, show laws_normal__Conntrack.f K a0 = some true from hK K (Nat.le_refl _)]
    rfl
end Go.Proofs.YtdmpbaanonafbaaGreatDoor.Pure
