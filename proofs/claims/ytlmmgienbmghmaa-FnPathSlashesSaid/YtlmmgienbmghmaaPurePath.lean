/- Slashes at the ends of a path, and several of them between its parts, do not matter to how it is escaped: every list of parts and of bytes (the pure half: what is left of the law behind its walk). -/
import Derived.Test.YtlmmgienbmghmaaU3
import Derived.Test.YtlmmgienbmghmaaPath
set_option linter.unusedVariables false
set_option linter.unusedSimpArgs false
namespace Go.Proofs.Ytlmmgienbmghmaa.PurePath
open Go.RowKit Go.Proofs.Ytlmmgienbmghmaa.U Go.Proofs.Ytlmmgienbmghmaa.Giv Go.Proofs.YtlmmgienbmghmaaW.PrintWords Go.Proofs.YtlmmgienbmghmaaW.PrintLast Go.Proofs.YtlmmgienbmghmaaPl Go.Proofs.Ytlmmgienbmghmaa.Esc Go.Proofs.Ytlmmgienbmghmaa.Path

def chunk (x : Nat × List Int) : List Int := List.replicate (x.1 + 1) 47 ++ x.2
theorem chunk_len (ch : List (Nat × List Int)) (h : ∀ x ∈ ch, x.1 ≤ 2) : (ch.flatMap chunk).length ≤ 3 * (ch.flatMap (fun x => (47 : Int) :: x.2)).length := by
  induction ch with
  | nil => simp
  | cons x xs ih =>
    have h1 := h x List.mem_cons_self
    have h2 := ih (fun y hy => h y (List.mem_cons_of_mem _ hy))
    rw [List.flatMap_cons, List.flatMap_cons, List.length_append, List.length_append, List.length_cons]
    have : (chunk x).length = x.1 + 1 + x.2.length := by simp [chunk]
    omega
theorem clean_of (ps : List ByteArray) (ch : List (Nat × List Int)) (h : ch.map (·.2) = ps.map bytesOf) : clean ps = ch.flatMap (fun x => (47 : Int) :: x.2) := by
  have e1 : clean ps = (ps.map bytesOf).flatMap (fun l => (47 : Int) :: l) := by simp [clean, List.flatMap_map]
  rw [e1, ← h, List.flatMap_map]

theorem clean_split (ps : List ByteArray) (n : Nat) : clean ps = clean (ps.take n) ++ clean (ps.drop n) := by
  unfold clean
  rw [← List.flatMap_append, List.take_append_drop]
theorem clean_cons (p : ByteArray) (ps : List ByteArray) : clean (p :: ps) = (47 :: bytesOf p) ++ clean ps := by
  unfold clean
  rw [List.flatMap_cons]

/-- The slashes of one part. -/
theorem slashes (more : List Int) (path p : ByteArray) (ps : List ByteArray) (n len i : Int) (hi0 : 0 ≤ i) (hi1 : i < 2147483647) (hn : n ≤ 3) (r : Bool) (d : Nat) : ∀ (x6 : ByteArray) (j : Int), 0 ≤ j → n - j = d → x6.size + p.size + d ≤ 100000000 →
    (∀ O : ByteArray, bytesOf O = bytesOf x6 ++ List.replicate d 47 ++ bytesOf p → Ev (fun k => laws_FnPathSlashes.l0 k more path O ps len (i + 1)) r) →
    Ev (fun k => laws_FnPathSlashes.l1 k more path x6 p ps len i n j) r := by
  induction d with
  | zero =>
    intro x6 j h0 hd hs h
    refine Ev.step (f := fun k => laws_FnPathSlashes.l0 k more path (x6 ++ p) ps len (i + 1)) (fun k => ?_) (h _ ?_)
    · simp only [laws_FnPathSlashes.l1]
      rw [if_neg (by omega), if_pos (by omega), wrap_succ hi0 (by omega)]
    · rw [bytes_append]
      simp
  | succ d ih =>
    intro x6 j h0 hd hs h
    have hb : bytesOf (x6 ++ (⟨#[47]⟩ : ByteArray)) = bytesOf x6 ++ [47] := by
      rw [bytes_append]
      rfl
    have hz : (x6 ++ (⟨#[47]⟩ : ByteArray)).size = x6.size + 1 := by
      rw [← bytesOf_length, hb, List.length_append, bytesOf_length]
      rfl
    refine Ev.step (f := fun k => laws_FnPathSlashes.l1 k more path (x6 ++ (⟨#[47]⟩ : ByteArray)) p ps len i n (j + 1)) (fun k => ?_) (ih _ (j + 1) (by omega) (by omega) (by rw [hz]; omega) (fun O hO => h O ?_))
    · simp only [laws_FnPathSlashes.l1]
      rw [if_pos (by omega), if_pos (by omega), wrap_succ h0 (by omega)]
    · rw [hO, hb, List.replicate_succ]
      simp

theorem number (more : List Int) (hm : ∀ c ∈ more, 0 ≤ c ∧ c ≤ 255) (i : Int) (h0 : 0 ≤ i) (h : i < more.length) : ∃ m : Nat, m ≤ 2 ∧ wrap64 (1 + Int.tmod (wrap64 (rd more i)) 3) = (m : Int) + 1 := by
  have hr : 0 ≤ rd more i ∧ rd more i ≤ 255 := by
    have hl : i.toNat < more.length := by omega
    have := hm _ (List.getElem_mem hl)
    simpa [rd, List.getD_eq_getElem?_getD, List.getElem?_eq_getElem hl] using this
  rw [wrap_in (x := rd more i) (by omega) (by omega), Int.tmod_eq_emod_of_nonneg hr.1, wrap_in (by omega) (by omega)]
  exact ⟨(rd more i % 3).toNat, by omega, by omega⟩

/-- The law's loop over the parts: from part i on. -/
theorem parts_loop (more : List Int) (hm : ∀ c ∈ more, 0 ≤ c ∧ c ≤ 255) (path : ByteArray) (ps : List ByteArray) (hl : ps.length ≤ 2147483647) (hpath : bytesOf path = clean ps) (hpz : path.size ≤ 2000) (d : Nat) : ∀ (i : Int) (x6 : ByteArray) (ch : List (Nat × List Int)), 0 ≤ i → i ≤ ps.length → (ps.length : Int) - i = d →
    bytesOf x6 = ch.flatMap chunk → ch.map (·.2) = (ps.take i.toNat).map bytesOf → (∀ x ∈ ch, x.1 ≤ 2) →
    Ev (fun k => laws_FnPathSlashes.l0 k more path x6 ps (ps.length : Int) i) true := by
  have hcl : (clean ps).length ≤ 2000 := by rw [← hpath, bytesOf_length]; exact hpz
  have bound : ∀ (n : Nat) (x6 : ByteArray) (ch : List (Nat × List Int)), bytesOf x6 = ch.flatMap chunk → ch.map (·.2) = (ps.take n).map bytesOf → (∀ x ∈ ch, x.1 ≤ 2) → x6.size ≤ 6000 := by
    intro n x6 ch h1 h2 h3
    have e1 := chunk_len ch h3
    rw [← clean_of _ _ h2, ← h1, bytesOf_length] at e1
    have e2 := clean_split ps n
    have e3 := congrArg List.length e2
    rw [List.length_append] at e3
    omega
  induction d with
  | zero =>
    intro i x6 ch h0 h1 hd hx hch h2
    have hz := bound _ x6 ch hx hch h2
    have hall : ch.map (·.2) = ps.map bytesOf := by rw [hch, List.take_of_length_le (by omega)]
    have hp : bytesOf path = ch.flatMap (fun x => List.replicate (0 + 1) 47 ++ x.2) := by rw [hpath, clean_of _ _ hall]; rfl
    have k1 : pth false true (bytesOf x6) = pth false true (bytesOf path) := by
      have := pth_chunks ch (fun _ => 0) [] [] (fun _ _ => rfl) false true
      rw [List.append_nil, List.append_nil] at this
      rw [hx, hp]
      exact this
    have hb : bytesOf (x6 ++ (⟨#[47]⟩ : ByteArray)) = bytesOf x6 ++ [47] := by
      rw [bytes_append]
      rfl
    have hz2 : (x6 ++ (⟨#[47]⟩ : ByteArray)).size = x6.size + 1 := by
      rw [← bytesOf_length, hb, List.length_append, bytesOf_length]
      rfl
    have k2 : pth false true (bytesOf (x6 ++ (⟨#[47]⟩ : ByteArray))) = pth false true (bytesOf path) := by
      have := pth_chunks ch (fun _ => 0) [47] [] pth_end false true
      rw [List.append_nil] at this
      rw [hb, hx, hp]
      exact this
    obtain ⟨K1, e1⟩ := path_is x6 (by omega)
    obtain ⟨K2, e2⟩ := path_is path (by omega)
    obtain ⟨K3, e3⟩ := path_is (x6 ++ (⟨#[47]⟩ : ByteArray)) (by omega)
    obtain ⟨K4, e4⟩ := escapes_is
    dsimp only at e1 e2 e3
    refine ⟨K1 + K2 + K3 + K4 + 1, fun k hk => ?_⟩
    obtain ⟨k, rfl⟩ : ∃ m, k = m + 1 := ⟨k - 1, by omega⟩
    simp only [laws_FnPathSlashes.l0]
    rw [if_neg (by omega), e1 k (by omega), e2 k (by omega), e3 k (by omega), e4 k (by omega), k1, k2]
    simp only [Option.bind_some]
    rw [if_pos trivial, if_pos (by omega)]
    simp
  | succ d ih =>
    intro i x6 ch h0 h1 hd hx hch h2
    have hz := bound _ x6 ch hx hch h2
    obtain ⟨p, hp1, hp2, hp3⟩ := rdOf_at ByteArray.empty ps i h0 (by omega)
    have htake : ps.take (i.toNat + 1) = ps.take i.toNat ++ [p] := by
      rw [List.take_add_one, hp1]
      rfl
    have hps : p.size ≤ 2000 := by
      have e3 := congrArg List.length (clean_split ps i.toNat)
      rw [List.length_append, hp3, clean_cons, List.length_append, List.length_cons, bytesOf_length] at e3
      omega
    have go : ∀ (m : Nat), m ≤ 2 → Ev (fun k => laws_FnPathSlashes.j4 k more path x6 p ((m : Int) + 1) ps (ps.length : Int) i) true := by
      intro m hm2
      refine Ev.step (f := fun k => laws_FnPathSlashes.l1 k more path x6 p ps (ps.length : Int) i ((m : Int) + 1) 0) (fun k => rfl) ?_
      refine slashes more path p ps ((m : Int) + 1) (ps.length : Int) i h0 (by omega) (by omega) true (m + 1) x6 0 (by omega) (by omega) (by omega) (fun O hO => ?_)
      refine ih (i + 1) O (ch ++ [(m, bytesOf p)]) (by omega) (by omega) (by omega) ?_ ?_ ?_
      · rw [hO, hx, List.flatMap_append]
        simp [chunk]
      · rw [List.map_append, hch, show (i + 1).toNat = i.toNat + 1 by omega, htake, List.map_append]
        rfl
      · intro x hxm
        rcases List.mem_append.1 hxm with h | h
        · exact h2 x h
        · rw [List.mem_singleton.1 h]
          exact hm2
    have go0 := go 0 (by omega)
    have step3 : ∀ b : Bool, (b = true → i < more.length) → Ev (fun k => laws_FnPathSlashes.j3 k more path x6 i p 1 ps (ps.length : Int) i b) true := by
      intro b hb
      cases b with
      | true =>
        obtain ⟨m, hm2, he⟩ := number more hm i h0 (hb rfl)
        refine Ev.step (f := fun k => laws_FnPathSlashes.j4 k more path x6 p ((m : Int) + 1) ps (ps.length : Int) i) (fun k => ?_) (go m hm2)
        simp only [laws_FnPathSlashes.j3]
        rw [if_pos trivial, if_pos h0, if_pos (hb rfl), he]
      | false =>
        refine Ev.step (f := fun k => laws_FnPathSlashes.j4 k more path x6 p 1 ps (ps.length : Int) i) (fun k => ?_) go0
        simp only [laws_FnPathSlashes.j3]
        rw [if_neg (by simp)]
    by_cases c : i < (more.length : Int)
    · refine Ev.step (f := fun k => laws_FnPathSlashes.j3 k more path x6 i p 1 ps (ps.length : Int) i (decide (i < 20))) (fun k => ?_) (step3 _ (fun _ => c))
      simp only [laws_FnPathSlashes.l0]
      rw [if_pos (by omega), if_pos h0, if_pos (by omega), if_pos c, hp2]
    · refine Ev.step (f := fun k => laws_FnPathSlashes.j3 k more path x6 i p 1 ps (ps.length : Int) i false) (fun k => ?_) (step3 _ (fun h => by cases h))
      simp only [laws_FnPathSlashes.l0]
      rw [if_pos (by omega), if_pos h0, if_pos (by omega), if_neg c, hp2]

theorem fits_loop (l : List ByteArray) (hl : l.length ≤ 2147483647) (d : Nat) : ∀ (i : Int), 0 ≤ i → i ≤ l.length → (l.length : Int) - i = d →
    ∃ b, Ev (fun k => laws_zzFits4.l0 k l (l.length : Int) i) b ∧ (b = true → ∀ p ∈ l.drop i.toNat, p.size ≤ 2147483647) := by
  induction d with
  | zero =>
    intro i h0 h1 hd
    refine ⟨true, Ev.step (f := fun _ => some true) (fun k => ?_) (Ev.now _), fun _ p hp => ?_⟩
    · simp only [laws_zzFits4.l0]
      rw [if_neg (by omega)]
    · rw [List.drop_of_length_le (by omega)] at hp
      cases hp
  | succ d ih =>
    intro i h0 h1 hd
    obtain ⟨p, hp1, hp2, hp3⟩ := rdOf_at ByteArray.empty l i h0 (by omega)
    by_cases c : (p.size : Int) > 2147483647
    · refine ⟨false, Ev.step (f := fun _ => some false) (fun k => ?_) (Ev.now _), fun h => by cases h⟩
      simp only [laws_zzFits4.l0]
      rw [if_pos (by omega), if_pos h0, if_pos (by omega), hp2, if_pos c]
    · obtain ⟨b, hb, hb2⟩ := ih (i + 1) (by omega) (by omega) (by omega)
      refine ⟨b, Ev.step (f := fun k => laws_zzFits4.l0 k l (l.length : Int) (i + 1)) (fun k => ?_) hb, fun hb3 q hq => ?_⟩
      · simp only [laws_zzFits4.l0]
        rw [if_pos (by omega), if_pos h0, if_pos (by omega), hp2, if_neg c, wrap_succ h0 (by omega)]
      · rw [hp3] at hq
        rcases List.mem_cons.1 hq with rfl | hq
        · omega
        · exact hb2 hb3 q (by rw [show (i + 1).toNat = i.toNat + 1 by omega]; exact hq)

/-- THE PURE STATEMENT: more's numbers are bytes. -/
theorem pure (ps : List ByteArray) (more : List Int) (hm : ∀ c ∈ more, 0 ≤ c ∧ c ≤ 255) : ∃ k, laws_FnPathSlashes.f k ps more = some true := by
  have hj0 : ∀ k, laws_FnPathSlashes.j0 (k + 1) ps more true = some true := fun k => by simp only [laws_FnPathSlashes.j0]; rw [if_pos trivial]
  have hj1 : ∀ path k, laws_FnPathSlashes.j1 (k + 1) ps more path true = some true := fun path k => by simp only [laws_FnPathSlashes.j1]; rw [if_pos trivial]
  by_cases c0 : (ps.length : Int) > 2147483647
  · refine ⟨1, ?_⟩
    unfold laws_FnPathSlashes.f laws_zzFits4.f
    rw [if_pos c0, Option.bind_some, if_neg (by simp), hj0]
  · obtain ⟨b, ⟨K1, hb⟩, hfit⟩ := fits_loop ps (by omega) ps.length 0 (by omega) (by omega) (by omega)
    dsimp only at hb
    cases b with
    | false =>
      refine ⟨K1 + 1, ?_⟩
      unfold laws_FnPathSlashes.f laws_zzFits4.f
      rw [if_neg c0, hb _ (by omega), Option.bind_some, if_neg (by simp), hj0]
    | true =>
      have hsz : ∀ p ∈ ps, p.size ≤ 2147483647 := fun p hp => hfit rfl p (by simpa using hp)
      by_cases c1 : (more.length : Int) > 2147483647
      · refine ⟨K1 + 1, ?_⟩
        unfold laws_FnPathSlashes.f laws_zzFits4.f
        rw [if_neg c0, hb _ (by omega), Option.bind_some, if_pos rfl, decide_eq_true c1, hj0]
      · have cleaned : ∃ r, Ev (fun k => laws_cleaned.f k ps) r ∧ ((r.toList = ([] : List UInt8) ∨ r.toList = ([47] : List UInt8)) ∨ (bytesOf r = clean ps ∧ r.size ≤ 2000)) := by
          by_cases e : (ps.length : Int) = 0
          · refine ⟨⟨#[47]⟩, ⟨0, fun k _ => ?_⟩, .inl (.inr ?_)⟩
            · show laws_cleaned.f k ps = _
              unfold laws_cleaned.f
              rw [if_pos e]
            · rw [Lib.toList_data]
          · obtain ⟨r, ⟨K, hr⟩, hr2⟩ := cleaned_loop ps (by omega) hsz ps.length 0 ⟨#[]⟩ (by omega) (by omega) (by omega) (by decide)
            refine ⟨r, ⟨K, fun k hk => ?_⟩, ?_⟩
            · show laws_cleaned.f k ps = _
              unfold laws_cleaned.f
              rw [if_neg e]
              exact hr k hk
            · rcases hr2 with rfl | ⟨h1, h2⟩
              · exact .inl (.inl (by rw [Lib.toList_data]))
              · refine .inr ⟨?_, h2⟩
                rw [h1]
                simp [bytesOf]
        obtain ⟨r, ⟨K2, hr⟩, hr2⟩ := cleaned
        dsimp only at hr
        have start : ∀ k, K1 ≤ k → laws_FnPathSlashes.f k ps more = laws_FnPathSlashes.j0 k ps more false := by
          intro k hk
          unfold laws_FnPathSlashes.f laws_zzFits4.f
          rw [if_neg c0, hb _ hk, Option.bind_some, if_pos rfl, decide_eq_false c1]
        have second : ∀ k, K2 ≤ k → laws_FnPathSlashes.j0 (k + 1) ps more false = if r.toList = ([] : List UInt8) then laws_FnPathSlashes.j1 k ps more r true else laws_FnPathSlashes.j1 k ps more r (r.toList == ([47] : List UInt8)) := by
          intro k hk
          simp only [laws_FnPathSlashes.j0]
          rw [if_neg (by simp), hr k hk, Option.bind_some]
        by_cases e1 : r.toList = ([] : List UInt8)
        · refine ⟨K1 + K2 + 2, ?_⟩
          rw [start _ (by omega), second _ (by omega), if_pos e1, hj1]
        · by_cases e2 : r.toList = ([47] : List UInt8)
          · refine ⟨K1 + K2 + 2, ?_⟩
            rw [start _ (by omega), second _ (by omega), if_neg e1, e2]
            exact hj1 _ _
          · obtain ⟨h1, h2⟩ : bytesOf r = clean ps ∧ r.size ≤ 2000 := by
              rcases hr2 with (h | h) | h
              · exact absurd h e1
              · exact absurd h e2
              · exact h
            obtain ⟨K3, h3⟩ := parts_loop more hm r ps (by omega) h1 h2 ps.length 0 ⟨#[]⟩ [] (by omega) (by omega) (by omega) (by simp [bytesOf]) (by simp) (by simp)
            refine ⟨K1 + K2 + K3 + 2, ?_⟩
            rw [start _ (by omega), second _ (by omega), if_neg e1]
            have e3 : (r.toList == ([47] : List UInt8)) = false := by simpa using e2
            rw [e3]
            simp only [laws_FnPathSlashes.j1]
            rw [if_neg (by simp)]
            exact h3 _ (by omega)
end Go.Proofs.Ytlmmgienbmghmaa.PurePath
