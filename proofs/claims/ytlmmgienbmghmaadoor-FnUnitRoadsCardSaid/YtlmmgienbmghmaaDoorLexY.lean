/- The reader of unit files: newLexer; what stays as it is while deserializeAll goes on. -/
import Derived.Test.YtlmmgienbmghmaaDoorLexX
set_option linter.unusedVariables false
set_option linter.unusedSimpArgs false
namespace Go.Proofs.YtlmmgienbmghmaaDoor.Lex
open Go.RowKit Go.Proofs.YtlmmgienbmghmaaDoorW.PrintWords Go.Proofs.YtlmmgienbmghmaaDoorW.PrintLast Go.Proofs.YtlmmgienbmghmaaDoorW.PrintMore Go.Proofs.YtlmmgienbmghmaaDoor.GivU Go.Proofs.YtlmmgienbmghmaaDoor.J
set_option maxHeartbeats 4000000 in
set_option maxRecDepth 100000 in
theorem newLexer_is (t : ByteArray) (W : World) : Calls Tryd.prog 36 #[.string t] W fun e W' => ∃ p g, e = .returned (.pointer (some ⟨p, 0, none⟩)) ∧ LexAt W W' p g t ⟨0, 0, 0, false⟩ (.slice none 0 0) .nilIface [] := by
  go_enter Tryd.func36, Tryd.ntmps36
  go_wp2
  go_ret
  refine ⟨_, W.heap.size, rfl, ?_⟩
  have h1 := blk_new W (.cells #[.string t, .int .i64 0, .int .i64 0, .int .i64 0, .bool false] 88 (0, 0))
  have h2 := blk_new (W.alloc (.cells #[.string t, .int .i64 0, .int .i64 0, .int .i64 0, .bool false] 88 (0, 0))) (.cells #[.pointer (some ⟨W.heap.size, 0, none⟩), .slice none 0 0, .nilIface, .string ByteArray.empty] 79 (0, 0))
  rw [alloc_size] at h2
  exact {
    base := below_alloc (below_alloc (Below.refl _ _) _) _
    hg := Nat.le_refl _
    hp := by first | exact Nat.le_succ _ | omega
    buf := blk_alloc h1 _
    ok := ⟨Nat.le_refl _, Nat.zero_le _, Nat.zero_le _, fun h => by cases h⟩
    h4 := Nat.zero_le _
    lex := h2
    data := Kd.R_nil _ _ _ _ _
    secs := trivial }
/-- Blocks of other types are as they were. -/
def Same (W W' : World) (TS : List Nat) : Prop := W.heap.size ≤ W'.heap.size ∧ ∀ (k : Nat) (cs : Array Value) (T : TypeId), W.heap[k]? = some (.cells cs T (0, 0)) → T ∉ TS → W'.heap[k]? = some (.cells cs T (0, 0))
theorem Same.below {W W' : World} (h : Below W.heap.size W W') (TS : List Nat) : Same W W' TS := ⟨h.size, fun k cs T hk _ => blk_below hk h⟩
theorem Same.trans {A B C : World} {TS : List Nat} (h : Same A B TS) (k : Same B C TS) : Same A C TS := ⟨Nat.le_trans h.1 k.1, fun i cs T hi ht => k.2 i cs T (h.2 i cs T hi ht) ht⟩
theorem Same.set {W : World} {q : Nat} {cs : Array Value} {T : TypeId} (hq : W.heap[q]? = some (.cells cs T (0, 0))) (j : Nat) (u : Value) : Same W (W.setCell ⟨q, j, none⟩ u) [T] :=
  ⟨by simp [World.setCell], fun k cs' T' hk ht => (Below.heap_setCell W ⟨q, j, none⟩ u k (ne_type hk hq (fun e => ht (by rw [e]; exact List.mem_singleton.2 rfl)))).trans hk⟩
theorem Same.grown {α : Type} {d : Kd α} {W W' : World} {e B : Nat} {ok : Nat → Prop} {v : Value} {xs : List α} (hR : Kd.R d e W B ok v xs) (hg : W.grownBy W' v.ownBlock) (hz : W.heap.size ≤ W'.heap.size) : Same W W' [e] :=
  ⟨hz, fun k cs T hk ht => blk_grown hk hg (Kd.R_ne hR hk (fun h => ht (by rw [h]; exact List.mem_singleton.2 rfl)))⟩
theorem Same.mono {W W' : World} {TS TS' : List Nat} (h : Same W W' TS) (hs : ∀ x ∈ TS, x ∈ TS') : Same W W' TS' := ⟨h.1, fun k cs T hk ht => h.2 k cs T hk (fun hm => ht (hs _ hm))⟩
theorem Same.R {α : Type} {d : Kd α} {W W' : World} {TS : List Nat} (h : Same W W' TS) {e B : Nat} {ok : Nat → Prop} {v : Value} {xs : List α} (hR : Kd.R d e W B ok v xs) (ht : ∀ q, q ∈ e :: d.E → q ∉ TS) : Kd.R d e W' B ok v xs :=
  Kd.R_mono (Kd.R_move (Kd.R_bound hR) (fun k hk => by
    obtain ⟨_, _, _, q, hq, cells, hc⟩ := hk
    rw [hc]
    exact h.2 k cells q hc (ht q hq))) (fun _ hk => hk.1)
theorem Same.keeps {W W' : World} {TS : List Nat} (h : Same W W' TS) (h1 : 59 ∉ TS) (h2 : 63 ∉ TS) (h3 : 65 ∉ TS) : Keeps W W' (fun _ => False) (fun _ => False) :=
  ⟨fun k cs hk _ => h.2 k cs _ hk h1, fun k cs T hk hT _ => h.2 k cs T hk (by rcases hT with rfl | rfl <;> assumption)⟩
theorem Secs.lt {W : World} {k2 k3 : Nat} {s : ByteArray} : ∀ (l : List Cel) (lo : Nat), Secs W lo l → Cel.sec k2 k3 s ∈ l → k2 < W.heap.size ∧ k3 < W.heap.size
  | [], _, _, h => by cases h
  | .opt _ _ _ :: l, lo, hs, h => by
    rcases List.mem_cons.1 h with h | h
    · cases h
    · exact Secs.lt l lo hs h
  | .sec _ _ _ :: l, lo, ⟨h1, h2, h3, h4, h5⟩, h => by
    rcases List.mem_cons.1 h with h | h
    · cases h
      exact ⟨blk_lt h3, blk_lt h4⟩
    · exact Secs.lt l _ h5 h
/-- An empty row in a block of no cells. -/
theorem empty_row {α : Type} (d : Kd α) {W : World} {e B0 k3 : Nat} {ok : Nat → Prop} (h : W.heap[k3]? = some (.cells #[] e (0, 0))) (hb : B0 ≤ k3) (hok : ok k3) : Kd.R d e W B0 ok (.slice (some ⟨k3, 0, none⟩) 0 0) [] := by
  refine ⟨fun k hk => ?_, [], ⟨by simp, .inr ⟨k3, 0, #[], rfl, hb, h, by simp, by unfold maxLen; omega, by simp, by simp⟩⟩, by simp, ?_⟩
  · have : k3 = k := by simpa [Value.ownBlock] using hk
    rw [← this]; exact hok
  · intro j p hp
    simp at hp
theorem SecsT_k3 {W : World} {B0 H0 : Nat} : ∀ (l : List SecSt) (hi : Nat), SecsT W B0 H0 hi l → ∀ y ∈ l, y.k3 < H0
  | [], _, _, y, hy => by cases hy
  | x :: l, hi, ⟨vE, lo, h1, h2, h3, h4, h5, h6, h7⟩, y, hy => by
    rcases List.mem_cons.1 hy with rfl | hy
    · exact h3
    · exact SecsT_k3 l lo h7 y hy
theorem Secs_keeps {W W' : World} {c2 ob : Nat → Prop} {H0 : Nat} (h : Keeps W W' c2 ob) : ∀ (l : List Cel) (lo : Nat), (∀ k2, lo ≤ k2 → ¬ c2 k2) → (∀ k3, lo ≤ k3 → k3 < H0 → ¬ ob k3) → (∀ k2 k3 s, Cel.sec k2 k3 s ∈ l → k2 < H0 ∧ k3 < H0) → Secs W lo l → Secs W' lo l
  | [], _, _, _, _, _ => trivial
  | .opt _ _ _ :: l, lo, h2, h3, hl, hs => Secs_keeps h l lo h2 h3 (fun k2 k3 s hm => hl k2 k3 s (List.mem_cons_of_mem _ hm)) hs
  | .sec k2 k3 s :: l, lo, h2, h3, hl, ⟨a1, a2, a3, a4, a5⟩ => ⟨a1, a2, h.1 _ _ a3 (h2 k2 a1), h.2 _ _ _ a4 (.inl rfl) (h3 k3 a2 (hl k2 k3 s List.mem_cons_self).2), Secs_keeps h l _ (fun k hk => h2 k (by omega)) (fun k hk hH => h3 k (by omega) hH) (fun k2 k3 s hm => hl k2 k3 s (List.mem_cons_of_mem _ hm)) a5⟩
/-- deserializeAll on its way. -/
structure DSt (w0 w : World) (p g H0 : Nat) (dv ev : Value) (cels : List Cel) (rsl : List SecSt) (v6 : Value) (os : List (ByteArray × ByteArray × ByteArray)) (v7 : Value) (lo : Nat) (rest : List Cel) : Prop where
  base : Below w0.heap.size w0 w
  hz : H0 ≤ w.heap.size
  lex : LexB w p g dv ev
  data : Kd.R ld 80 w w0.heap.size (fun _ => True) dv cels
  r6 : Kd.R psl 56 w w0.heap.size (fun _ => True) v6 (rsl.reverse.map SecSt.k2)
  r7 : Kd.R popt 47 w w0.heap.size (fun _ => True) v7 os
  secs : SecsH w w0.heap.size H0 rsl
  rest : Secs w lo rest
  lows : ∀ x ∈ rsl, x.k2 < lo ∧ x.k3 < lo
/-- New blocks, draws. -/
theorem DSt.below {w0 w w' : World} {p g H0 : Nat} {dv ev : Value} {cels : List Cel} {rsl : List SecSt} {v6 : Value} {os : List (ByteArray × ByteArray × ByteArray)} {v7 : Value} {lo : Nat} {rest : List Cel} (h : DSt w0 w p g H0 dv ev cels rsl v6 os v7 lo rest) (hb : Below w.heap.size w w') : DSt w0 w' p g H0 dv ev cels rsl v6 os v7 lo rest where
  base := below_step h.base hb
  hz := Nat.le_trans h.hz hb.size
  lex := blk_below h.lex hb
  data := Kd.R_below h.data hb
  r6 := Kd.R_below h.r6 hb
  r7 := Kd.R_below h.r7 hb
  secs := SecsH.frame ((Same.below hb []).keeps (by decide) (by decide) (by decide)) hb.size _ h.secs
  rest := Secs.frame (fun k cs T hk _ => blk_below hk hb) _ _ h.rest
  lows := h.lows
/-- A section is appended. -/
theorem DSt.sec {w0 w w' : World} {p g H0 : Nat} {dv ev : Value} {cels : List Cel} {rsl : List SecSt} {v6 v6' : Value} {os : List (ByteArray × ByteArray × ByteArray)} {v7 : Value} {lo k2 k3 : Nat} {s : ByteArray} {rest : List Cel} (h : DSt w0 w p g H0 dv ev cels rsl v6 os v7 lo (.sec k2 k3 s :: rest))
    (hlo : w0.heap.size ≤ lo) (h3 : k3 < H0) (hb : Below w0.heap.size w0 w') (hS : Same w w' [56]) (hr : Kd.R psl 56 w' w0.heap.size (fun _ => True) v6' (rsl.reverse.map SecSt.k2 ++ [k2])) :
    DSt w0 w' p g H0 dv ev cels (⟨k2, k3, (s, [])⟩ :: rsl) v6' os v7 (max k2 k3 + 1) rest := by
  obtain ⟨a1, a2, a3, a4, a5⟩ := h.rest
  have e2 := hS.2 _ _ _ a3 (by decide)
  have e3 := hS.2 _ _ _ a4 (by decide)
  exact {
    base := hb
    hz := Nat.le_trans h.hz hS.1
    lex := hS.2 _ _ _ h.lex (by decide)
    data := hS.R h.data (by decide)
    r6 := by rw [List.reverse_cons, List.map_append]; exact hr
    r7 := hS.R h.r7 (by decide)
    secs := SecsH.push ⟨k2, k3, (s, [])⟩ _ (Nat.le_trans h.hz hS.1) h3 e2 (empty_row pent e3 (Nat.le_trans hlo a2) (.inl rfl)) rsl (fun x hx => by have := h.lows x hx; exact ⟨by show x.k2 ≠ k2; omega, by show x.k3 ≠ k3; omega⟩) (SecsH.frame (hS.keeps (by decide) (by decide) (by decide)) hS.1 _ h.secs)
    rest := Secs.frame (fun k cs T hk hT => hS.2 k cs T hk (by rcases hT with rfl | rfl <;> decide)) _ _ a5
    lows := fun x hx => by
      rcases List.mem_cons.1 hx with rfl | hx
      · exact ⟨by show k2 < max k2 k3 + 1; omega, by show k3 < max k2 k3 + 1; omega⟩
      · have := h.lows x hx; exact ⟨by omega, by omega⟩ }
/-- An option is appended. -/
theorem DSt.opt {w0 w w' : World} {p g H0 : Nat} {dv ev : Value} {cels : List Cel} {rsl : List SecSt} {v6 : Value} {os : List (ByteArray × ByteArray × ByteArray)} {v7 v7' : Value} {lo : Nat} {x : ByteArray × ByteArray × ByteArray} {rest : List Cel} (h : DSt w0 w p g H0 dv ev cels rsl v6 os v7 lo (.opt x.1 x.2.1 x.2.2 :: rest))
    (hb : Below w0.heap.size w0 w') (hS : Same w w' [47]) (hr : Kd.R popt 47 w' w0.heap.size (fun _ => True) v7' (os ++ [x])) :
    DSt w0 w' p g H0 dv ev cels rsl v6 (os ++ [x]) v7' lo rest where
  base := hb
  hz := Nat.le_trans h.hz hS.1
  lex := hS.2 _ _ _ h.lex (by decide)
  data := hS.R h.data (by decide)
  r6 := hS.R h.r6 (by decide)
  r7 := hr
  secs := SecsH.frame (hS.keeps (by decide) (by decide) (by decide)) hS.1 _ h.secs
  rest := Secs.frame (fun k cs T hk hT => hS.2 k cs T hk (by rcases hT with rfl | rfl <;> decide)) _ _ h.rest
  lows := h.lows
/-- An entry is appended to the last section. -/
theorem DSt.entry {w0 w w' : World} {p g H0 : Nat} {dv ev : Value} {cels : List Cel} {x : SecSt} {rsl : List SecSt} {v6 : Value} {os : List (ByteArray × ByteArray × ByteArray)} {v7 : Value} {lo : Nat} {rest : List Cel} {vE vE' : Value} {lx : Nat} {es : List (ByteArray × ByteArray)} (h : DSt w0 w p g H0 dv ev cels (x :: rsl) v6 os v7 lo rest)
    (hH : H0 ≤ lx) (hlx : lx ≤ w.heap.size) (h3 : x.k3 < H0) (hd : ∀ y ∈ rsl, y.k2 ≠ x.k2 ∧ y.k3 ≠ x.k3) (hT : SecsT w w0.heap.size H0 lx rsl) (hx2 : w.heap[x.k2]? = some (.cells #[.string x.sp.1, vE] 59 (0, 0)))
    (hob : ∀ k, vE.ownBlock = some k → k = x.k3 ∨ lx ≤ k) (hlow : x.k2 < lo ∧ x.k3 < lo) (hrest2 : ∀ k, vE.ownBlock = some k → ∀ k3, lo ≤ k3 → k3 < H0 → k ≠ k3) (hrestH : ∀ k2 k3 s, Cel.sec k2 k3 s ∈ rest → k2 < H0 ∧ k3 < H0)
    (hb : Below w0.heap.size w0 w') (hz : w.heap.size ≤ w'.heap.size) (hS : Same w w' [59, 63])
    (hK : Keeps w w' (· = x.k2) (fun k => vE.ownBlock = some k)) (he2 : w'.heap[x.k2]? = some (.cells #[.string x.sp.1, vE'] 59 (0, 0))) (hR : Kd.R pent 63 w' w0.heap.size (fun k => k = x.k3 ∨ lx ≤ k) vE' es) :
    DSt w0 w' p g H0 dv ev cels (⟨x.k2, x.k3, (x.sp.1, es)⟩ :: rsl) v6 os v7 lo rest where
  base := hb
  hz := Nat.le_trans h.hz hz
  lex := hS.2 _ _ _ h.lex (by decide)
  data := hS.R h.data (by decide)
  r6 := by have := hS.R h.r6 (by decide); rw [List.reverse_cons, List.map_append] at this ⊢; exact this
  r7 := hS.R h.r7 (by decide)
  secs := ⟨vE', lx, hH, Nat.le_trans hlx hz, h3, hd, he2, hR, SecsT.keeps hK rsl lx (fun y hy => ⟨(hd y hy).1, fun ho => by rcases hob _ ho with e | e; exact (hd y hy).2 e; have := (SecsT_k3 rsl lx hT y hy); omega⟩) (fun k hk => by rcases hob k hk with e | e; exact .inl (by omega); exact .inr e) hT⟩
  rest := Secs_keeps hK rest lo (fun k2 hk2 => by omega) (fun k3 hk3 hH3 ho => hrest2 _ ho k3 hk3 hH3 rfl) hrestH h.rest
  lows := fun y hy => by
    rcases List.mem_cons.1 hy with rfl | hy
    · exact hlow
    · exact h.lows y (List.mem_cons_of_mem _ hy)
end Go.Proofs.YtlmmgienbmghmaaDoor.Lex
