/- The lexer of unit files, by hand: what it holds in memory. -/
import Derived.Test.YtlmmgienbmghmaaDoorLexI
set_option linter.unusedVariables false
set_option linter.unusedSimpArgs false
namespace Go.Proofs.YtlmmgienbmghmaaDoor.Lex
open Go.RowKit Go.Proofs.YtlmmgienbmghmaaDoorW.PrintWords Go.Proofs.YtlmmgienbmghmaaDoorW.PrintLast Go.Proofs.YtlmmgienbmghmaaDoorW.PrintMore Go.Proofs.YtlmmgienbmghmaaDoor.GivU Go.Proofs.YtlmmgienbmghmaaDoor.J
/-- What the lexer has found: a section, an option. -/
inductive Item where
  | sec (s : ByteArray)
  | opt (s n v : ByteArray)
/-- .. in memory: a section's block and its entries' block. -/
inductive Cel where
  | sec (k2 k3 : Nat) (s : ByteArray)
  | opt (s n v : ByteArray)
def Cel.item : Cel → Item
  | .sec _ _ s => .sec s
  | .opt s n v => .opt s n v
def CelK (w : World) (k : Nat) : Cel → Prop
  | .sec k2 _ _ => w.heap[k]? = some (.cells #[.int .i64 0, .pointer none, .pointer (some ⟨k2, 0, none⟩)] 83 (0, 0))
  | .opt s n v => ∃ k2, w.heap[k]? = some (.cells #[.int .i64 1, .pointer (some ⟨k2, 0, none⟩), .pointer none] 83 (0, 0)) ∧ w.heap[k2]? = some (.cells #[.string s, .string n, .string v] 48 (0, 0))
def CelM (w : World) (base : Nat) (ok : Nat → Prop) (k : Nat) : Cel → Prop
  | .sec k2 _ _ => w.heap[k]? = some (.cells #[.int .i64 0, .pointer none, .pointer (some ⟨k2, 0, none⟩)] 83 (0, 0))
  | .opt s n v => ∃ k2, base ≤ k2 ∧ ok k2 ∧ w.heap[k]? = some (.cells #[.int .i64 1, .pointer (some ⟨k2, 0, none⟩), .pointer none] 83 (0, 0)) ∧ w.heap[k2]? = some (.cells #[.string s, .string n, .string v] 48 (0, 0))
/-- A pointer to what was found. -/
def ld : Kd Cel where
  sz := 1
  E := [83, 48]
  K := fun w x cs => ∃ k, cs = [.pointer (some ⟨k, 0, none⟩)] ∧ CelK w k x
  M := fun w base ok x cs => ∃ k, cs = [.pointer (some ⟨k, 0, none⟩)] ∧ base ≤ k ∧ ok k ∧ CelM w base ok k x
  K_len := by rintro w x cs ⟨g, rfl, _⟩; rfl
  K_one := by rintro w x cs ⟨g, rfl, _⟩ u hu; rw [List.mem_singleton.1 hu]; rfl
  K_below := by
    rintro w w1 x cs hb ⟨g, rfl, h⟩
    refine ⟨g, rfl, ?_⟩
    cases x with
    | sec k2 k3 s => exact blk_below h hb
    | opt s n v => obtain ⟨k2, h1, h2⟩ := h; exact ⟨k2, blk_below h1 hb, blk_below h2 hb⟩
  K_of_M := by
    rintro w base ok x cs ⟨g, rfl, _, _, h⟩
    refine ⟨g, rfl, ?_⟩
    cases x with
    | sec k2 k3 s => exact h
    | opt s n v => obtain ⟨k2, _, _, h1, h2⟩ := h; exact ⟨k2, h1, h2⟩
  M_mono := by
    rintro w base ok ok' x cs hok ⟨g, rfl, h1, h2, h3⟩
    refine ⟨g, rfl, h1, hok g h2, ?_⟩
    cases x with
    | sec k2 k3 s => exact h3
    | opt s n v => obtain ⟨k2, a, b, c, d⟩ := h3; exact ⟨k2, a, hok k2 b, c, d⟩
  M_bound := by
    rintro w base ok x cs ⟨g, rfl, h1, h2, h3⟩
    cases x with
    | sec k2 k3 s => exact ⟨g, rfl, h1, ⟨h2, h1, blk_lt (show w.heap[g]? = _ from h3), _, List.mem_cons_self, _, h3⟩, h3⟩
    | opt s n v => obtain ⟨k2, a, b, c, d⟩ := h3; exact ⟨g, rfl, h1, ⟨h2, h1, blk_lt c, _, List.mem_cons_self, _, c⟩, k2, a, ⟨b, a, blk_lt d, _, List.mem_cons_of_mem _ List.mem_cons_self, _, d⟩, c, d⟩
  M_move := by
    rintro w w1 base ok x cs hm ⟨g, rfl, h1, h2, h3⟩
    refine ⟨g, rfl, h1, h2, ?_⟩
    cases x with
    | sec k2 k3 s => exact (hm g h2).trans h3
    | opt s n v => obtain ⟨k2, a, b, c, d⟩ := h3; exact ⟨k2, a, b, (hm g h2).trans c, (hm k2 b).trans d⟩
  M_lower := by
    rintro w base base' ok x cs hb ⟨g, rfl, h1, h2, h3⟩
    refine ⟨g, rfl, Nat.le_trans hb h1, h2, ?_⟩
    cases x with
    | sec k2 k3 s => exact h3
    | opt s n v => obtain ⟨k2, a, b, c, d⟩ := h3; exact ⟨k2, Nat.le_trans hb a, b, c, d⟩
/-- The sections found: each in blocks of its own, one behind the other, without entries. -/
def Secs (W : World) : Nat → List Cel → Prop
  | _, [] => True
  | lo, .opt _ _ _ :: l => Secs W lo l
  | lo, .sec k2 k3 s :: l => lo ≤ k2 ∧ lo ≤ k3 ∧ W.heap[k2]? = some (.cells #[.string s, .slice (some ⟨k3, 0, none⟩) 0 0] 59 (0, 0)) ∧ W.heap[k3]? = some (.cells #[] 63 (0, 0)) ∧ Secs W (max k2 k3 + 1) l
theorem Secs.frame {W W' : World} (hm : ∀ (k : Nat) (cs : Array Value) (T : TypeId), W.heap[k]? = some (.cells cs T (0, 0)) → (T = 59 ∨ T = 63) → W'.heap[k]? = some (.cells cs T (0, 0))) : ∀ (l : List Cel) (lo : Nat), Secs W lo l → Secs W' lo l
  | [], _, _ => trivial
  | .opt _ _ _ :: l, lo, h => Secs.frame hm l lo h
  | .sec _ _ _ :: l, lo, ⟨h1, h2, h3, h4, h5⟩ => ⟨h1, h2, hm _ _ _ h3 (.inl rfl), hm _ _ _ h4 (.inr rfl), Secs.frame hm l _ h5⟩
theorem Secs.snoc_opt {W : World} (s n v : ByteArray) : ∀ (l : List Cel) (lo : Nat), Secs W lo l → Secs W lo (l ++ [.opt s n v])
  | [], _, _ => trivial
  | .opt _ _ _ :: l, lo, h => Secs.snoc_opt s n v l lo h
  | .sec _ _ _ :: l, lo, ⟨h1, h2, h3, h4, h5⟩ => ⟨h1, h2, h3, h4, Secs.snoc_opt s n v l _ h5⟩
theorem Secs.snoc_sec {W W' : World} (hm : ∀ (k : Nat) (cs : Array Value) (T : TypeId), W.heap[k]? = some (.cells cs T (0, 0)) → (T = 59 ∨ T = 63) → W'.heap[k]? = some (.cells cs T (0, 0))) (k2 k3 : Nat) (s : ByteArray) (h2 : W.heap.size ≤ k2) (h3 : W.heap.size ≤ k3) (e2 : W'.heap[k2]? = some (.cells #[.string s, .slice (some ⟨k3, 0, none⟩) 0 0] 59 (0, 0))) (e3 : W'.heap[k3]? = some (.cells #[] 63 (0, 0))) : ∀ (l : List Cel) (lo : Nat), lo ≤ W.heap.size → Secs W lo l → Secs W' lo (l ++ [.sec k2 k3 s])
  | [], lo, hl, _ => ⟨Nat.le_trans hl h2, Nat.le_trans hl h3, e2, e3, trivial⟩
  | .opt _ _ _ :: l, lo, hl, h => Secs.snoc_sec hm k2 k3 s h2 h3 e2 e3 l lo hl h
  | .sec _ _ _ :: l, lo, hl, ⟨a1, a2, a3, a4, a5⟩ => ⟨a1, a2, hm _ _ _ a3 (.inl rfl), hm _ _ _ a4 (.inr rfl), Secs.snoc_sec hm k2 k3 s h2 h3 e2 e3 l _ (by have := blk_lt a3; have := blk_lt a4; omega) a5⟩
/-- The lexer at block p, its buffer at block g. -/
def LexB (W : World) (p g : Nat) (dv ev : Value) : Prop := W.heap[p]? = some (.cells #[.pointer (some ⟨g, 0, none⟩), dv, ev, .string ByteArray.empty] 79 (0, 0))
theorem LexB.c0 {W : World} {p g : Nat} {dv ev : Value} (h : LexB W p g dv ev) : W.cell? ⟨p, 0, none⟩ = some (.pointer (some ⟨g, 0, none⟩)) := (blk_cell h 0).trans rfl
theorem LexB.c1 {W : World} {p g : Nat} {dv ev : Value} (h : LexB W p g dv ev) : W.cell? ⟨p, 1, none⟩ = some dv := (blk_cell h 1).trans rfl
theorem LexB.c2 {W : World} {p g : Nat} {dv ev : Value} (h : LexB W p g dv ev) : W.cell? ⟨p, 2, none⟩ = some ev := (blk_cell h 2).trans rfl
theorem LexB.fz {W : World} {p g : Nat} {dv ev : Value} (h : LexB W p g dv ev) (j : Nat) : W.frozen? ⟨p, j, none⟩ = false := by simp [World.frozen?, show W.heap[p]? = _ from h]
theorem LexB.set1 {W : World} {p g : Nat} {dv ev : Value} (h : LexB W p g dv ev) (x : Value) : LexB (W.setCell ⟨p, 1, none⟩ x) p g x ev := by
  have : W.heap[p]? = _ := h
  simp [LexB, World.setCell, Array.getElem?_modify, this]
theorem LexB.set2 {W : World} {p g : Nat} {dv ev : Value} (h : LexB W p g dv ev) (x : Value) : LexB (W.setCell ⟨p, 2, none⟩ x) p g dv x := by
  have : W.heap[p]? = _ := h
  simp [LexB, World.setCell, Array.getElem?_modify, this]
structure LexAt (w0 W : World) (p g : Nat) (t : ByteArray) (b : Bf) (dv ev : Value) (cels : List Cel) : Prop where
  base : Below w0.heap.size w0 W
  hg : w0.heap.size ≤ g
  hp : w0.heap.size ≤ p
  buf : BufB W g t b
  ok : b.Ok t.size
  h4 : b.w ≤ 4096 + b.r
  lex : LexB W p g dv ev
  data : Kd.R ld 80 W w0.heap.size (fun _ => True) dv cels
  secs : Secs W w0.heap.size cels
theorem LexAt.pg {w0 W : World} {p g : Nat} {t : ByteArray} {b : Bf} {dv ev : Value} {cels : List Cel} (h : LexAt w0 W p g t b dv ev cels) : p ≠ g := ne_type h.lex h.buf (by decide)
/-- The buffer has changed, and new blocks are there. -/
theorem LexAt.step {w0 W W' : World} {p g : Nat} {t : ByteArray} {b b' : Bf} {dv ev : Value} {cels : List Cel} (h : LexAt w0 W p g t b dv ev cels) (c : Chg W W' (· = g)) (hb : BufB W' g t b') (ok : b'.Ok t.size) (h4 : b'.w ≤ 4096 + b'.r) : LexAt w0 W' p g t b' dv ev cels where
  base := h.base.trans (c.below (B := w0.heap.size) h.base.size (fun k hk => by rw [hk]; exact h.hg))
  hg := h.hg
  hp := h.hp
  buf := hb
  ok := ok
  h4 := h4
  lex := (c.block p (blk_lt h.lex) h.pg).trans h.lex
  data := Kd.R_mono (Kd.R_step (Kd.R_types h.data (show W.heap[g]? = _ from h.buf) (by decide)) (fun k hk hlt => c.block k hlt hk.2)) (fun _ _ => trivial)
  secs := Secs.frame (fun k cs T hk hT => (c.block k (blk_lt hk) (ne_type hk (show W.heap[g]? = _ from h.buf) (by rcases hT with rfl | rfl <;> decide))).trans hk) _ _ h.secs
theorem LexAt.below {w0 W W' : World} {p g : Nat} {t : ByteArray} {b : Bf} {dv ev : Value} {cels : List Cel} (h : LexAt w0 W p g t b dv ev cels) (hb : Below W.heap.size W W') : LexAt w0 W' p g t b dv ev cels :=
  h.step (Chg.of_below hb _) (BufAt.chg h.buf (Chg.of_below hb (fun _ => False)) (fun h => h)) h.ok h.h4
/-- What a step leaves. -/
def StepPost (w0 : World) (p g : Nat) (t : ByteArray) (cels : List Cel) (b' : Bf) (its : List Item) (o : Option Step) (e' : Ending) (W' : World) : Prop :=
  (∃ dv cels', cels'.map Cel.item = its ∧ LexAt w0 W' p g t b' dv .nilIface (cels ++ cels')) ∧
    match o with
    | some s' => ∃ v, e' = .returned (.tuple #[v, .nilIface]) ∧ StepAt W' p s' v
    | none => ∃ T q, e' = .returned (.tuple #[.nilFunc, .iface T q])
/-- A step that only reads on. -/
theorem StepPost.go {w0 W W' : World} {p g : Nat} {t : ByteArray} {b b' : Bf} {dv : Value} {cels : List Cel} {o : Option Step} {e' : Ending} (h : LexAt w0 W p g t b dv .nilIface cels) (c : Chg W W' (· = g)) (hb : BufB W' g t b') (ok : b'.Ok t.size) (h4 : b'.w ≤ 4096 + b'.r)
    (ho : match o with
      | some s' => ∃ v, e' = .returned (.tuple #[v, .nilIface]) ∧ StepAt W' p s' v
      | none => ∃ T q, e' = .returned (.tuple #[.nilFunc, .iface T q])) : StepPost w0 p g t cels b' [] o e' W' :=
  ⟨⟨dv, [], rfl, by rw [List.append_nil]; exact h.step c hb ok h4⟩, ho⟩
end Go.Proofs.YtlmmgienbmghmaaDoor.Lex
