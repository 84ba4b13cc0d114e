import Derived.Test.YtlmmgienbmghmaaDoorLexT
import Derived.Test.YtlmmgienbmghmaaDoorJ1
/- The lexer of unit files, by hand: the next steps as values, and their makers. -/
set_option linter.unusedVariables false
set_option linter.unusedSimpArgs false
namespace Go.Proofs.YtlmmgienbmghmaaDoor.Lex
open Go.RowKit Go.Proofs.YtlmmgienbmghmaaDoorW.PrintWords Go.Proofs.YtlmmgienbmghmaaDoorW.PrintLast Go.Proofs.YtlmmgienbmghmaaDoorW.PrintMore Go.Proofs.YtlmmgienbmghmaaDoor.GivU Go.Proofs.YtlmmgienbmghmaaDoor.J
/-- The lexer's next step. -/
inductive Step where
  | stop
  | sec
  | name
  | ign (s : Step)
  | suf (s : ByteArray)
  | soo (s : ByteArray)
  | optn (s : ByteArray)
  | optv (s n d : ByteArray)
/-- A box: a block of one cell. -/
def Box (W : World) (q : Nat) (T : TypeId) (v : Value) : Prop := W.heap[q]? = some (.cells #[v] T (0, 0))
theorem Box.cell {W : World} {q : Nat} {T : TypeId} {v : Value} (h : Box W q T v) : W.cell? ⟨q, 0, none⟩ = some v := (blk_cell h 0).trans rfl
theorem Box.fz {W : World} {q : Nat} {T : TypeId} {v : Value} (h : Box W q T v) : W.frozen? ⟨q, 0, none⟩ = false := by simp [World.frozen?, show W.heap[q]? = _ from h]
theorem Box.lt {W : World} {q : Nat} {T : TypeId} {v : Value} (h : Box W q T v) : q < W.heap.size := blk_lt h
theorem Box.below {W W' : World} {q : Nat} {T : TypeId} {v : Value} (h : Box W q T v) (hb : Below W.heap.size W W') : Box W' q T v := (hb.block q h.lt).trans h
theorem Box.chg {W W' : World} {S : Nat → Prop} {q : Nat} {T : TypeId} {v : Value} (h : Box W q T v) (c : Chg W W' S) (hS : ¬ S q) : Box W' q T v := (c.block q h.lt hS).trans h
theorem ne_type {W : World} {q g : Nat} {a b : Array Value} {T T2 : TypeId} (h : W.heap[q]? = some (.cells a T (0, 0))) (h2 : W.heap[g]? = some (.cells b T2 (0, 0))) (hT : T ≠ T2) : q ≠ g := by
  rintro rfl
  rw [h] at h2
  injection h2 with h2
  injection h2 with _ h3
  exact hT h3
theorem alloc_size (W : World) (o : Obj) : (W.alloc o).heap.size = W.heap.size + 1 := by show (W.heap.push _).size = _; rw [Array.size_push]
theorem boxes2 (W : World) (u1 u2 : Value) (T1 T2 : TypeId) : Box ((W.alloc (.cells #[u1] T1 (0, 0))).alloc (.cells #[u2] T2 (0, 0))) W.heap.size T1 u1 ∧ Box ((W.alloc (.cells #[u1] T1 (0, 0))).alloc (.cells #[u2] T2 (0, 0))) (W.heap.size + 1) T2 u2 ∧ Below W.heap.size W ((W.alloc (.cells #[u1] T1 (0, 0))).alloc (.cells #[u2] T2 (0, 0))) := by
  refine ⟨blk_alloc (blk_new W _) _, ?_, below_alloc (below_alloc (Below.refl _ _) _) _⟩
  have := blk_new (W.alloc (.cells #[u1] T1 (0, 0))) (.cells #[u2] T2 (0, 0))
  rw [alloc_size] at this
  exact this
/-- A step as a value: the function, and what lies in its boxes. -/
def StepAt (W : World) (p : Nat) : Step → Value → Prop
  | .stop, v => v = .nilFunc
  | .sec, v => v = .func (.func 42) #[.pointer (some ⟨p, 0, none⟩)] #[]
  | .name, v => v = .func (.func 55) #[.pointer (some ⟨p, 0, none⟩)] #[]
  | .ign s, v => ∃ q0 q1 fn f1 f2, v = .func (.func 67) #[] #[.pointer (some ⟨q0, 0, none⟩), .pointer (some ⟨q1, 0, none⟩)] ∧ Box W q0 74 (.pointer (some ⟨p, 0, none⟩)) ∧ Box W q1 95 (.func fn f1 f2) ∧ StepAt W p s (.func fn f1 f2)
  | .suf s, v => ∃ q0 q1, v = .func (.func 73) #[] #[.pointer (some ⟨q0, 0, none⟩), .pointer (some ⟨q1, 0, none⟩)] ∧ Box W q0 74 (.pointer (some ⟨p, 0, none⟩)) ∧ Box W q1 9 (.string s)
  | .soo s, v => ∃ q0 q1, v = .func (.func 80) #[] #[.pointer (some ⟨q0, 0, none⟩), .pointer (some ⟨q1, 0, none⟩)] ∧ Box W q0 74 (.pointer (some ⟨p, 0, none⟩)) ∧ Box W q1 9 (.string s)
  | .optn s, v => ∃ q0 q1, v = .func (.func 91) #[] #[.pointer (some ⟨q0, 0, none⟩), .pointer (some ⟨q1, 0, none⟩)] ∧ Box W q0 74 (.pointer (some ⟨p, 0, none⟩)) ∧ Box W q1 9 (.string s)
  | .optv s n d, v => ∃ q0 q1 q2 q3, p < q1 ∧ q2 ≠ q1 ∧ q3 ≠ q1 ∧ v = .func (.func 106) #[] #[.pointer (some ⟨q0, 0, none⟩), .pointer (some ⟨q1, 0, none⟩), .pointer (some ⟨q2, 0, none⟩), .pointer (some ⟨q3, 0, none⟩)] ∧ Box W q0 74 (.pointer (some ⟨p, 0, none⟩)) ∧ Box W q1 9 (.string d) ∧ Box W q2 9 (.string s) ∧ Box W q3 9 (.string n)
theorem StepAt.chg {W W' : World} {p : Nat} {S : Nat → Prop} (c : Chg W W' S) (hS : ∀ k, S k → ∃ cs T, W.heap[k]? = some (.cells cs T (0, 0)) ∧ T ≠ 74 ∧ T ≠ 9 ∧ T ≠ 95) : ∀ (s : Step) (v : Value), StepAt W p s v → StepAt W' p s v
  | .stop, v, h => h
  | .sec, v, h => h
  | .name, v, h => h
  | .ign s, v, ⟨q0, q1, fn, f1, f2, e, h0, h1, hs⟩ => ⟨q0, q1, fn, f1, f2, e, h0.chg c (fun hq => by obtain ⟨cs, T, h, t1, t2, t3⟩ := hS _ hq; exact ne_type h0 h t1.symm rfl), h1.chg c (fun hq => by obtain ⟨cs, T, h, t1, t2, t3⟩ := hS _ hq; exact ne_type h1 h t3.symm rfl), StepAt.chg c hS s _ hs⟩
  | .suf s, v, ⟨q0, q1, e, h0, h1⟩ => ⟨q0, q1, e, h0.chg c (fun hq => by obtain ⟨cs, T, h, t1, t2, t3⟩ := hS _ hq; exact ne_type h0 h t1.symm rfl), h1.chg c (fun hq => by obtain ⟨cs, T, h, t1, t2, t3⟩ := hS _ hq; exact ne_type h1 h t2.symm rfl)⟩
  | .soo s, v, ⟨q0, q1, e, h0, h1⟩ => ⟨q0, q1, e, h0.chg c (fun hq => by obtain ⟨cs, T, h, t1, t2, t3⟩ := hS _ hq; exact ne_type h0 h t1.symm rfl), h1.chg c (fun hq => by obtain ⟨cs, T, h, t1, t2, t3⟩ := hS _ hq; exact ne_type h1 h t2.symm rfl)⟩
  | .optn s, v, ⟨q0, q1, e, h0, h1⟩ => ⟨q0, q1, e, h0.chg c (fun hq => by obtain ⟨cs, T, h, t1, t2, t3⟩ := hS _ hq; exact ne_type h0 h t1.symm rfl), h1.chg c (fun hq => by obtain ⟨cs, T, h, t1, t2, t3⟩ := hS _ hq; exact ne_type h1 h t2.symm rfl)⟩
  | .optv s n d, v, ⟨q0, q1, q2, q3, np, n2, n3, e, h0, h1, h2, h3⟩ => ⟨q0, q1, q2, q3, np, n2, n3, e, h0.chg c (fun hq => by obtain ⟨cs, T, h, t1, t2, t3⟩ := hS _ hq; exact ne_type h0 h t1.symm rfl), h1.chg c (fun hq => by obtain ⟨cs, T, h, t1, t2, t3⟩ := hS _ hq; exact ne_type h1 h t2.symm rfl), h2.chg c (fun hq => by obtain ⟨cs, T, h, t1, t2, t3⟩ := hS _ hq; exact ne_type h2 h t2.symm rfl), h3.chg c (fun hq => by obtain ⟨cs, T, h, t1, t2, t3⟩ := hS _ hq; exact ne_type h3 h t2.symm rfl)⟩
theorem StepAt.below {W W' : World} {p : Nat} (hb : Below W.heap.size W W') (s : Step) (v : Value) (h : StepAt W p s v) : StepAt W' p s v := StepAt.chg (Chg.of_below hb (fun _ => False)) (fun _ h => h.elim) s v h
set_option maxHeartbeats 4000000 in
set_option maxRecDepth 100000 in
theorem ignFunc_is (p : Nat) (s : Step) (fn : Fn) (f1 f2 : Array Value) (W : World) (h : StepAt W p s (.func fn f1 f2)) :
    Calls Tryd.prog 57 #[.pointer (some ⟨p, 0, none⟩), .func fn f1 f2] W fun e W' => ∃ fn' f1' f2', e = .returned (.func fn' f1' f2') ∧ StepAt W' p (.ign s) (.func fn' f1' f2') ∧ Below W.heap.size W W' := by
  obtain ⟨b0, b1, hb⟩ := boxes2 W (.pointer (some ⟨p, 0, none⟩)) (.func fn f1 f2) 74 95
  have H := Lib.hid (show StepAt _ p (.ign s) _ from ⟨_, _, fn, f1, f2, rfl, b0, b1, h.below hb⟩)
  have HB := Lib.hid hb
  clear b0 b1 hb h
  go_enter Tryd.func57, Tryd.ntmps57
  go_wp2
  go_ret
  exact ⟨_, _, _, rfl, H.out, HB.out⟩
set_option maxHeartbeats 4000000 in
set_option maxRecDepth 100000 in
theorem sufFunc_is (p : Nat) (s : ByteArray) (W : World) :
    Calls Tryd.prog 66 #[.pointer (some ⟨p, 0, none⟩), .string s] W fun e W' => ∃ fn' f1' f2', e = .returned (.func fn' f1' f2') ∧ StepAt W' p (.suf s) (.func fn' f1' f2') ∧ Below W.heap.size W W' := by
  obtain ⟨b0, b1, hb⟩ := boxes2 W (.pointer (some ⟨p, 0, none⟩)) (.string s) 74 9
  have H := Lib.hid (show StepAt _ p (.suf s) _ from ⟨_, _, rfl, b0, b1⟩)
  have HB := Lib.hid hb
  clear b0 b1 hb
  go_enter Tryd.func66, Tryd.ntmps66
  go_wp2
  go_ret
  exact ⟨_, _, _, rfl, H.out, HB.out⟩
set_option maxHeartbeats 4000000 in
set_option maxRecDepth 100000 in
theorem sooFunc_is (p : Nat) (s : ByteArray) (W : World) :
    Calls Tryd.prog 75 #[.pointer (some ⟨p, 0, none⟩), .string s] W fun e W' => ∃ fn' f1' f2', e = .returned (.func fn' f1' f2') ∧ StepAt W' p (.soo s) (.func fn' f1' f2') ∧ Below W.heap.size W W' := by
  obtain ⟨b0, b1, hb⟩ := boxes2 W (.pointer (some ⟨p, 0, none⟩)) (.string s) 74 9
  have H := Lib.hid (show StepAt _ p (.soo s) _ from ⟨_, _, rfl, b0, b1⟩)
  have HB := Lib.hid hb
  clear b0 b1 hb
  go_enter Tryd.func75, Tryd.ntmps75
  go_wp2
  go_ret
  exact ⟨_, _, _, rfl, H.out, HB.out⟩
set_option maxHeartbeats 4000000 in
set_option maxRecDepth 100000 in
theorem optnFunc_is (p : Nat) (s : ByteArray) (W : World) :
    Calls Tryd.prog 83 #[.pointer (some ⟨p, 0, none⟩), .string s] W fun e W' => ∃ fn' f1' f2', e = .returned (.func fn' f1' f2') ∧ StepAt W' p (.optn s) (.func fn' f1' f2') ∧ Below W.heap.size W W' := by
  obtain ⟨b0, b1, hb⟩ := boxes2 W (.pointer (some ⟨p, 0, none⟩)) (.string s) 74 9
  have H := Lib.hid (show StepAt _ p (.optn s) _ from ⟨_, _, rfl, b0, b1⟩)
  have HB := Lib.hid hb
  clear b0 b1 hb
  go_enter Tryd.func83, Tryd.ntmps83
  go_wp2
  go_ret
  exact ⟨_, _, _, rfl, H.out, HB.out⟩
set_option maxHeartbeats 4000000 in
set_option maxRecDepth 100000 in
theorem optvFunc_is (p : Nat) (s n d : ByteArray) (W : World) (hp : p < W.heap.size) :
    Calls Tryd.prog 93 #[.pointer (some ⟨p, 0, none⟩), .string s, .string n, .string d] W fun e W' => ∃ fn' f1' f2', e = .returned (.func fn' f1' f2') ∧ StepAt W' p (.optv s n d) (.func fn' f1' f2') ∧ Below W.heap.size W W' := by
  obtain ⟨b0, b1, hb⟩ := boxes2 W (.pointer (some ⟨p, 0, none⟩)) (.string s) 74 9
  have hz : ((W.alloc (.cells #[.pointer (some ⟨p, 0, none⟩)] 74 (0, 0))).alloc (.cells #[.string s] 9 (0, 0))).heap.size = W.heap.size + 2 := by rw [alloc_size, alloc_size]
  obtain ⟨b2, b3, hb2⟩ := boxes2 ((W.alloc (.cells #[.pointer (some ⟨p, 0, none⟩)] 74 (0, 0))).alloc (.cells #[.string s] 9 (0, 0))) (.string n) (.string d) 9 9
  rw [hz] at b2 b3
  have H := Lib.hid (show StepAt _ p (.optv s n d) _ from ⟨_, _, _, _, by omega, by omega, by omega, rfl, b0.below hb2, b3, b1.below hb2, b2⟩)
  have HB := Lib.hid (below_step hb hb2)
  clear b0 b1 hb b2 b3 hb2 hz hp
  go_enter Tryd.func93, Tryd.ntmps93
  go_wp2
  go_ret
  exact ⟨_, _, _, rfl, H.out, HB.out⟩
set_option maxHeartbeats 4000000 in
set_option maxRecDepth 100000 in
theorem errors_New_is (s : ByteArray) (W : World) : Calls Tryd.prog 38 #[.string s] W fun e W' => e = .returned (.iface 97 (.pointer (some ⟨W.heap.size, 0, none⟩))) ∧ Below W.heap.size W W' := by
  go_enter Tryd.func38, Tryd.ntmps38
  go_wp2
  go_ret
  exact ⟨rfl, below_alloc (Below.refl _ _) _⟩
theorem conv_is (W : World) (A : Option Addr) (n c : Nat) (l : List UInt8) (hn : n = l.length) (h : (Kd.int .u8).C W A l.length (l.map fun b => (b.toNat : Int))) : (convert 26 9 (.slice A n c)).run Tryd.prog W = .ok (.string ⟨l.toArray⟩) W := by
  subst hn
  cases l with
  | nil =>
    cases A with
    | none => exact run_convert_bytes_nil W 26 5 Tryd.underlying26 Tryd.underlying5 0 c 9 Tryd.underlying9
    | some a => exact run_convert_bytes_back W 26 9 5 a c [] Tryd.underlying26 Tryd.underlying5 Tryd.underlying9 (fun j hj => absurd hj (Nat.not_lt_zero j))
  | cons x l =>
    obtain ⟨a, rfl, -⟩ := Kd.at_int h 0 (by omega) (by simp)
    refine run_convert_bytes_back W 26 9 5 a c (x :: l) Tryd.underlying26 Tryd.underlying5 Tryd.underlying9 (fun j hj => ?_)
    obtain ⟨a', ha', hc⟩ := Kd.at_int h (j : Int) (by omega) (by omega)
    obtain rfl := Option.some.inj ha'
    have e1 : (j : Int).toNat = j := by omega
    rw [e1] at hc
    rw [hc]
    have : rd ((x :: l).map fun b => (b.toNat : Int)) (j : Int) = ((x :: l)[j].toNat : Int) := by
      unfold rd
      rw [e1, List.getD_eq_getElem?_getD, List.getElem?_map, List.getElem?_eq_getElem hj]
      rfl
    rw [this]
end Go.Proofs.YtlmmgienbmghmaaDoor.Lex

/- The lexer of unit files, by hand: what it holds in memory. -/
set_option linter.unusedVariables false
set_option linter.unusedSimpArgs false
namespace Go.Proofs.YtlmmgienbmghmaaDoor.Lex
open Go.RowKit Go.Proofs.YtlmmgienbmghmaaDoorW.PrintWords Go.Proofs.YtlmmgienbmghmaaDoorW.PrintLast Go.Proofs.YtlmmgienbmghmaaDoorW.PrintMore Go.Proofs.YtlmmgienbmghmaaDoor.GivU Go.Proofs.YtlmmgienbmghmaaDoor.J
/-- What the lexer has found: a section, an option. -/
inductive Item where
  | sec (s : ByteArray)
  | opt (s n v : ByteArray)
/-- .. in memory: a section's block and its entries' block. -/
inductive Cel where
  | sec (k2 k3 : Nat) (s : ByteArray)
  | opt (s n v : ByteArray)
def Cel.item : Cel → Item
  | .sec _ _ s => .sec s
  | .opt s n v => .opt s n v
def CelK (w : World) (k : Nat) : Cel → Prop
  | .sec k2 _ _ => w.heap[k]? = some (.cells #[.int .i64 0, .pointer none, .pointer (some ⟨k2, 0, none⟩)] 83 (0, 0))
  | .opt s n v => ∃ k2, w.heap[k]? = some (.cells #[.int .i64 1, .pointer (some ⟨k2, 0, none⟩), .pointer none] 83 (0, 0)) ∧ w.heap[k2]? = some (.cells #[.string s, .string n, .string v] 48 (0, 0))
def CelM (w : World) (base : Nat) (ok : Nat → Prop) (k : Nat) : Cel → Prop
  | .sec k2 _ _ => w.heap[k]? = some (.cells #[.int .i64 0, .pointer none, .pointer (some ⟨k2, 0, none⟩)] 83 (0, 0))
  | .opt s n v => ∃ k2, base ≤ k2 ∧ ok k2 ∧ w.heap[k]? = some (.cells #[.int .i64 1, .pointer (some ⟨k2, 0, none⟩), .pointer none] 83 (0, 0)) ∧ w.heap[k2]? = some (.cells #[.string s, .string n, .string v] 48 (0, 0))
/-- A pointer to what was found. -/
def ld : Kd Cel where
  sz := 1
  E := [83, 48]
  K := fun w x cs => ∃ k, cs = [.pointer (some ⟨k, 0, none⟩)] ∧ CelK w k x
  M := fun w base ok x cs => ∃ k, cs = [.pointer (some ⟨k, 0, none⟩)] ∧ base ≤ k ∧ ok k ∧ CelM w base ok k x
  K_len := by rintro w x cs ⟨g, rfl, _⟩; rfl
  K_one := by rintro w x cs ⟨g, rfl, _⟩ u hu; rw [List.mem_singleton.1 hu]; rfl
  K_below := by
    rintro w w1 x cs hb ⟨g, rfl, h⟩
    refine ⟨g, rfl, ?_⟩
    cases x with
    | sec k2 k3 s => exact blk_below h hb
    | opt s n v => obtain ⟨k2, h1, h2⟩ := h; exact ⟨k2, blk_below h1 hb, blk_below h2 hb⟩
  K_of_M := by
    rintro w base ok x cs ⟨g, rfl, _, _, h⟩
    refine ⟨g, rfl, ?_⟩
    cases x with
    | sec k2 k3 s => exact h
    | opt s n v => obtain ⟨k2, _, _, h1, h2⟩ := h; exact ⟨k2, h1, h2⟩
  M_mono := by
    rintro w base ok ok' x cs hok ⟨g, rfl, h1, h2, h3⟩
    refine ⟨g, rfl, h1, hok g h2, ?_⟩
    cases x with
    | sec k2 k3 s => exact h3
    | opt s n v => obtain ⟨k2, a, b, c, d⟩ := h3; exact ⟨k2, a, hok k2 b, c, d⟩
  M_bound := by
    rintro w base ok x cs ⟨g, rfl, h1, h2, h3⟩
    cases x with
    | sec k2 k3 s => exact ⟨g, rfl, h1, ⟨h2, h1, blk_lt (show w.heap[g]? = _ from h3), _, List.mem_cons_self, _, h3⟩, h3⟩
    | opt s n v => obtain ⟨k2, a, b, c, d⟩ := h3; exact ⟨g, rfl, h1, ⟨h2, h1, blk_lt c, _, List.mem_cons_self, _, c⟩, k2, a, ⟨b, a, blk_lt d, _, List.mem_cons_of_mem _ List.mem_cons_self, _, d⟩, c, d⟩
  M_move := by
    rintro w w1 base ok x cs hm ⟨g, rfl, h1, h2, h3⟩
    refine ⟨g, rfl, h1, h2, ?_⟩
    cases x with
    | sec k2 k3 s => exact (hm g h2).trans h3
    | opt s n v => obtain ⟨k2, a, b, c, d⟩ := h3; exact ⟨k2, a, b, (hm g h2).trans c, (hm k2 b).trans d⟩
  M_lower := by
    rintro w base base' ok x cs hb ⟨g, rfl, h1, h2, h3⟩
    refine ⟨g, rfl, Nat.le_trans hb h1, h2, ?_⟩
    cases x with
    | sec k2 k3 s => exact h3
    | opt s n v => obtain ⟨k2, a, b, c, d⟩ := h3; exact ⟨k2, Nat.le_trans hb a, b, c, d⟩
/-- The sections found: each in blocks of its own, one behind the other, without entries. -/
def Secs (W : World) : Nat → List Cel → Prop
  | _, [] => True
  | lo, .opt _ _ _ :: l => Secs W lo l
  | lo, .sec k2 k3 s :: l => lo ≤ k2 ∧ lo ≤ k3 ∧ W.heap[k2]? = some (.cells #[.string s, .slice (some ⟨k3, 0, none⟩) 0 0] 59 (0, 0)) ∧ W.heap[k3]? = some (.cells #[] 63 (0, 0)) ∧ Secs W (max k2 k3 + 1) l
theorem Secs.frame {W W' : World} (hm : ∀ (k : Nat) (cs : Array Value) (T : TypeId), W.heap[k]? = some (.cells cs T (0, 0)) → (T = 59 ∨ T = 63) → W'.heap[k]? = some (.cells cs T (0, 0))) : ∀ (l : List Cel) (lo : Nat), Secs W lo l → Secs W' lo l
  | [], _, _ => trivial
  | .opt _ _ _ :: l, lo, h => Secs.frame hm l lo h
  | .sec _ _ _ :: l, lo, ⟨h1, h2, h3, h4, h5⟩ => ⟨h1, h2, hm _ _ _ h3 (.inl rfl), hm _ _ _ h4 (.inr rfl), Secs.frame hm l _ h5⟩
theorem Secs.snoc_opt {W : World} (s n v : ByteArray) : ∀ (l : List Cel) (lo : Nat), Secs W lo l → Secs W lo (l ++ [.opt s n v])
  | [], _, _ => trivial
  | .opt _ _ _ :: l, lo, h => Secs.snoc_opt s n v l lo h
  | .sec _ _ _ :: l, lo, ⟨h1, h2, h3, h4, h5⟩ => ⟨h1, h2, h3, h4, Secs.snoc_opt s n v l _ h5⟩
theorem Secs.snoc_sec {W W' : World} (hm : ∀ (k : Nat) (cs : Array Value) (T : TypeId), W.heap[k]? = some (.cells cs T (0, 0)) → (T = 59 ∨ T = 63) → W'.heap[k]? = some (.cells cs T (0, 0))) (k2 k3 : Nat) (s : ByteArray) (h2 : W.heap.size ≤ k2) (h3 : W.heap.size ≤ k3) (e2 : W'.heap[k2]? = some (.cells #[.string s, .slice (some ⟨k3, 0, none⟩) 0 0] 59 (0, 0))) (e3 : W'.heap[k3]? = some (.cells #[] 63 (0, 0))) : ∀ (l : List Cel) (lo : Nat), lo ≤ W.heap.size → Secs W lo l → Secs W' lo (l ++ [.sec k2 k3 s])
  | [], lo, hl, _ => ⟨Nat.le_trans hl h2, Nat.le_trans hl h3, e2, e3, trivial⟩
  | .opt _ _ _ :: l, lo, hl, h => Secs.snoc_sec hm k2 k3 s h2 h3 e2 e3 l lo hl h
  | .sec _ _ _ :: l, lo, hl, ⟨a1, a2, a3, a4, a5⟩ => ⟨a1, a2, hm _ _ _ a3 (.inl rfl), hm _ _ _ a4 (.inr rfl), Secs.snoc_sec hm k2 k3 s h2 h3 e2 e3 l _ (by have := blk_lt a3; have := blk_lt a4; omega) a5⟩
/-- The lexer at block p, its buffer at block g. -/
def LexB (W : World) (p g : Nat) (dv ev : Value) : Prop := W.heap[p]? = some (.cells #[.pointer (some ⟨g, 0, none⟩), dv, ev, .string ByteArray.empty] 79 (0, 0))
theorem LexB.c0 {W : World} {p g : Nat} {dv ev : Value} (h : LexB W p g dv ev) : W.cell? ⟨p, 0, none⟩ = some (.pointer (some ⟨g, 0, none⟩)) := (blk_cell h 0).trans rfl
theorem LexB.c1 {W : World} {p g : Nat} {dv ev : Value} (h : LexB W p g dv ev) : W.cell? ⟨p, 1, none⟩ = some dv := (blk_cell h 1).trans rfl
theorem LexB.c2 {W : World} {p g : Nat} {dv ev : Value} (h : LexB W p g dv ev) : W.cell? ⟨p, 2, none⟩ = some ev := (blk_cell h 2).trans rfl
theorem LexB.fz {W : World} {p g : Nat} {dv ev : Value} (h : LexB W p g dv ev) (j : Nat) : W.frozen? ⟨p, j, none⟩ = false := by simp [World.frozen?, show W.heap[p]? = _ from h]
theorem LexB.set1 {W : World} {p g : Nat} {dv ev : Value} (h : LexB W p g dv ev) (x : Value) : LexB (W.setCell ⟨p, 1, none⟩ x) p g x ev := by
  have : W.heap[p]? = _ := h
  simp [LexB, World.setCell, Array.getElem?_modify, this]
theorem LexB.set2 {W : World} {p g : Nat} {dv ev : Value} (h : LexB W p g dv ev) (x : Value) : LexB (W.setCell ⟨p, 2, none⟩ x) p g dv x := by
  have : W.heap[p]? = _ := h
  simp [LexB, World.setCell, Array.getElem?_modify, this]
structure LexAt (w0 W : World) (p g : Nat) (t : ByteArray) (b : Bf) (dv ev : Value) (cels : List Cel) : Prop where
  base : Below w0.heap.size w0 W
  hg : w0.heap.size ≤ g
  hp : w0.heap.size ≤ p
  buf : BufB W g t b
  ok : b.Ok t.size
  h4 : b.w ≤ 4096 + b.r
  lex : LexB W p g dv ev
  data : Kd.R ld 80 W w0.heap.size (fun _ => True) dv cels
  secs : Secs W w0.heap.size cels
theorem LexAt.pg {w0 W : World} {p g : Nat} {t : ByteArray} {b : Bf} {dv ev : Value} {cels : List Cel} (h : LexAt w0 W p g t b dv ev cels) : p ≠ g := ne_type h.lex h.buf (by decide)
/-- The buffer has changed, and new blocks are there. -/
theorem LexAt.step {w0 W W' : World} {p g : Nat} {t : ByteArray} {b b' : Bf} {dv ev : Value} {cels : List Cel} (h : LexAt w0 W p g t b dv ev cels) (c : Chg W W' (· = g)) (hb : BufB W' g t b') (ok : b'.Ok t.size) (h4 : b'.w ≤ 4096 + b'.r) : LexAt w0 W' p g t b' dv ev cels where
  base := h.base.trans (c.below (B := w0.heap.size) h.base.size (fun k hk => by rw [hk]; exact h.hg))
  hg := h.hg
  hp := h.hp
  buf := hb
  ok := ok
  h4 := h4
  lex := (c.block p (blk_lt h.lex) h.pg).trans h.lex
  data := Kd.R_mono (Kd.R_step (Kd.R_types h.data (show W.heap[g]? = _ from h.buf) (by decide)) (fun k hk hlt => c.block k hlt hk.2)) (fun _ _ => trivial)
  secs := Secs.frame (fun k cs T hk hT => (c.block k (blk_lt hk) (ne_type hk (show W.heap[g]? = _ from h.buf) (by rcases hT with rfl | rfl <;> decide))).trans hk) _ _ h.secs
theorem LexAt.below {w0 W W' : World} {p g : Nat} {t : ByteArray} {b : Bf} {dv ev : Value} {cels : List Cel} (h : LexAt w0 W p g t b dv ev cels) (hb : Below W.heap.size W W') : LexAt w0 W' p g t b dv ev cels :=
  h.step (Chg.of_below hb _) (BufAt.chg h.buf (Chg.of_below hb (fun _ => False)) (fun h => h)) h.ok h.h4
/-- What a step leaves. -/
def StepPost (w0 : World) (p g : Nat) (t : ByteArray) (cels : List Cel) (b' : Bf) (its : List Item) (o : Option Step) (e' : Ending) (W' : World) : Prop :=
  (∃ dv cels', cels'.map Cel.item = its ∧ LexAt w0 W' p g t b' dv .nilIface (cels ++ cels')) ∧
    match o with
    | some s' => ∃ v, e' = .returned (.tuple #[v, .nilIface]) ∧ StepAt W' p s' v
    | none => ∃ T q, e' = .returned (.tuple #[.nilFunc, .iface T q])
/-- A step that only reads on. -/
theorem StepPost.go {w0 W W' : World} {p g : Nat} {t : ByteArray} {b b' : Bf} {dv : Value} {cels : List Cel} {o : Option Step} {e' : Ending} (h : LexAt w0 W p g t b dv .nilIface cels) (c : Chg W W' (· = g)) (hb : BufB W' g t b') (ok : b'.Ok t.size) (h4 : b'.w ≤ 4096 + b'.r)
    (ho : match o with
      | some s' => ∃ v, e' = .returned (.tuple #[v, .nilIface]) ∧ StepAt W' p s' v
      | none => ∃ T q, e' = .returned (.tuple #[.nilFunc, .iface T q])) : StepPost w0 p g t cels b' [] o e' W' :=
  ⟨⟨dv, [], rfl, by rw [List.append_nil]; exact h.step c hb ok h4⟩, ho⟩
end Go.Proofs.YtlmmgienbmghmaaDoor.Lex
