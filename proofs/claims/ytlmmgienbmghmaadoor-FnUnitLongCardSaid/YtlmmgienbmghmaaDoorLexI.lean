/- The lexer of unit files, by hand: the next steps as values, and their makers. -/
import Derived.Test.YtlmmgienbmghmaaDoorLexT
import Derived.Test.YtlmmgienbmghmaaDoorJ1
set_option linter.unusedVariables false
set_option linter.unusedSimpArgs false
namespace Go.Proofs.YtlmmgienbmghmaaDoor.Lex
open Go.RowKit Go.Proofs.YtlmmgienbmghmaaDoorW.PrintWords Go.Proofs.YtlmmgienbmghmaaDoorW.PrintLast Go.Proofs.YtlmmgienbmghmaaDoorW.PrintMore Go.Proofs.YtlmmgienbmghmaaDoor.GivU Go.Proofs.YtlmmgienbmghmaaDoor.J
/-- The lexer's next step. -/
inductive Step where
  | stop
  | sec
  | name
  | ign (s : Step)
  | suf (s : ByteArray)
  | soo (s : ByteArray)
  | optn (s : ByteArray)
  | optv (s n d : ByteArray)
/-- A box: a block of one cell. -/
def Box (W : World) (q : Nat) (T : TypeId) (v : Value) : Prop := W.heap[q]? = some (.cells #[v] T (0, 0))
theorem Box.cell {W : World} {q : Nat} {T : TypeId} {v : Value} (h : Box W q T v) : W.cell? ⟨q, 0, none⟩ = some v := (blk_cell h 0).trans rfl
theorem Box.fz {W : World} {q : Nat} {T : TypeId} {v : Value} (h : Box W q T v) : W.frozen? ⟨q, 0, none⟩ = false := by simp [World.frozen?, show W.heap[q]? = _ from h]
theorem Box.lt {W : World} {q : Nat} {T : TypeId} {v : Value} (h : Box W q T v) : q < W.heap.size := blk_lt h
theorem Box.below {W W' : World} {q : Nat} {T : TypeId} {v : Value} (h : Box W q T v) (hb : Below W.heap.size W W') : Box W' q T v := (hb.block q h.lt).trans h
theorem Box.chg {W W' : World} {S : Nat → Prop} {q : Nat} {T : TypeId} {v : Value} (h : Box W q T v) (c : Chg W W' S) (hS : ¬ S q) : Box W' q T v := (c.block q h.lt hS).trans h
theorem ne_type {W : World} {q g : Nat} {a b : Array Value} {T T2 : TypeId} (h : W.heap[q]? = some (.cells a T (0, 0))) (h2 : W.heap[g]? = some (.cells b T2 (0, 0))) (hT : T ≠ T2) : q ≠ g := by
  rintro rfl
  rw [h] at h2
  injection h2 with h2
  injection h2 with _ h3
  exact hT h3
theorem alloc_size (W : World) (o : Obj) : (W.alloc o).heap.size = W.heap.size + 1 := by show (W.heap.push _).size = _; rw [Array.size_push]
theorem boxes2 (W : World) (u1 u2 : Value) (T1 T2 : TypeId) : Box ((W.alloc (.cells #[u1] T1 (0, 0))).alloc (.cells #[u2] T2 (0, 0))) W.heap.size T1 u1 ∧ Box ((W.alloc (.cells #[u1] T1 (0, 0))).alloc (.cells #[u2] T2 (0, 0))) (W.heap.size + 1) T2 u2 ∧ Below W.heap.size W ((W.alloc (.cells #[u1] T1 (0, 0))).alloc (.cells #[u2] T2 (0, 0))) := by
  refine ⟨blk_alloc (blk_new W _) _, ?_, below_alloc (below_alloc (Below.refl _ _) _) _⟩
  have := blk_new (W.alloc (.cells #[u1] T1 (0, 0))) (.cells #[u2] T2 (0, 0))
  rw [alloc_size] at this
  exact this
/-- A step as a value: the function, and what lies in its boxes. -/
def StepAt (W : World) (p : Nat) : Step → Value → Prop
  | .stop, v => v = .nilFunc
  | .sec, v => v = .func (.func 42) #[.pointer (some ⟨p, 0, none⟩)] #[]
  | .name, v => v = .func (.func 55) #[.pointer (some ⟨p, 0, none⟩)] #[]
  | .ign s, v => ∃ q0 q1 fn f1 f2, v = .func (.func 67) #[] #[.pointer (some ⟨q0, 0, none⟩), .pointer (some ⟨q1, 0, none⟩)] ∧ Box W q0 74 (.pointer (some ⟨p, 0, none⟩)) ∧ Box W q1 95 (.func fn f1 f2) ∧ StepAt W p s (.func fn f1 f2)
  | .suf s, v => ∃ q0 q1, v = .func (.func 73) #[] #[.pointer (some ⟨q0, 0, none⟩), .pointer (some ⟨q1, 0, none⟩)] ∧ Box W q0 74 (.pointer (some ⟨p, 0, none⟩)) ∧ Box W q1 9 (.string s)
  | .soo s, v => ∃ q0 q1, v = .func (.func 80) #[] #[.pointer (some ⟨q0, 0, none⟩), .pointer (some ⟨q1, 0, none⟩)] ∧ Box W q0 74 (.pointer (some ⟨p, 0, none⟩)) ∧ Box W q1 9 (.string s)
  | .optn s, v => ∃ q0 q1, v = .func (.func 91) #[] #[.pointer (some ⟨q0, 0, none⟩), .pointer (some ⟨q1, 0, none⟩)] ∧ Box W q0 74 (.pointer (some ⟨p, 0, none⟩)) ∧ Box W q1 9 (.string s)
  | .optv s n d, v => ∃ q0 q1 q2 q3, p < q1 ∧ q2 ≠ q1 ∧ q3 ≠ q1 ∧ v = .func (.func 106) #[] #[.pointer (some ⟨q0, 0, none⟩), .pointer (some ⟨q1, 0, none⟩), .pointer (some ⟨q2, 0, none⟩), .pointer (some ⟨q3, 0, none⟩)] ∧ Box W q0 74 (.pointer (some ⟨p, 0, none⟩)) ∧ Box W q1 9 (.string d) ∧ Box W q2 9 (.string s) ∧ Box W q3 9 (.string n)
theorem StepAt.chg {W W' : World} {p : Nat} {S : Nat → Prop} (c : Chg W W' S) (hS : ∀ k, S k → ∃ cs T, W.heap[k]? = some (.cells cs T (0, 0)) ∧ T ≠ 74 ∧ T ≠ 9 ∧ T ≠ 95) : ∀ (s : Step) (v : Value), StepAt W p s v → StepAt W' p s v
  | .stop, v, h => h
  | .sec, v, h => h
  | .name, v, h => h
  | .ign s, v, ⟨q0, q1, fn, f1, f2, e, h0, h1, hs⟩ => ⟨q0, q1, fn, f1, f2, e, h0.chg c (fun hq => by obtain ⟨cs, T, h, t1, t2, t3⟩ := hS _ hq; exact ne_type h0 h t1.symm rfl), h1.chg c (fun hq => by obtain ⟨cs, T, h, t1, t2, t3⟩ := hS _ hq; exact ne_type h1 h t3.symm rfl), StepAt.chg c hS s _ hs⟩
  | .suf s, v, ⟨q0, q1, e, h0, h1⟩ => ⟨q0, q1, e, h0.chg c (fun hq => by obtain ⟨cs, T, h, t1, t2, t3⟩ := hS _ hq; exact ne_type h0 h t1.symm rfl), h1.chg c (fun hq => by obtain ⟨cs, T, h, t1, t2, t3⟩ := hS _ hq; exact ne_type h1 h t2.symm rfl)⟩
  | .soo s, v, ⟨q0, q1, e, h0, h1⟩ => ⟨q0, q1, e, h0.chg c (fun hq => by obtain ⟨cs, T, h, t1, t2, t3⟩ := hS _ hq; exact ne_type h0 h t1.symm rfl), h1.chg c (fun hq => by obtain ⟨cs, T, h, t1, t2, t3⟩ := hS _ hq; exact ne_type h1 h t2.symm rfl)⟩
  | .optn s, v, ⟨q0, q1, e, h0, h1⟩ => ⟨q0, q1, e, h0.chg c (fun hq => by obtain ⟨cs, T, h, t1, t2, t3⟩ := hS _ hq; exact ne_type h0 h t1.symm rfl), h1.chg c (fun hq => by obtain ⟨cs, T, h, t1, t2, t3⟩ := hS _ hq; exact ne_type h1 h t2.symm rfl)⟩
  | .optv s n d, v, ⟨q0, q1, q2, q3, np, n2, n3, e, h0, h1, h2, h3⟩ => ⟨q0, q1, q2, q3, np, n2, n3, e, h0.chg c (fun hq => by obtain ⟨cs, T, h, t1, t2, t3⟩ := hS _ hq; exact ne_type h0 h t1.symm rfl), h1.chg c (fun hq => by obtain ⟨cs, T, h, t1, t2, t3⟩ := hS _ hq; exact ne_type h1 h t2.symm rfl), h2.chg c (fun hq => by obtain ⟨cs, T, h, t1, t2, t3⟩ := hS _ hq; exact ne_type h2 h t2.symm rfl), h3.chg c (fun hq => by obtain ⟨cs, T, h, t1, t2, t3⟩ := hS _ hq; exact ne_type h3 h t2.symm rfl)⟩
theorem StepAt.below {W W' : World} {p : Nat} (hb : Below W.heap.size W W') (s : Step) (v : Value) (h : StepAt W p s v) : StepAt W' p s v := StepAt.chg (Chg.of_below hb (fun _ => False)) (fun _ h => h.elim) s v h
set_option maxHeartbeats 4000000 in
set_option maxRecDepth 100000 in
theorem ignFunc_is (p : Nat) (s : Step) (fn : Fn) (f1 f2 : Array Value) (W : World) (h : StepAt W p s (.func fn f1 f2)) :
    Calls Tryd.prog 57 #[.pointer (some ⟨p, 0, none⟩), .func fn f1 f2] W fun e W' => ∃ fn' f1' f2', e = .returned (.func fn' f1' f2') ∧ StepAt W' p (.ign s) (.func fn' f1' f2') ∧ Below W.heap.size W W' := by
  obtain ⟨b0, b1, hb⟩ := boxes2 W (.pointer (some ⟨p, 0, none⟩)) (.func fn f1 f2) 74 95
  have H := Lib.hid (show StepAt _ p (.ign s) _ from ⟨_, _, fn, f1, f2, rfl, b0, b1, h.below hb⟩)
  have HB := Lib.hid hb
  clear b0 b1 hb h
  go_enter Tryd.func57, Tryd.ntmps57
  go_wp2
  go_ret
  exact ⟨_, _, _, rfl, H.out, HB.out⟩
set_option maxHeartbeats 4000000 in
set_option maxRecDepth 100000 in
theorem sufFunc_is (p : Nat) (s : ByteArray) (W : World) :
    Calls Tryd.prog 66 #[.pointer (some ⟨p, 0, none⟩), .string s] W fun e W' => ∃ fn' f1' f2', e = .returned (.func fn' f1' f2') ∧ StepAt W' p (.suf s) (.func fn' f1' f2') ∧ Below W.heap.size W W' := by
  obtain ⟨b0, b1, hb⟩ := boxes2 W (.pointer (some ⟨p, 0, none⟩)) (.string s) 74 9
  have H := Lib.hid (show StepAt _ p (.suf s) _ from ⟨_, _, rfl, b0, b1⟩)
  have HB := Lib.hid hb
  clear b0 b1 hb
  go_enter Tryd.func66, Tryd.ntmps66
  go_wp2
  go_ret
  exact ⟨_, _, _, rfl, H.out, HB.out⟩
set_option maxHeartbeats 4000000 in
set_option maxRecDepth 100000 in
theorem sooFunc_is (p : Nat) (s : ByteArray) (W : World) :
    Calls Tryd.prog 75 #[.pointer (some ⟨p, 0, none⟩), .string s] W fun e W' => ∃ fn' f1' f2', e = .returned (.func fn' f1' f2') ∧ StepAt W' p (.soo s) (.func fn' f1' f2') ∧ Below W.heap.size W W' := by
  obtain ⟨b0, b1, hb⟩ := boxes2 W (.pointer (some ⟨p, 0, none⟩)) (.string s) 74 9
  have H := Lib.hid (show StepAt _ p (.soo s) _ from ⟨_, _, rfl, b0, b1⟩)
  have HB := Lib.hid hb
  clear b0 b1 hb
  go_enter Tryd.func75, Tryd.ntmps75
  go_wp2
  go_ret
  exact ⟨_, _, _, rfl, H.out, HB.out⟩
set_option maxHeartbeats 4000000 in
set_option maxRecDepth 100000 in
theorem optnFunc_is (p : Nat) (s : ByteArray) (W : World) :
    Calls Tryd.prog 83 #[.pointer (some ⟨p, 0, none⟩), .string s] W fun e W' => ∃ fn' f1' f2', e = .returned (.func fn' f1' f2') ∧ StepAt W' p (.optn s) (.func fn' f1' f2') ∧ Below W.heap.size W W' := by
  obtain ⟨b0, b1, hb⟩ := boxes2 W (.pointer (some ⟨p, 0, none⟩)) (.string s) 74 9
  have H := Lib.hid (show StepAt _ p (.optn s) _ from ⟨_, _, rfl, b0, b1⟩)
  have HB := Lib.hid hb
  clear b0 b1 hb
  go_enter Tryd.func83, Tryd.ntmps83
  go_wp2
  go_ret
  exact ⟨_, _, _, rfl, H.out, HB.out⟩
set_option maxHeartbeats 4000000 in
set_option maxRecDepth 100000 in
theorem optvFunc_is (p : Nat) (s n d : ByteArray) (W : World) (hp : p < W.heap.size) :
    Calls Tryd.prog 93 #[.pointer (some ⟨p, 0, none⟩), .string s, .string n, .string d] W fun e W' => ∃ fn' f1' f2', e = .returned (.func fn' f1' f2') ∧ StepAt W' p (.optv s n d) (.func fn' f1' f2') ∧ Below W.heap.size W W' := by
  obtain ⟨b0, b1, hb⟩ := boxes2 W (.pointer (some ⟨p, 0, none⟩)) (.string s) 74 9
  have hz : ((W.alloc (.cells #[.pointer (some ⟨p, 0, none⟩)] 74 (0, 0))).alloc (.cells #[.string s] 9 (0, 0))).heap.size = W.heap.size + 2 := by rw [alloc_size, alloc_size]
  obtain ⟨b2, b3, hb2⟩ := boxes2 ((W.alloc (.cells #[.pointer (some ⟨p, 0, none⟩)] 74 (0, 0))).alloc (.cells #[.string s] 9 (0, 0))) (.string n) (.string d) 9 9
  rw [hz] at b2 b3
  have H := Lib.hid (show StepAt _ p (.optv s n d) _ from ⟨_, _, _, _, by omega, by omega, by omega, rfl, b0.below hb2, b3, b1.below hb2, b2⟩)
  have HB := Lib.hid (below_step hb hb2)
  clear b0 b1 hb b2 b3 hb2 hz hp
  go_enter Tryd.func93, Tryd.ntmps93
  go_wp2
  go_ret
  exact ⟨_, _, _, rfl, H.out, HB.out⟩
set_option maxHeartbeats 4000000 in
set_option maxRecDepth 100000 in
theorem errors_New_is (s : ByteArray) (W : World) : Calls Tryd.prog 38 #[.string s] W fun e W' => e = .returned (.iface 97 (.pointer (some ⟨W.heap.size, 0, none⟩))) ∧ Below W.heap.size W W' := by
  go_enter Tryd.func38, Tryd.ntmps38
  go_wp2
  go_ret
  exact ⟨rfl, below_alloc (Below.refl _ _) _⟩
theorem conv_is (W : World) (A : Option Addr) (n c : Nat) (l : List UInt8) (hn : n = l.length) (h : (Kd.int .u8).C W A l.length (l.map fun b => (b.toNat : Int))) : (convert 26 9 (.slice A n c)).run Tryd.prog W = .ok (.string ⟨l.toArray⟩) W := by
  subst hn
  cases l with
  | nil =>
    cases A with
    | none => exact run_convert_bytes_nil W 26 5 Tryd.underlying26 Tryd.underlying5 0 c 9 Tryd.underlying9
    | some a => exact run_convert_bytes_back W 26 9 5 a c [] Tryd.underlying26 Tryd.underlying5 Tryd.underlying9 (fun j hj => absurd hj (Nat.not_lt_zero j))
  | cons x l =>
    obtain ⟨a, rfl, -⟩ := Kd.at_int h 0 (by omega) (by simp)
    refine run_convert_bytes_back W 26 9 5 a c (x :: l) Tryd.underlying26 Tryd.underlying5 Tryd.underlying9 (fun j hj => ?_)
    obtain ⟨a', ha', hc⟩ := Kd.at_int h (j : Int) (by omega) (by omega)
    obtain rfl := Option.some.inj ha'
    have e1 : (j : Int).toNat = j := by omega
    rw [e1] at hc
    rw [hc]
    have : rd ((x :: l).map fun b => (b.toNat : Int)) (j : Int) = ((x :: l)[j].toNat : Int) := by
      unfold rd
      rw [e1, List.getD_eq_getElem?_getD, List.getElem?_map, List.getElem?_eq_getElem hj]
      rfl
    rw [this]
end Go.Proofs.YtlmmgienbmghmaaDoor.Lex
