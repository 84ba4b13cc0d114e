/- The reader of unit files: what deserializeAll makes of the lexer's data, as a function and in memory. -/
import Derived.Test.YtlmmgienbmghmaaDoorLexW
set_option linter.unusedVariables false
set_option linter.unusedSimpArgs false
namespace Go.Proofs.YtlmmgienbmghmaaDoor.Lex
open Go.RowKit Go.Proofs.YtlmmgienbmghmaaDoorW.PrintWords Go.Proofs.YtlmmgienbmghmaaDoorW.PrintLast Go.Proofs.YtlmmgienbmghmaaDoorW.PrintMore Go.Proofs.YtlmmgienbmghmaaDoor.GivU Go.Proofs.YtlmmgienbmghmaaDoor.J
/-- A section: its name, its entries. -/
abbrev SecP := ByteArray × List (ByteArray × ByteArray)
/-- Sections (the last one ahead) and options, in order; none: an option ahead of the first section. -/
def desF : List Item → List SecP → List (ByteArray × ByteArray × ByteArray) → Option (List SecP × List (ByteArray × ByteArray × ByteArray))
  | [], S, O => some (S, O)
  | .sec s :: l, S, O => desF l ((s, []) :: S) O
  | .opt _ _ _ :: _, [], _ => none
  | .opt s n v :: l, (nm, es) :: S, O => desF l ((nm, es ++ [(n, v)]) :: S) (O ++ [(s, n, v)])
/-- A pointer to a record in a block of its own. -/
def pblk {α : Type} (T : TypeId) (enc : α → Array Value) : Kd α where
  sz := 1
  E := [T]
  K := fun w x cs => ∃ g, cs = [.pointer (some ⟨g, 0, none⟩)] ∧ w.heap[g]? = some (.cells (enc x) T (0, 0))
  M := fun w base ok x cs => ∃ g, cs = [.pointer (some ⟨g, 0, none⟩)] ∧ base ≤ g ∧ ok g ∧ w.heap[g]? = some (.cells (enc x) T (0, 0))
  K_len := by rintro w x cs ⟨g, rfl, _⟩; rfl
  K_one := by rintro w x cs ⟨g, rfl, _⟩ u hu; rw [List.mem_singleton.1 hu]; rfl
  K_below := by rintro w w1 x cs hb ⟨g, rfl, h⟩; exact ⟨g, rfl, blk_below h hb⟩
  K_of_M := by rintro w base ok x cs ⟨g, rfl, _, _, h⟩; exact ⟨g, rfl, h⟩
  M_mono := by rintro w base ok ok' x cs hok ⟨g, rfl, h1, h2, h3⟩; exact ⟨g, rfl, h1, hok g h2, h3⟩
  M_bound := by rintro w base ok x cs ⟨g, rfl, h1, h2, h3⟩; exact ⟨g, rfl, h1, ⟨h2, h1, blk_lt h3, _, List.mem_singleton.2 rfl, _, h3⟩, h3⟩
  M_move := by rintro w w1 base ok x cs hm ⟨g, rfl, h1, h2, h3⟩; exact ⟨g, rfl, h1, h2, (hm g h2).trans h3⟩
  M_lower := by rintro w base base' ok x cs hb ⟨g, rfl, h1, h2, h3⟩; exact ⟨g, rfl, Nat.le_trans hb h1, h2, h3⟩
def popt : Kd (ByteArray × ByteArray × ByteArray) := pblk 48 (fun x => #[.string x.1, .string x.2.1, .string x.2.2])
def pent : Kd (ByteArray × ByteArray) := pblk 65 (fun x => #[.string x.1, .string x.2])
def psl : Kd Nat := Kd.scalar (fun k => .pointer (some ⟨k, 0, none⟩)) (fun _ => rfl)
/-- A section in memory. -/
structure SecSt where
  k2 : Nat
  k3 : Nat
  sp : SecP
/-- Sections in memory, the later ones ahead: each one's entries lie between two bounds, or in the block that came with it. -/
def SecsT (W : World) (B0 H0 : Nat) : Nat → List SecSt → Prop
  | _, [] => True
  | hi, x :: l => ∃ vE lo, H0 ≤ lo ∧ lo ≤ hi ∧ x.k3 < H0 ∧ (∀ y ∈ l, y.k2 ≠ x.k2 ∧ y.k3 ≠ x.k3) ∧
      W.heap[x.k2]? = some (.cells #[.string x.sp.1, vE] 59 (0, 0)) ∧ Kd.R pent 63 W B0 (fun k => k = x.k3 ∨ (lo ≤ k ∧ k < hi)) vE x.sp.2 ∧ SecsT W B0 H0 lo l
/-- .. and the last of all, which still grows. -/
def SecsH (W : World) (B0 H0 : Nat) : List SecSt → Prop
  | [] => True
  | x :: l => ∃ vE lo, H0 ≤ lo ∧ lo ≤ W.heap.size ∧ x.k3 < H0 ∧ (∀ y ∈ l, y.k2 ≠ x.k2 ∧ y.k3 ≠ x.k3) ∧
      W.heap[x.k2]? = some (.cells #[.string x.sp.1, vE] 59 (0, 0)) ∧ Kd.R pent 63 W B0 (fun k => k = x.k3 ∨ lo ≤ k) vE x.sp.2 ∧ SecsT W B0 H0 lo l
theorem pent_types {q : Nat} (h : q ∈ 63 :: pent.E) : q = 63 ∨ q = 65 := by
  rcases List.mem_cons.1 h with h | h
  · exact .inl h
  · exact .inr (List.mem_singleton.1 h)
/-- What changes but k2 and the blocks of ob, of the sections' types: nothing. -/
def Keeps (W W' : World) (k2 : Nat → Prop) (ob : Nat → Prop) : Prop :=
  (∀ (k : Nat) (cs : Array Value), W.heap[k]? = some (.cells cs 59 (0, 0)) → ¬ k2 k → W'.heap[k]? = some (.cells cs 59 (0, 0))) ∧
  ∀ (k : Nat) (cs : Array Value) (T : TypeId), W.heap[k]? = some (.cells cs T (0, 0)) → (T = 63 ∨ T = 65) → ¬ ob k → W'.heap[k]? = some (.cells cs T (0, 0))
theorem R_keeps {W W' : World} {k2 ob ok : Nat → Prop} (h : Keeps W W' k2 ob) {B0 : Nat} {vE : Value} {es : List (ByteArray × ByteArray)} (hR : Kd.R pent 63 W B0 ok vE es) (ho : ∀ k, ok k → ¬ ob k) : Kd.R pent 63 W' B0 ok vE es :=
  Kd.R_mono (Kd.R_move (Kd.R_bound hR) (fun k hk => by
    obtain ⟨hok, _, _, q, hq, cells, hc⟩ := hk
    rw [hc]
    exact h.2 k cells q hc (pent_types hq) (ho k hok))) (fun _ hk => hk.1)
theorem SecsT.keeps {W W' : World} {B0 H0 : Nat} {k2 ob : Nat → Prop} (h : Keeps W W' k2 ob) : ∀ (l : List SecSt) (hi : Nat), (∀ y ∈ l, ¬ k2 y.k2 ∧ ¬ ob y.k3) → (∀ k, ob k → k < H0 ∨ hi ≤ k) → SecsT W B0 H0 hi l → SecsT W' B0 H0 hi l
  | [], _, _, _, _ => trivial
  | x :: l, hi, hd, ho, ⟨vE, lo, h1, h2, h3, h4, h5, h6, h7⟩ =>
    ⟨vE, lo, h1, h2, h3, h4, h.1 _ _ h5 (hd x List.mem_cons_self).1,
      R_keeps h h6 (fun k hk hob => by
        rcases hk with rfl | ⟨ha, hb⟩
        · exact (hd x List.mem_cons_self).2 hob
        · rcases ho k hob with h | h <;> omega),
      SecsT.keeps h l lo (fun y hy => hd y (List.mem_cons_of_mem _ hy)) (fun k hk => (ho k hk).imp id (fun h => Nat.le_trans h2 h)) h7⟩
theorem SecsH.frame {W W' : World} {B0 H0 : Nat} (h : Keeps W W' (fun _ => False) (fun _ => False)) (hz : W.heap.size ≤ W'.heap.size) : ∀ l : List SecSt, SecsH W B0 H0 l → SecsH W' B0 H0 l
  | [], _ => trivial
  | x :: l, ⟨vE, lo, h1, h2, h3, h4, h5, h6, h7⟩ => ⟨vE, lo, h1, Nat.le_trans h2 hz, h3, h4, h.1 _ _ h5 (fun h => h), R_keeps h h6 (fun _ _ h => h), SecsT.keeps h l lo (fun _ _ => ⟨fun h => h, fun h => h⟩) (fun _ h => h.elim) h7⟩
/-- A new section is the last one. -/
theorem SecsH.push {W : World} {B0 H0 : Nat} (y : SecSt) (vE : Value) (hH : H0 ≤ W.heap.size) (h3 : y.k3 < H0) (h5 : W.heap[y.k2]? = some (.cells #[.string y.sp.1, vE] 59 (0, 0))) (h6 : Kd.R pent 63 W B0 (fun k => k = y.k3 ∨ W.heap.size ≤ k) vE y.sp.2) : ∀ l : List SecSt, (∀ x ∈ l, x.k2 ≠ y.k2 ∧ x.k3 ≠ y.k3) → SecsH W B0 H0 l → SecsH W B0 H0 (y :: l)
  | [], _, _ => ⟨vE, W.heap.size, hH, Nat.le_refl _, h3, (fun _ h => by cases h), h5, h6, trivial⟩
  | x :: l, hd, ⟨vX, lo, a1, a2, a3, a4, a5, a6, a7⟩ => ⟨vE, W.heap.size, hH, Nat.le_refl _, h3, hd, h5, h6,
      vX, lo, a1, a2, a3, a4, a5, Kd.R_mono (Kd.R_bound a6) (fun k hk => by
        obtain ⟨hok, _, hlt, _⟩ := hk
        rcases hok with h | h
        · exact .inl h
        · exact .inr ⟨h, hlt⟩), a7⟩
/-- A section as it is read. -/
def psec : Kd SecP where
  sz := 1
  E := []
  K := fun w x cs => ∃ k2 A c, cs = [.pointer (some ⟨k2, 0, none⟩)] ∧ w.heap[k2]? = some (.cells #[.string x.1, .slice A x.2.length c] 59 (0, 0)) ∧ x.2.length ≤ c ∧ pent.C w A x.2.length x.2
  M := fun _ _ _ _ _ => False
  K_len := by rintro w x cs ⟨g, A, c, rfl, _⟩; rfl
  K_one := by rintro w x cs ⟨g, A, c, rfl, _⟩ u hu; rw [List.mem_singleton.1 hu]; rfl
  K_below := by rintro w w1 x cs hb ⟨g, A, c, rfl, h, hc, hC⟩; exact ⟨g, A, c, rfl, blk_below h hb, hc, Kd.C_below hC hb⟩
  K_of_M := fun h => h.elim
  M_mono := fun _ h => h
  M_bound := fun h => h.elim
  M_move := fun _ h => h
  M_lower := fun _ h => h
theorem SecsT.reads {W : World} {B0 H0 : Nat} : ∀ (l : List SecSt) (hi : Nat), SecsT W B0 H0 hi l → ∀ x ∈ l, psec.K W x.sp [.pointer (some ⟨x.k2, 0, none⟩)]
  | [], _, _, x, hx => by cases hx
  | y :: l, hi, ⟨vE, lo, h1, h2, h3, h4, h5, h6, h7⟩, x, hx => by
    rcases List.mem_cons.1 hx with rfl | hx
    · obtain ⟨A, c, rfl, hc, hC⟩ := Kd.R_reads h6
      exact ⟨_, A, c, rfl, h5, hc, hC⟩
    · exact SecsT.reads l lo h7 x hx
theorem SecsH.reads {W : World} {B0 H0 : Nat} : ∀ l : List SecSt, SecsH W B0 H0 l → ∀ x ∈ l, psec.K W x.sp [.pointer (some ⟨x.k2, 0, none⟩)]
  | [], _, x, hx => by cases hx
  | y :: l, ⟨vE, lo, h1, h2, h3, h4, h5, h6, h7⟩, x, hx => by
    rcases List.mem_cons.1 hx with rfl | hx
    · obtain ⟨A, c, rfl, hc, hC⟩ := Kd.R_reads h6
      exact ⟨_, A, c, rfl, h5, hc, hC⟩
    · exact SecsT.reads l lo h7 x hx
/-- A row of pointers to sections, read. -/
theorem secs_read {W : World} {B0 H0 : Nat} {A : Option Addr} (l : List SecSt) (h : SecsH W B0 H0 l) (hC : psl.C W A l.length (l.reverse.map SecSt.k2)) : psec.C W A l.length (l.reverse.map SecSt.sp) := by
  obtain ⟨h1, h2, h3⟩ := hC
  refine ⟨by rw [List.length_map, List.length_reverse], h2, fun hp => ?_⟩
  obtain ⟨a, ha, hr⟩ := h3 hp
  refine ⟨a, ha, fun j x hj => ?_⟩
  rw [List.getElem?_map] at hj
  obtain ⟨y, hy, rfl⟩ := Option.map_eq_some_iff.1 hj
  obtain ⟨cs, hl, hk, hcell⟩ := hr j y.k2 (by rw [List.getElem?_map, hy]; rfl)
  have hcs : cs = [.pointer (some ⟨y.k2, 0, none⟩)] := hk
  subst hcs
  have hmem : y ∈ l := List.mem_reverse.1 (List.mem_of_getElem? hy)
  exact ⟨_, rfl, SecsH.reads l h y hmem, hcell⟩
end Go.Proofs.YtlmmgienbmghmaaDoor.Lex
