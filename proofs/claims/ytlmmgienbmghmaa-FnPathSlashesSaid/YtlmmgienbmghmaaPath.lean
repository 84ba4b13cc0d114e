/- The escape of paths, the clean path of parts, as plain functions on lists; and the law FnPathSlashes' pure statement: every list of parts and of bytes. -/
import Derived.Test.YtlmmgienbmghmaaU3
import Derived.Test.YtlmmgienbmghmaaEsc
set_option linter.unusedVariables false
set_option linter.unusedSimpArgs false
namespace Go.Proofs.Ytlmmgienbmghmaa.Path
open Go.RowKit Go.Proofs.Ytlmmgienbmghmaa.U Go.Proofs.Ytlmmgienbmghmaa.Giv Go.Proofs.YtlmmgienbmghmaaW.PrintWords Go.Proofs.YtlmmgienbmghmaaW.PrintLast Go.Proofs.YtlmmgienbmghmaaPl Go.Proofs.Ytlmmgienbmghmaa.Esc

/-- A path, escaped: sl: in slashes; st: nothing is written yet. -/
def pth : Bool → Bool → List Int → List Int
  | _, _, [] => []
  | sl, st, c :: cs => if c = 47 then pth true st cs else (if (sl && !st) = true then [45] else []) ++ one st c ++ pth false false cs
def done (l : List Int) : List Int := if l = [] then [45] else l

theorem l0_path (s : ByteArray) (hs : s.size ≤ 20000000) (d : Nat) : ∀ (i : Int) (e : List Int) (sl st : Bool), 0 ≤ i → i ≤ s.size → (s.size : Int) - i = d → e.length ≤ 5 * i.toNat →
    Ev (fun k => unit_escape.l0 k s true e sl st i) (strOfNums (done (e ++ pth sl st ((bytesOf s).drop i.toNat)))) := by
  induction d with
  | zero =>
    intro i e sl st h0 h1 hd he
    refine Ev.step (f := fun _ => some (strOfNums (done (e ++ pth sl st ((bytesOf s).drop i.toNat))))) (fun k => ?_) (Ev.now _)
    simp only [unit_escape.l0]
    rw [if_neg (by omega), if_pos trivial, List.drop_of_length_le (by rw [bytesOf_length]; omega), pth, List.append_nil]
    unfold done
    cases e with
    | nil => simp
    | cons a b => rw [if_neg (by simp; omega), if_neg (by simp)]
  | succ d ih =>
    intro i e sl st h0 h1 hd he
    have hr := bt_range s i
    have hN : (i + 1).toNat = i.toNat + 1 := by omega
    have hb := bytes_drop s i.toNat (by omega)
    rw [show ((i.toNat : Nat) : Int) = i by omega] at hb
    rw [hb, pth]
    have ho := one_len st (bt s i) hr.1 hr.2
    by_cases a : bt s i = 47
    · rw [if_pos a]
      refine Ev.step (f := fun k => unit_escape.l0 k s true e true st (i + 1)) (fun k => ?_) ?_
      · simp only [unit_escape.l0]
        rw [if_pos (by omega), if_pos h0, if_pos trivial, if_pos a, wrap_succ h0 (by omega)]
      · have := ih (i + 1) e true st (by omega) (by omega) (by omega) (by omega)
        rw [hN] at this
        exact this
    · rw [if_neg a]
      have key : ∀ (e' : List Int), e'.length ≤ 5 * i.toNat + 1 → Ev (fun k => unit_escape.j1 k s true e' false st i (bt s i)) (strOfNums (done (e' ++ (one st (bt s i) ++ pth false false ((bytesOf s).drop (i.toNat + 1)))))) := by
        intro e' he'
        refine Ev.step (f := fun k => unit_escape.l0 k s true (e' ++ one st (bt s i)) false false (i + 1)) (fun k => ?_) ?_
        · rw [j1_is s true e' false st i (bt s i) k hr.1 hr.2 (by omega), wrap_succ h0 (by omega)]
        · have := ih (i + 1) (e' ++ one st (bt s i)) false false (by omega) (by omega) (by omega) (by rw [List.length_append]; omega)
          rw [hN, List.append_assoc] at this
          exact this
      cases sl with
      | false =>
        refine Ev.step (f := fun k => unit_escape.j1 k s true e false st i (bt s i)) (fun k => ?_) ?_
        · simp only [unit_escape.l0]
          rw [if_pos (by omega), if_pos h0, if_pos trivial, if_neg a, if_neg (by simp)]
        · have := key e (by omega)
          simpa using this
      | true =>
        cases st with
        | true =>
          refine Ev.step (f := fun k => unit_escape.j1 k s true e false true i (bt s i)) (fun k => ?_) ?_
          · simp only [unit_escape.l0]
            rw [if_pos (by omega), if_pos h0, if_pos trivial, if_neg a, if_pos trivial, if_pos trivial]
          · have := key e (by omega)
            simpa using this
        | false =>
          refine Ev.step (f := fun k => unit_escape.j1 k s true (e ++ [45]) false false i (bt s i)) (fun k => ?_) ?_
          · simp only [unit_escape.l0]
            rw [if_pos (by omega), if_pos h0, if_pos trivial, if_neg a, if_pos trivial, if_neg (by simp), if_pos (by omega)]
          · have := key (e ++ [45]) (by rw [List.length_append]; simp; omega)
            rw [List.append_assoc] at this
            simpa using this

theorem path_is (s : ByteArray) (hs : s.size ≤ 20000000) : Ev (fun k => impl_PathEscape.f k s) (strOfNums (done (pth false true (bytesOf s)))) := by
  obtain ⟨K, h⟩ := l0_path s hs s.size 0 [] false true (by omega) (by omega) (by omega) (by simp)
  refine ⟨K, fun k hk => ?_⟩
  show impl_PathEscape.f k s = _
  unfold impl_PathEscape.f unit_UnitNamePathEscape.f unit_escape.f
  have := h k hk
  simp only [] at this
  rw [this]
  simp

/-! Slashes do not matter. -/
theorem pth_slashes (n : Nat) : ∀ (sl st : Bool) (x : List Int), pth sl st (List.replicate (n + 1) 47 ++ x) = pth true st x := by
  induction n with
  | zero => intro sl st x; simp [List.replicate, pth]
  | succ n ih =>
    intro sl st x
    rw [List.replicate_succ, List.cons_append, pth, if_pos rfl]
    exact ih true st x
theorem pth_word (p : List Int) : ∀ (r1 r2 : List Int), (∀ sl st, pth sl st r1 = pth sl st r2) → ∀ sl st, pth sl st (p ++ r1) = pth sl st (p ++ r2) := by
  induction p with
  | nil => intro r1 r2 h; exact h
  | cons c cs ih =>
    intro r1 r2 h sl st
    rw [List.cons_append, List.cons_append, pth, pth, ih r1 r2 h, ih r1 r2 h]
theorem pth_chunks (l : List (Nat × List Int)) (m : Nat × List Int → Nat) : ∀ (t1 t2 : List Int), (∀ sl st, pth sl st t1 = pth sl st t2) →
    ∀ sl st, pth sl st (l.flatMap (fun x => List.replicate (x.1 + 1) 47 ++ x.2) ++ t1) = pth sl st (l.flatMap (fun x => List.replicate (m x + 1) 47 ++ x.2) ++ t2) := by
  induction l with
  | nil => intro t1 t2 h; simpa using h
  | cons x xs ih =>
    intro t1 t2 h sl st
    rw [List.flatMap_cons, List.flatMap_cons]
    simp only [List.append_assoc]
    rw [pth_slashes, pth_slashes]
    exact pth_word x.2 _ _ (ih t1 t2 h) true st
theorem pth_end : ∀ sl st, pth sl st [47] = pth sl st [] := fun sl st => by simp [pth]

/-! The parts. -/
def clean (l : List ByteArray) : List Int := l.flatMap (fun p => 47 :: bytesOf p)
theorem has_answers (p : ByteArray) (hp : p.size ≤ 2147483647) : ∃ b, Ev (fun k => laws_has.f k p ⟨#[47]⟩) b := by
  have h : ∀ (d : Nat) (i : Int), 0 ≤ i → i ≤ p.size → (p.size : Int) - i = d → ∃ b, Ev (fun k => laws_has.l0 k p ⟨#[47]⟩ (p.size : Int) i) b := by
    intro d
    induction d with
    | zero =>
      intro i h0 h1 hd
      refine ⟨false, Ev.step (f := fun _ => some false) (fun k => ?_) (Ev.now _)⟩
      simp only [laws_has.l0]
      rw [if_neg (by omega)]
    | succ d ih =>
      intro i h0 h1 hd
      obtain ⟨b, hb⟩ := ih (i + 1) (by omega) (by omega) (by omega)
      have hsz : ((⟨#[47]⟩ : ByteArray).size : Int) = 1 := rfl
      have s1 : ∀ k, laws_has.l0 (k + 1) p ⟨#[47]⟩ (p.size : Int) i = laws_has.l1 k p ⟨#[47]⟩ i (p.size : Int) i 1 0 := by
        intro k
        simp only [laws_has.l0]
        rw [if_pos (by omega), hsz]
      by_cases e : bt p i = bt ⟨#[47]⟩ 0
      · refine ⟨true, Ev.step s1 (Ev.step (f := fun _ => some true) (fun k => ?_) (Ev.now _))⟩
        simp only [laws_has.l1]
        rw [if_pos (by omega), if_pos h0, if_pos (by omega), if_pos (by omega), hsz, if_pos (by omega), if_pos e]
      · refine ⟨b, Ev.step s1 (Ev.step (f := fun k => laws_has.l1 k p ⟨#[47]⟩ i (p.size : Int) i 1 1) (fun k => ?_) (Ev.step (f := fun k => laws_has.l0 k p ⟨#[47]⟩ (p.size : Int) (i + 1)) (fun k => ?_) hb))⟩
        · simp only [laws_has.l1]
          rw [if_pos (by omega), if_pos h0, if_pos (by omega), if_pos (by omega), hsz, if_pos (by omega), if_neg e, wrap_succ (by omega) (by omega)]
          rfl
        · simp only [laws_has.l1]
          rw [if_neg (by omega), wrap_succ h0 (by omega)]
  obtain ⟨b, hb⟩ := h p.size 0 (by omega) (by omega) (by omega)
  exact ⟨b, hb⟩

theorem rdOf_at {α : Type} (d : α) (l : List α) (i : Int) (h0 : 0 ≤ i) (h : i < l.length) : ∃ x, l[i.toNat]? = some x ∧ rdOf d l i = x ∧ l.drop i.toNat = x :: l.drop (i.toNat + 1) := by
  have hl : i.toNat < l.length := by omega
  refine ⟨l[i.toNat], List.getElem?_eq_getElem hl, ?_, List.drop_eq_getElem_cons hl⟩
  simp [rdOf, List.getD_eq_getElem?_getD, List.getElem?_eq_getElem hl]

theorem sizes (x3 p : ByteArray) : (x3 ++ ((⟨#[47]⟩ : ByteArray) ++ p)).size = x3.size + (1 + p.size) ∧ bytesOf (x3 ++ ((⟨#[47]⟩ : ByteArray) ++ p)) = bytesOf x3 ++ 47 :: bytesOf p ∧ ((⟨#[47]⟩ : ByteArray) ++ p).size = 1 + p.size := by
  have e1 : bytesOf ((⟨#[47]⟩ : ByteArray) ++ p) = 47 :: bytesOf p := by
    rw [bytes_append]
    rfl
  have e2 : bytesOf (x3 ++ ((⟨#[47]⟩ : ByteArray) ++ p)) = bytesOf x3 ++ 47 :: bytesOf p := by rw [bytes_append, e1]
  refine ⟨?_, e2, ?_⟩
  · rw [← bytesOf_length, e2, List.length_append, List.length_cons, bytesOf_length, bytesOf_length]
    omega
  · rw [← bytesOf_length, e1, List.length_cons, bytesOf_length]
    omega

/-- The clean path: nothing, or the parts with a slash ahead of each, at most 2,000 bytes. -/
theorem cleaned_loop (l : List ByteArray) (hl : l.length ≤ 2147483647) (hp : ∀ p ∈ l, p.size ≤ 2147483647) (d : Nat) : ∀ (i : Int) (x3 : ByteArray), 0 ≤ i → i ≤ l.length → (l.length : Int) - i = d → (x3.size : Int) ≤ i * 2147483648 →
    ∃ r, Ev (fun k => laws_cleaned.l0 k x3 l (l.length : Int) i) r ∧ (r = ⟨#[]⟩ ∨ (bytesOf r = bytesOf x3 ++ clean (l.drop i.toNat) ∧ r.size ≤ 2000)) := by
  induction d with
  | zero =>
    intro i x3 h0 h1 hd hx
    by_cases c : (x3.size : Int) > 2000
    · refine ⟨⟨#[]⟩, Ev.step (f := fun _ => some (⟨#[]⟩ : ByteArray)) (fun k => ?_) (Ev.now _), .inl rfl⟩
      simp only [laws_cleaned.l0]
      rw [if_neg (by omega), if_pos c]
    · refine ⟨x3, Ev.step (f := fun _ => some x3) (fun k => ?_) (Ev.now _), .inr ⟨?_, by omega⟩⟩
      · simp only [laws_cleaned.l0]
        rw [if_neg (by omega), if_neg c]
      · rw [List.drop_of_length_le (by omega)]
        simp [clean]
  | succ d ih =>
    intro i x3 h0 h1 hd hx
    obtain ⟨p, hp1, hp2, hp3⟩ := rdOf_at ByteArray.empty l i h0 (by omega)
    have hps := hp p (List.mem_of_getElem? hp1)
    obtain ⟨b, K, hb⟩ := has_answers p hps
    dsimp only at hb
    obtain ⟨z1, z2, z3⟩ := sizes x3 p
    have bad : (p.toList = ([] : List UInt8) ∨ p.toList = ([46] : List UInt8) ∨ p.toList = ([46, 46] : List UInt8)) ∨ (¬ p.toList = ([] : List UInt8) ∧ ¬ p.toList = ([46] : List UInt8) ∧ ¬ p.toList = ([46, 46] : List UInt8)) := by
      by_cases e1 : p.toList = ([] : List UInt8)
      · exact .inl (.inl e1)
      · by_cases e2 : p.toList = ([46] : List UInt8)
        · exact .inl (.inr (.inl e2))
        · by_cases e3 : p.toList = ([46, 46] : List UInt8)
          · exact .inl (.inr (.inr e3))
          · exact .inr ⟨e1, e2, e3⟩
    rcases bad with bad | ⟨e1, e2, e3⟩
    · refine ⟨⟨#[]⟩, Ev.step (f := fun _ => some (⟨#[]⟩ : ByteArray)) (fun k => ?_) (Ev.now _), .inl rfl⟩
      simp only [laws_cleaned.l0]
      rw [if_pos (by omega), if_pos h0, if_pos (by omega), hp2]
      by_cases e1 : p.toList = ([] : List UInt8)
      · rw [if_pos e1]
      · rw [if_neg e1]
        by_cases e2 : p.toList = ([46] : List UInt8)
        · rw [if_pos e2]
        · rw [if_neg e2, if_pos (by rcases bad with h | h | h; exact absurd h e1; exact absurd h e2; exact h)]
    · cases b with
      | true =>
        refine ⟨⟨#[]⟩, ⟨K + 1, fun k hk => ?_⟩, .inl rfl⟩
        obtain ⟨k, rfl⟩ : ∃ m, k = m + 1 := ⟨k - 1, by omega⟩
        simp only [laws_cleaned.l0]
        rw [if_pos (by omega), if_pos h0, if_pos (by omega), hp2, if_neg e1, if_neg e2, if_neg e3, hb k (by omega), Option.bind_some, if_pos rfl]
      | false =>
        obtain ⟨r, ⟨K2, hr⟩, hr2⟩ := ih (i + 1) (x3 ++ ((⟨#[47]⟩ : ByteArray) ++ p)) (by omega) (by omega) (by omega) (by rw [z1]; omega)
        refine ⟨r, ⟨K + K2 + 1, fun k hk => ?_⟩, ?_⟩
        · obtain ⟨k, rfl⟩ : ∃ m, k = m + 1 := ⟨k - 1, by omega⟩
          simp only [laws_cleaned.l0]
          rw [if_pos (by omega), if_pos h0, if_pos (by omega), hp2, if_neg e1, if_neg e2, if_neg e3, hb k (by omega), Option.bind_some, if_neg (by simp), if_pos (by omega), z3, if_pos (by omega), wrap_succ h0 (by omega)]
          exact hr k (by omega)
        · rcases hr2 with h | ⟨h, h2⟩
          · exact .inl h
          · refine .inr ⟨?_, h2⟩
            rw [h, z2, hp3, show (i + 1).toNat = i.toNat + 1 by omega]
            simp [clean]
end Go.Proofs.Ytlmmgienbmghmaa.Path
