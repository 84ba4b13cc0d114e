/- Trees of few floors: they are handed over, and a tree is the same as itself. -/
import Derived.Test.YtdmpbaanonafbaaGreatDoorTexts2
import Derived.Test.YtdmpbaanonafbaaGreatDoorV1
import Derived.Test.YtdmpbaanonafbaaGreatDoorV2
set_option linter.unusedVariables false
set_option linter.unusedSimpArgs false
namespace Go.Proofs.YtdmpbaanonafbaaGreatDoor.Trees
open Go.RowKit Go.Proofs.YtdmpbaanonafbaaGreatDoor.V Go.Proofs.YtdmpbaanonafbaaGreatDoor.E Go.Proofs.YtdmpbaanonafbaaGreatDoorW.PrintWords Go.Proofs.YtdmpbaanonafbaaGreatDoorW.PrintLast Go.Proofs.YtdmpbaanonafbaaGreatDoor.Texts Go.Proofs.YtdmpbaanonafbaaGreatDoor.L

def good : Nat → List S35 → Prop
  | 0, l => l = []
  | d + 1, l => l.length ≤ 200000 ∧ ∀ x ∈ l, good d x.f7
def good' : Nat → List S40 → Prop
  | 0, l => l = []
  | d + 1, l => l.length ≤ 200000 ∧ ∀ x ∈ l, good' d x.f7
theorem getD_mem {α : Type} (l : List α) (z : α) (i : Nat) (h : i < l.length) : l.getD i z ∈ l := by
  rw [List.getD_eq_getElem?_getD, List.getElem?_eq_getElem h]
  exact List.getElem_mem h
theorem toNode_loop (d : Nat) (hd : ∀ l, good d l → ∃ l' : List S40, good' d l' ∧ ∀ (a0 : ByteArray) (a1 : Int) (a2 : Bool) (a3 a4 : Int) (a5 : Nat) (a6 : ByteArray), Ev (fun k => laws_toNode.f k a0 a1 a2 a3 a4 a5 a6 l) (a0, a1, a2, a3, a4, a5, a6, l'))
    (l : List S35) (hl : good (d + 1) l) (m : Nat) : ∀ (acc : List S40) (i : Nat), i ≤ l.length → l.length - i = m → acc.length = i → (∀ x ∈ acc, good' d x.f7) →
    ∃ l' : List S40, good' (d + 1) l' ∧ ∀ (a0 : ByteArray) (a1 : Int) (a2 : Bool) (a3 a4 : Int) (a5 : Nat) (a6 : ByteArray), Ev (fun k => laws_toNode.l0 k l (l.length : Int) (i : Int) a0 a1 a2 a3 a4 a5 a6 acc) (a0, a1, a2, a3, a4, a5, a6, l') := by
  have hl1 := hl.1
  induction m with
  | zero =>
    intro acc i h1 hm ha hx
    refine ⟨acc, ⟨by omega, hx⟩, fun a0 a1 a2 a3 a4 a5 a6 => Ev.step (f := fun _ => some (a0, a1, a2, a3, a4, a5, a6, acc)) (fun k => ?_) (Ev.now _)⟩
    simp only [laws_toNode.l0]
    rw [if_neg (by omega)]
  | succ m ih =>
    intro acc i h1 hm ha hx
    have hi : i < l.length := by omega
    have hmem := getD_mem l z35 i hi
    have hrd : rd_T35 l (i : Int) = l.getD i z35 := by simp [rd_T35]
    obtain ⟨l1, g1, hE1⟩ := hd _ (hl.2 _ hmem)
    generalize l.getD i z35 = x at hrd hmem hE1
    obtain ⟨l', g', hE⟩ := ih (acc ++ [⟨x.f0, x.f1, x.f2, x.f3, x.f4, x.f5, x.f6, l1⟩]) (i + 1) (by omega) (by omega) (by simp [ha]) (fun y hy => by
      rcases List.mem_append.1 hy with hy | hy
      · exact hx y hy
      · rw [List.mem_singleton.1 hy]; exact g1)
    refine ⟨l', g', fun a0 a1 a2 a3 a4 a5 a6 => ?_⟩
    refine Ev.step (f := fun k => (laws_toNode.f k x.f0 x.f1 x.f2 x.f3 x.f4 x.f5 x.f6 x.f7).bind fun bt199 => (if acc.length < 1466015503701 then (laws_toNode.l0 k l (l.length : Int) ((i + 1 : Nat) : Int) a0 a1 a2 a3 a4 a5 a6 (acc ++ [(⟨bt199.1, bt199.2.1, bt199.2.2.1, bt199.2.2.2.1, bt199.2.2.2.2.1, bt199.2.2.2.2.2.1, bt199.2.2.2.2.2.2.1, bt199.2.2.2.2.2.2.2⟩ : S40)])) else (none))) (fun k => ?_) (Ev.bind (hE1 _ _ _ _ _ _ _) (Ev.congr (fun k => ?_) (hE a0 a1 a2 a3 a4 a5 a6)))
    · simp only [laws_toNode.l0]
      rw [if_pos (by omega), if_pos (by omega), if_pos (by omega), hrd, wrap_in (by omega) (by omega)]
      rfl
    · rw [if_pos (by omega)]
theorem toNode_ev : ∀ (d : Nat) (l : List S35), good d l → ∃ l' : List S40, good' d l' ∧ ∀ (a0 : ByteArray) (a1 : Int) (a2 : Bool) (a3 a4 : Int) (a5 : Nat) (a6 : ByteArray), Ev (fun k => laws_toNode.f k a0 a1 a2 a3 a4 a5 a6 l) (a0, a1, a2, a3, a4, a5, a6, l')
  | 0, l, h => by
    have h2 : l = [] := h
    subst h2
    refine ⟨[], rfl, fun a0 a1 a2 a3 a4 a5 a6 => Ev.step (f := fun k => laws_toNode.l0 k [] 0 0 a0 a1 a2 a3 a4 a5 a6 []) (fun k => by simp only [laws_toNode.f]; rfl) (Ev.step (f := fun _ => some (a0, a1, a2, a3, a4, a5, a6, [])) (fun k => ?_) (Ev.now _))⟩
    simp only [laws_toNode.l0]
    rw [if_neg (by omega)]
  | d + 1, l, h => by
    obtain ⟨l', g', hE⟩ := toNode_loop d (toNode_ev d) l h l.length [] 0 (by omega) (by omega) rfl (fun x hx => by cases hx)
    exact ⟨l', g', fun a0 a1 a2 a3 a4 a5 a6 => Ev.step (fun k => by simp only [laws_toNode.f]; rfl) (hE a0 a1 a2 a3 a4 a5 a6)⟩

theorem same_step (a0 : ByteArray) (a1 : Int) (a2 : Bool) (a3 a4 : Int) (a5 : Nat) (a6 : ByteArray) (l : List S40) (h : Ev (fun k => spec_SameNode.l0 k (l.length : Int) 0 a0 a1 a2 a3 a4 a5 a6 l a0 a1 a2 a3 a4 a5 a6 l) true) :
    Ev (fun k => spec_SameNode.f k a0 a1 a2 a3 a4 a5 a6 l a0 a1 a2 a3 a4 a5 a6 l) true := by
  refine Ev.step (f := fun k => spec_SameNode.j0 k false a0 a1 a2 a3 a4 a5 a6 l a0 a1 a2 a3 a4 a5 a6 l) (fun k => ?_) (Ev.step (fun k => ?_) h)
  · simp only [spec_SameNode.f]
    rw [if_pos trivial, if_pos trivial, if_neg (by simp), if_pos trivial, if_pos trivial, if_pos trivial, if_pos trivial]
    congr 1
    simp
  · simp only [spec_SameNode.j0]
    rw [if_neg (by simp)]
theorem same_ev : ∀ (d : Nat) (l : List S40), good' d l → ∀ (a0 : ByteArray) (a1 : Int) (a2 : Bool) (a3 a4 : Int) (a5 : Nat) (a6 : ByteArray), Ev (fun k => spec_SameNode.f k a0 a1 a2 a3 a4 a5 a6 l a0 a1 a2 a3 a4 a5 a6 l) true
  | 0, l, h, a0, a1, a2, a3, a4, a5, a6 => by
    have h2 : l = [] := h
    subst h2
    refine same_step _ _ _ _ _ _ _ _ (Ev.step (f := fun _ => some true) (fun k => ?_) (Ev.now _))
    simp only [spec_SameNode.l0]
    rw [if_neg (by simp)]
  | d + 1, l, h, a0, a1, a2, a3, a4, a5, a6 => by
    have hl1 := h.1
    refine same_step _ _ _ _ _ _ _ _ ?_
    suffices H : ∀ (m i : Nat), i ≤ l.length → l.length - i = m → Ev (fun k => spec_SameNode.l0 k (l.length : Int) (i : Int) a0 a1 a2 a3 a4 a5 a6 l a0 a1 a2 a3 a4 a5 a6 l) true from H l.length 0 (by omega) (by omega)
    intro m
    induction m with
    | zero =>
      intro i h1 hm
      refine Ev.step (f := fun _ => some true) (fun k => ?_) (Ev.now _)
      simp only [spec_SameNode.l0]
      rw [if_neg (by omega)]
    | succ m ih =>
      intro i h1 hm
      have hi : i < l.length := by omega
      have hmem := getD_mem l z40 i hi
      have hrd : rd_T40 l (i : Int) = l.getD i z40 := by simp [rd_T40]
      have hE := same_ev d _ (h.2 _ hmem)
      generalize l.getD i z40 = x at hrd hE
      refine Ev.step (f := fun k => (spec_SameNode.f k x.f0 x.f1 x.f2 x.f3 x.f4 x.f5 x.f6 x.f7 x.f0 x.f1 x.f2 x.f3 x.f4 x.f5 x.f6 x.f7).bind fun t193 => (if t193 = true then (spec_SameNode.l0 k (l.length : Int) ((i + 1 : Nat) : Int) a0 a1 a2 a3 a4 a5 a6 l a0 a1 a2 a3 a4 a5 a6 l) else (some false))) (fun k => ?_) (Ev.bind (hE _ _ _ _ _ _ _) (Ev.congr (fun k => by rw [if_pos rfl]) (ih (i + 1) (by omega) (by omega))))
      simp only [spec_SameNode.l0]
      rw [if_pos (by omega), if_pos (by omega), if_pos (by omega), if_pos (by omega), hrd, wrap_in (by omega) (by omega)]
      rfl
end Go.Proofs.YtdmpbaanonafbaaGreatDoor.Trees
