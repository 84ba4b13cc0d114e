/- The reference's print of mounts, read back. -/
import Derived.Test.YtokojamaigebaaaDoorMtPure2
set_option linter.unusedVariables false
set_option linter.unusedSimpArgs false
namespace Go.Proofs.YtokojamaigebaaaDoor.MtPure
open Go.RowKit Go.Proofs.YtokojamaigebaaaDoorW.PrintWords Go.Proofs.YtokojamaigebaaaDoorW.PrintLast Go.Proofs.YtokojamaigebaaaDoorW.PrintMore Go.Proofs.YtokojamaigebaaaDoor.Scan Go.Proofs.YtokojamaigebaaaDoor.ScanL Go.Proofs.YtokojamaigebaaaDoor.GivM Go.Proofs.YtokojamaigebaaaDoor.M Go.Proofs.YtokojamaigebaaaDoor.L Go.Proofs.YtokojamaigebaaaDoor.MtDoor Go.Proofs.YtokojamaigebaaaDoor.MtRow Go.Proofs.YtokojamaigebaaaDoor.MtLoop Go.Proofs.YtokojamaigebaaaDoor.DoorMt
open Go.Proofs.YtokojamaigebaaaDoorPt hiding toB_size toB_data
/-! ### join and split -/
theorem join_app (c : UInt8) : ∀ (a b : List (List UInt8)), a ≠ [] → b ≠ [] → Lib.join (a ++ b) [c] = Lib.join a [c] ++ ([c] ++ Lib.join b [c])
  | [], b, h, _ => absurd rfl h
  | [p], b, _, hb => by rw [Lib.join_one, List.singleton_append, join_cons p b c hb]; rfl
  | p :: q :: a, b, _, hb => by
    rw [List.cons_append, join_cons p ((q :: a) ++ b) c (by simp), join_app c (q :: a) b (by simp) hb, join_cons p (q :: a) c (by simp), List.append_assoc]
    rfl
/-! ### octal, back -/
theorem unesc_one (n : Nat) (x : UInt8) (l : List UInt8) (h : x ≠ 92) : unescN (n + 1) (x :: l) = x :: unescN n l := by
  match l with
  | [] => rw [unescN]; intro _ _ _ _ h; cases h
  | [a] => rw [unescN]; intro _ _ _ _ h; cases h
  | [a, b] => rw [unescN]; intro _ _ _ _ h; cases h
  | a :: b :: c :: l => rw [unescN, if_neg (by unfold escB; simp [h])]
theorem unescL_plain (l : List UInt8) (h : ∀ b ∈ l, b ≠ 92) : unescL l = l := unesc_plain _ l (Nat.le_refl _) h
/-! ### words -/
theorem word_t {l : List UInt8} (h : wordB l = true) : (∀ b ∈ l, b ≠ 92 ∧ 32 < b.toNat ∧ b.toNat < 127) ∧ l ≠ [] := by
  unfold wordB at h
  simp only [Bool.and_eq_true, List.all_eq_true] at h
  obtain ⟨⟨h1, h2⟩, h3⟩ := h
  refine ⟨fun b hb => ⟨by simpa using h1 b hb, ?_⟩, by simpa using h2⟩
  have := h3 b hb
  unfold prB prN at this
  simpa using this
/-! ### a line -/
def midL (op : List UInt8) : List (List UInt8) := if op = [] then [] else splitL 32 op
structure Good (n0 n1 n2 n3 : Nat) (r mp o op t s v : List UInt8) : Prop where
  h0 : n0 ≤ 2147483647
  h1 : n1 ≤ 2147483647
  h2 : n2 ≤ 2147483647
  h3 : n3 ≤ 2147483647
  ho : wordB o = true
  ht : wordB t = true
  hv : wordB v = true
  hop : ∀ p ∈ midL op, wordB p = true ∧ p ≠ [45]
end Go.Proofs.YtokojamaigebaaaDoor.MtPure
