/- The lexer of unit files as a function of its text; each step by its contract. -/
import Derived.Test.YtlmmgienbmghmaaDoorLexS
set_option linter.unusedVariables false
set_option linter.unusedSimpArgs false
namespace Go.Proofs.YtlmmgienbmghmaaDoor.Lex
open Go.RowKit Go.Proofs.YtlmmgienbmghmaaDoorW.PrintWords Go.Proofs.YtlmmgienbmghmaaDoorW.PrintLast Go.Proofs.YtlmmgienbmghmaaDoorW.PrintMore Go.Proofs.YtlmmgienbmghmaaDoor.GivU Go.Proofs.YtlmmgienbmghmaaDoor.J
/-- One step: the buffer behind it, what was found, the next step (none: an error). -/
def stepF (t : ByteArray) (m : Nat) : Step → Bf → Option (Bf × List Item × Option Step)
  | .stop, _ => none
  | .sec, b => some ((secF t b).1, [], some (secF t b).2)
  | .name, b => match rbN 93 t.data.toList m b with
    | none => none
    | some (b', e) => some (b', [], if e = true then none else some (.suf (secName t.data.toList b b')))
  | .ign s, b => match ignN t.data.toList m m b with
    | none => none
    | some b' => some (b', [], some s)
  | .suf s, b => match rbN 10 t.data.toList m b with
    | none => none
    | some (b', e) => some (b', sufIts t b b' s, sufStep t b b' s)
  | .soo s, b => some ((sooF t b s).1, [], some (sooF t b s).2)
  | .optn s, b => match optN t m b ByteArray.empty with
    | none => none
    | some (b', en, nm) => some (b', [], optnStep s en nm)
  | .optv s n d, b => match rbN 10 t.data.toList m b with
    | none => none
    | some (b', e) => some (b', (optvR (lineOf t.data.toList b b') e s n d).1, some (optvR (lineOf t.data.toList b b') e s n d).2)
/-- How long a value in the making is. -/
def stepSz : Step → Nat
  | .optv _ _ d => d.size
  | .ign s => stepSz s
  | _ => 0
/-- A line feed or a carriage return is among them. -/
def hasNL (l : List UInt8) : Bool := l.any fun c => c == 10 || c == 13
/-- Too long a line. -/
def tooLong (t : ByteArray) (b : Bf) : Bool := decide (2048 ≤ b.w - b.r) && !hasNL ((t.data.toList.drop b.r).take 2048)
def Step.isStop : Step → Bool
  | .stop => true
  | _ => false
/-- The lexer: what it found, and whether without an error. -/
def lexF (t : ByteArray) (m : Nat) : Nat → Bf → Step → List Item → Option (List Item × Bool)
  | 0, _, _, _ => none
  | n + 1, b, s, acc => if s.isStop = true then some (acc, true) else if tooLong t b = true then some (acc, false) else match stepF t m s b with
    | none => none
    | some (b', its, none) => some (acc ++ its, false)
    | some (b', its, some s') => lexF t m n b' s' (acc ++ its)
theorem nl_l0 (l : List UInt8) (hmax : l.length ≤ 1000000) : ∀ (k i : Nat), i ≤ l.length → l.length - i < k → unit_zzNewline.l0 k (l.map fun b => (b.toNat : Int)) ((l.map fun b => (b.toNat : Int)).length : Int) (i : Int) = some (hasNL (l.drop i))
  | 0, i, _, h => absurd h (Nat.not_lt_zero _)
  | k + 1, i, hi, hk => by
    rw [unit_zzNewline.l0]
    rw [List.length_map]
    by_cases c : i < l.length
    · rw [if_pos (by omega), if_pos (by omega), if_pos (by omega)]
      have hr : rd (l.map fun b => (b.toNat : Int)) (i : Int) = ((l[i]'c).toNat : Int) := by
        unfold rd
        rw [Int.toNat_natCast, List.getD_eq_getElem?_getD, List.getElem?_map, List.getElem?_eq_getElem c]
        rfl
      rw [hr]
      have hd : l.drop i = l[i]'c :: l.drop (i + 1) := List.drop_eq_getElem_cons c
      rw [hd]
      show _ = some ((((l[i]'c) == 10) || ((l[i]'c) == 13)) || hasNL (l.drop (i + 1)))
      by_cases h10 : l[i]'c = 10
      · rw [if_pos (by rw [h10]; rfl), h10]; rfl
      · rw [if_neg (show ¬ (((l[i]'c).toNat : Nat) : Int) = 10 from fun he => h10 (UInt8.toNat_inj.1 (show (l[i]'c).toNat = 10 by omega))), beq_eq_false_iff_ne.2 h10]
        by_cases h13 : l[i]'c = 13
        · rw [if_pos (by rw [h13]; rfl), h13]; rfl
        · rw [if_neg (show ¬ (((l[i]'c).toNat : Nat) : Int) = 13 from fun he => h13 (UInt8.toNat_inj.1 (show (l[i]'c).toNat = 13 by omega))), beq_eq_false_iff_ne.2 h13]
          have hw : wrap64 ((i : Int) + 1) = ((i + 1 : Nat) : Int) := by rw [← i64_w, IntKind.wrap_i64]; omega
          rw [hw]
          have ih := nl_l0 l hmax k (i + 1) c (by omega)
          rw [List.length_map] at ih
          rw [ih]
          rfl
    · rw [if_neg (by omega)]
      have hd : l.drop i = [] := List.drop_eq_nil_of_le (by omega)
      rw [hd]
      rfl
theorem nl_f (l : List UInt8) (hmax : l.length ≤ 1000000) : unit_zzNewline.f (l.length + 1) (l.map fun b => (b.toNat : Int)) = some (hasNL l) := by
  unfold unit_zzNewline.f
  have := nl_l0 l hmax (l.length + 1) 0 (Nat.zero_le _) (by omega)
  rw [List.drop_zero] at this
  exact this
theorem isNL_is (W : World) (v : Value) (l : List UInt8) (h : IsBytes W v l) (hl : l.length ≤ 1000000) : Calls Tryd.prog 45 #[v] W fun e W' => e = .returned (.bool (hasNL l)) ∧ Below W.heap.size W W' := by
  obtain ⟨A, c, rfl, hc, hC⟩ := h
  have hz : (l.map fun b => (b.toNat : Int)).length = l.length := List.length_map ..
  have := unit_zzNewline.calls (l.length + 1) A c (l.map fun b => (b.toNat : Int)) (hasNL l) W (by rw [hz]; exact hC) (by rw [hz]; exact hc) (nl_f l hl)
  rw [hz] at this
  refine this.mono ?_
  rintro e W' ⟨rfl, hd⟩
  exact ⟨rfl, hd.below⟩
/-- A step by its value. -/
theorem step_is (w0 W : World) (p g : Nat) (t : ByteArray) (m : Nat) (b b' : Bf) (s : Step) (v : Value) (its : List Item) (o : Option Step) (dv : Value) (cels : List Cel) (h : LexAt w0 W p g t b dv .nilIface cels) (ht : t.size ≤ 100000) (hT : UTabs w0) (hm : m ≤ 1000000) (hcl : cels.length ≤ 1000000) (hsz : stepSz s ≤ 1000000000000)
    (hv : StepAt W p s v) (hk : stepF t m s b = some (b', its, o)) :
    ∃ K f1 f2, v = .func (.func K) f1 f2 ∧ (∀ args w, (callFunc K args).run Tryd.prog w = .ok (.enter K args) w) ∧ Calls Tryd.prog K (f1 ++ f2) W fun e' W' => StepPost w0 p g t cels b' its o e' W' := by
  cases s with
  | stop => cases hk
  | sec =>
    obtain rfl : v = _ := hv
    simp only [stepF, Option.some.injEq, Prod.mk.injEq] at hk
    obtain ⟨rfl, rfl, rfl⟩ := hk
    exact ⟨_, _, _, rfl, enters_of Tryd.func42 (by kernel_rfl) rfl, sec_is w0 W p g t b dv cels h ht hT⟩
  | name =>
    obtain rfl : v = _ := hv
    rw [stepF] at hk
    split at hk
    · cases hk
    · rename_i b1 e he
      simp only [Option.some.injEq, Prod.mk.injEq] at hk
      obtain ⟨rfl, rfl, rfl⟩ := hk
      exact ⟨_, _, _, rfl, enters_of Tryd.func55 (by kernel_rfl) rfl, name_is w0 W p g t b _ e m dv cels h ht he⟩
  | ign s =>
    obtain ⟨q0, q1, fn, f1, f2, rfl, h0, h1, hs⟩ := hv
    rw [stepF] at hk
    split at hk
    · cases hk
    · rename_i b1 he
      simp only [Option.some.injEq, Prod.mk.injEq] at hk
      obtain ⟨rfl, rfl, rfl⟩ := hk
      exact ⟨_, _, _, rfl, enters_of Tryd.func67 (by kernel_rfl) rfl, ign_is w0 W p g t b _ m m s q0 q1 fn f1 f2 dv cels h ht h0 h1 hs he⟩
  | suf s =>
    obtain ⟨q0, q1, rfl, h0, h1⟩ := hv
    rw [stepF] at hk
    split at hk
    · cases hk
    · rename_i b1 e he
      simp only [Option.some.injEq, Prod.mk.injEq] at hk
      obtain ⟨rfl, rfl, rfl⟩ := hk
      exact ⟨_, _, _, rfl, enters_of Tryd.func73 (by kernel_rfl) rfl, suf_is w0 W p g s t b _ e m q0 q1 dv cels h ht hT hcl h0 h1 he⟩
  | soo s =>
    obtain ⟨q0, q1, rfl, h0, h1⟩ := hv
    simp only [stepF, Option.some.injEq, Prod.mk.injEq] at hk
    obtain ⟨rfl, rfl, rfl⟩ := hk
    exact ⟨_, _, _, rfl, enters_of Tryd.func80 (by kernel_rfl) rfl, soo_is w0 W p g s t b q0 q1 dv cels h ht hT h0 h1⟩
  | optn s =>
    obtain ⟨q0, q1, rfl, h0, h1⟩ := hv
    rw [stepF] at hk
    split at hk
    · cases hk
    · rename_i b1 en nm he
      simp only [Option.some.injEq, Prod.mk.injEq] at hk
      obtain ⟨rfl, rfl, rfl⟩ := hk
      exact ⟨_, _, _, rfl, enters_of Tryd.func91 (by kernel_rfl) rfl, optn_is w0 W p g s t b _ m en nm q0 q1 dv cels h ht hT hm h0 h1 he⟩
  | optv s n d =>
    obtain ⟨q0, q1, q2, q3, hp, n2, n3, rfl, h0, h1, h2, h3⟩ := hv
    rw [stepF] at hk
    split at hk
    · cases hk
    · rename_i b1 e he
      simp only [Option.some.injEq, Prod.mk.injEq] at hk
      obtain ⟨rfl, rfl, rfl⟩ := hk
      exact ⟨_, _, _, rfl, enters_of Tryd.func106 (by kernel_rfl) rfl, optv_is w0 W p g s n d t b _ e m q0 q1 q2 q3 dv cels h ht hT hcl hsz hp n2 n3 h0 h1 h2 h3 he⟩
end Go.Proofs.YtlmmgienbmghmaaDoor.Lex
