import Derived.Test.YtlmmgienbmghmaaDoorLexS
/- The lexer of unit files as a function of its text; each step by its contract. -/
set_option linter.unusedVariables false
set_option linter.unusedSimpArgs false
namespace Go.Proofs.YtlmmgienbmghmaaDoor.Lex
open Go.RowKit Go.Proofs.YtlmmgienbmghmaaDoorW.PrintWords Go.Proofs.YtlmmgienbmghmaaDoorW.PrintLast Go.Proofs.YtlmmgienbmghmaaDoorW.PrintMore Go.Proofs.YtlmmgienbmghmaaDoor.GivU Go.Proofs.YtlmmgienbmghmaaDoor.J
/-- One step: the buffer behind it, what was found, the next step (none: an error). -/
def stepF (t : ByteArray) (m : Nat) : Step → Bf → Option (Bf × List Item × Option Step)
  | .stop, _ => none
  | .sec, b => some ((secF t b).1, [], some (secF t b).2)
  | .name, b => match rbN 93 t.data.toList m b with
    | none => none
    | some (b', e) => some (b', [], if e = true then none else some (.suf (secName t.data.toList b b')))
  | .ign s, b => match ignN t.data.toList m m b with
    | none => none
    | some b' => some (b', [], some s)
  | .suf s, b => match rbN 10 t.data.toList m b with
    | none => none
    | some (b', e) => some (b', sufIts t b b' s, sufStep t b b' s)
  | .soo s, b => some ((sooF t b s).1, [], some (sooF t b s).2)
  | .optn s, b => match optN t m b ByteArray.empty with
    | none => none
    | some (b', en, nm) => some (b', [], optnStep s en nm)
  | .optv s n d, b => match rbN 10 t.data.toList m b with
    | none => none
    | some (b', e) => some (b', (optvR (lineOf t.data.toList b b') e s n d).1, some (optvR (lineOf t.data.toList b b') e s n d).2)
/-- How long a value in the making is. -/
def stepSz : Step → Nat
  | .optv _ _ d => d.size
  | .ign s => stepSz s
  | _ => 0
/-- A line feed or a carriage return is among them. -/
def hasNL (l : List UInt8) : Bool := l.any fun c => c == 10 || c == 13
/-- Too long a line. -/
def tooLong (t : ByteArray) (b : Bf) : Bool := decide (2048 ≤ b.w - b.r) && !hasNL ((t.data.toList.drop b.r).take 2048)
def Step.isStop : Step → Bool
  | .stop => true
  | _ => false
/-- The lexer: what it found, and whether without an error. -/
def lexF (t : ByteArray) (m : Nat) : Nat → Bf → Step → List Item → Option (List Item × Bool)
  | 0, _, _, _ => none
  | n + 1, b, s, acc => if s.isStop = true then some (acc, true) else if tooLong t b = true then some (acc, false) else match stepF t m s b with
    | none => none
    | some (b', its, none) => some (acc ++ its, false)
    | some (b', its, some s') => lexF t m n b' s' (acc ++ its)
theorem nl_l0 (l : List UInt8) (hmax : l.length ≤ 1000000) : ∀ (k i : Nat), i ≤ l.length → l.length - i < k → unit_zzNewline.l0 k (l.map fun b => (b.toNat : Int)) ((l.map fun b => (b.toNat : Int)).length : Int) (i : Int) = some (hasNL (l.drop i))
  | 0, i, _, h => absurd h (Nat.not_lt_zero _)
  | k + 1, i, hi, hk => by
    rw [unit_zzNewline.l0]
    rw [List.length_map]
    by_cases c : i < l.length
    · rw [if_pos (by omega), if_pos (by omega), if_pos (by omega)]
      have hr : rd (l.map fun b => (b.toNat : Int)) (i : Int) = ((l[i]'c).toNat : Int) := by
        unfold rd
        rw [Int.toNat_natCast, List.getD_eq_getElem?_getD, List.getElem?_map, List.getElem?_eq_getElem c]
        rfl
      rw [hr]
      have hd : l.drop i = l[i]'c :: l.drop (i + 1) := List.drop_eq_getElem_cons c
      rw [hd]
      show _ = some ((((l[i]'c) == 10) || ((l[i]'c) == 13)) || hasNL (l.drop (i + 1)))
      by_cases h10 : l[i]'c = 10
      · rw [if_pos (by rw [h10]; rfl), h10]; rfl
      · rw [if_neg (show ¬ (((l[i]'c).toNat : Nat) : Int) = 10 from fun he => h10 (UInt8.toNat_inj.1 (show (l[i]'c).toNat = 10 by omega))), beq_eq_false_iff_ne.2 h10]
        by_cases h13 : l[i]'c = 13
        · rw [if_pos (by rw [h13]; rfl), h13]; rfl
        · rw [if_neg (show ¬ (((l[i]'c).toNat : Nat) : Int) = 13 from fun he => h13 (UInt8.toNat_inj.1 (show (l[i]'c).toNat = 13 by omega))), beq_eq_false_iff_ne.2 h13]
          have hw : wrap64 ((i : Int) + 1) = ((i + 1 : Nat) : Int) := by rw [← i64_w, IntKind.wrap_i64]; omega
          rw [hw]
          have ih := nl_l0 l hmax k (i + 1) c (by omega)
          rw [List.length_map] at ih
          rw [ih]
          rfl
    · rw [if_neg (by omega)]
      have hd : l.drop i = [] := List.drop_eq_nil_of_le (by omega)
      rw [hd]
      rfl
theorem nl_f (l : List UInt8) (hmax : l.length ≤ 1000000) : unit_zzNewline.f (l.length + 1) (l.map fun b => (b.toNat : Int)) = some (hasNL l) := by
  unfold unit_zzNewline.f
  have := nl_l0 l hmax (l.length + 1) 0 (Nat.zero_le _) (by omega)
  rw [List.drop_zero] at this
  exact this
theorem isNL_is (W : World) (v : Value) (l : List UInt8) (h : IsBytes W v l) (hl : l.length ≤ 1000000) : Calls Tryd.prog 45 #[v] W fun e W' => e = .returned (.bool (hasNL l)) ∧ Below W.heap.size W W' := by
  obtain ⟨A, c, rfl, hc, hC⟩ := h
  have hz : (l.map fun b => (b.toNat : Int)).length = l.length := List.length_map ..
  have := unit_zzNewline.calls (l.length + 1) A c (l.map fun b => (b.toNat : Int)) (hasNL l) W (by rw [hz]; exact hC) (by rw [hz]; exact hc) (nl_f l hl)
  rw [hz] at this
  refine this.mono ?_
  rintro e W' ⟨rfl, hd⟩
  exact ⟨rfl, hd.below⟩
/-- A step by its value. -/
theorem step_is (w0 W : World) (p g : Nat) (t : ByteArray) (m : Nat) (b b' : Bf) (s : Step) (v : Value) (its : List Item) (o : Option Step) (dv : Value) (cels : List Cel) (h : LexAt w0 W p g t b dv .nilIface cels) (ht : t.size ≤ 100000) (hT : UTabs w0) (hm : m ≤ 1000000) (hcl : cels.length ≤ 1000000) (hsz : stepSz s ≤ 1000000000000)
    (hv : StepAt W p s v) (hk : stepF t m s b = some (b', its, o)) :
    ∃ K f1 f2, v = .func (.func K) f1 f2 ∧ (∀ args w, (callFunc K args).run Tryd.prog w = .ok (.enter K args) w) ∧ Calls Tryd.prog K (f1 ++ f2) W fun e' W' => StepPost w0 p g t cels b' its o e' W' := by
  cases s with
  | stop => cases hk
  | sec =>
    obtain rfl : v = _ := hv
    simp only [stepF, Option.some.injEq, Prod.mk.injEq] at hk
    obtain ⟨rfl, rfl, rfl⟩ := hk
    exact ⟨_, _, _, rfl, enters_of Tryd.func42 (by kernel_rfl) rfl, sec_is w0 W p g t b dv cels h ht hT⟩
  | name =>
    obtain rfl : v = _ := hv
    rw [stepF] at hk
    split at hk
    · cases hk
    · rename_i b1 e he
      simp only [Option.some.injEq, Prod.mk.injEq] at hk
      obtain ⟨rfl, rfl, rfl⟩ := hk
      exact ⟨_, _, _, rfl, enters_of Tryd.func55 (by kernel_rfl) rfl, name_is w0 W p g t b _ e m dv cels h ht he⟩
  | ign s =>
    obtain ⟨q0, q1, fn, f1, f2, rfl, h0, h1, hs⟩ := hv
    rw [stepF] at hk
    split at hk
    · cases hk
    · rename_i b1 he
      simp only [Option.some.injEq, Prod.mk.injEq] at hk
      obtain ⟨rfl, rfl, rfl⟩ := hk
      exact ⟨_, _, _, rfl, enters_of Tryd.func67 (by kernel_rfl) rfl, ign_is w0 W p g t b _ m m s q0 q1 fn f1 f2 dv cels h ht h0 h1 hs he⟩
  | suf s =>
    obtain ⟨q0, q1, rfl, h0, h1⟩ := hv
    rw [stepF] at hk
    split at hk
    · cases hk
    · rename_i b1 e he
      simp only [Option.some.injEq, Prod.mk.injEq] at hk
      obtain ⟨rfl, rfl, rfl⟩ := hk
      exact ⟨_, _, _, rfl, enters_of Tryd.func73 (by kernel_rfl) rfl, suf_is w0 W p g s t b _ e m q0 q1 dv cels h ht hT hcl h0 h1 he⟩
  | soo s =>
    obtain ⟨q0, q1, rfl, h0, h1⟩ := hv
    simp only [stepF, Option.some.injEq, Prod.mk.injEq] at hk
    obtain ⟨rfl, rfl, rfl⟩ := hk
    exact ⟨_, _, _, rfl, enters_of Tryd.func80 (by kernel_rfl) rfl, soo_is w0 W p g s t b q0 q1 dv cels h ht hT h0 h1⟩
  | optn s =>
    obtain ⟨q0, q1, rfl, h0, h1⟩ := hv
    rw [stepF] at hk
    split at hk
    · cases hk
    · rename_i b1 en nm he
      simp only [Option.some.injEq, Prod.mk.injEq] at hk
      obtain ⟨rfl, rfl, rfl⟩ := hk
      exact ⟨_, _, _, rfl, enters_of Tryd.func91 (by kernel_rfl) rfl, optn_is w0 W p g s t b _ m en nm q0 q1 dv cels h ht hT hm h0 h1 he⟩
  | optv s n d =>
    obtain ⟨q0, q1, q2, q3, hp, n2, n3, rfl, h0, h1, h2, h3⟩ := hv
    rw [stepF] at hk
    split at hk
    · cases hk
    · rename_i b1 e he
      simp only [Option.some.injEq, Prod.mk.injEq] at hk
      obtain ⟨rfl, rfl, rfl⟩ := hk
      exact ⟨_, _, _, rfl, enters_of Tryd.func106 (by kernel_rfl) rfl, optv_is w0 W p g s n d t b _ e m q0 q1 q2 q3 dv cels h ht hT hcl hsz hp n2 n3 h0 h1 h2 h3 he⟩
end Go.Proofs.YtlmmgienbmghmaaDoor.Lex

/- The lexer of unit files: lex. -/
set_option linter.unusedVariables false
set_option linter.unusedSimpArgs false
namespace Go.Proofs.YtlmmgienbmghmaaDoor.Lex
open Go.RowKit Go.Proofs.YtlmmgienbmghmaaDoorW.PrintWords Go.Proofs.YtlmmgienbmghmaaDoorW.PrintLast Go.Proofs.YtlmmgienbmghmaaDoorW.PrintMore Go.Proofs.YtlmmgienbmghmaaDoor.GivU Go.Proofs.YtlmmgienbmghmaaDoor.J
theorem stepF_sz {t : ByteArray} {m : Nat} {s s' : Step} {b b' : Bf} {its : List Item} (ht : t.size ≤ 100000) (h : stepF t m s b = some (b', its, some s')) : stepSz s' ≤ stepSz s + 100001 ∧ its.length ≤ 1 := by
  cases s with
  | stop => cases h
  | sec =>
    simp only [stepF, Option.some.injEq, Prod.mk.injEq] at h
    obtain ⟨-, rfl, rfl⟩ := h
    refine ⟨?_, Nat.zero_le _⟩
    unfold secF
    simp only []
    repeat' split
    all_goals exact Nat.zero_le _
  | name =>
    rw [stepF] at h
    split at h
    · cases h
    · rename_i b1 e he
      simp only [Option.some.injEq, Prod.mk.injEq] at h
      obtain ⟨-, rfl, h⟩ := h
      split at h
      · cases h
      · obtain rfl := Option.some.inj h
        exact ⟨Nat.zero_le _, Nat.zero_le _⟩
  | ign s =>
    rw [stepF] at h
    split at h
    · cases h
    · simp only [Option.some.injEq, Prod.mk.injEq] at h
      obtain ⟨-, rfl, rfl⟩ := h
      exact ⟨Nat.le_add_right _ _, Nat.zero_le _⟩
  | suf s =>
    rw [stepF] at h
    split at h
    · cases h
    · rename_i b1 e he
      simp only [Option.some.injEq, Prod.mk.injEq] at h
      obtain ⟨-, rfl, h⟩ := h
      unfold sufStep at h
      unfold sufIts
      split at h
      · obtain rfl := Option.some.inj h
        refine ⟨Nat.zero_le _, ?_⟩
        split <;> simp
      · cases h
  | soo s =>
    simp only [stepF, Option.some.injEq, Prod.mk.injEq] at h
    obtain ⟨-, rfl, rfl⟩ := h
    refine ⟨?_, Nat.zero_le _⟩
    unfold sooF
    repeat' split
    all_goals exact Nat.zero_le _
  | optn s =>
    rw [stepF] at h
    split at h
    · cases h
    · rename_i b1 en nm he
      simp only [Option.some.injEq, Prod.mk.injEq] at h
      obtain ⟨-, rfl, h⟩ := h
      unfold optnStep at h
      split at h
      · obtain rfl := Option.some.inj h
        exact ⟨Nat.zero_le _, Nat.zero_le _⟩
      · cases h
  | optv s n d =>
    rw [stepF] at h
    split at h
    · cases h
    · rename_i b1 e he
      simp only [Option.some.injEq, Prod.mk.injEq] at h
      obtain ⟨-, rfl, rfl⟩ := h
      have hl := lineOf_le t b b1
      generalize lineOf t.data.toList b b1 = line at hl ⊢
      have hls : (⟨line.toArray⟩ : ByteArray).size = line.length := rfl
      have h1 : (⟨#[10]⟩ : ByteArray).size = 1 := rfl
      unfold optvR
      split
      · exact ⟨Nat.zero_le _, Nat.le_refl _⟩
      · split
        · refine ⟨?_, Nat.zero_le _⟩
          show (if e = true then d ++ ⟨line.toArray⟩ else d ++ ⟨line.toArray⟩ ++ ⟨#[10]⟩ : ByteArray).size ≤ d.size + 100001
          split
          · rw [ByteArray.size_append, hls]; omega
          · rw [ByteArray.size_append, ByteArray.size_append, hls, h1]; omega
        · exact ⟨Nat.zero_le _, Nat.le_refl _⟩
theorem stepF_its {t : ByteArray} {m : Nat} {s : Step} {b b' : Bf} {its : List Item} (h : stepF t m s b = some (b', its, none)) : its.length = 0 := by
  cases s with
  | stop => cases h
  | sec => simp only [stepF, Option.some.injEq, Prod.mk.injEq] at h; cases h.2.2
  | name =>
    rw [stepF] at h
    split at h
    · cases h
    · simp only [Option.some.injEq, Prod.mk.injEq] at h; rw [← h.2.1]; rfl
  | ign s =>
    rw [stepF] at h
    split at h
    · cases h
    · simp only [Option.some.injEq, Prod.mk.injEq] at h; cases h.2.2
  | suf s =>
    rw [stepF] at h
    split at h
    · cases h
    · simp only [Option.some.injEq, Prod.mk.injEq] at h
      obtain ⟨-, rfl, h⟩ := h
      unfold sufStep at h
      unfold sufIts
      split at h
      · cases h
      · rename_i hz; rw [if_neg hz]; rfl
  | soo s => simp only [stepF, Option.some.injEq, Prod.mk.injEq] at h; cases h.2.2
  | optn s =>
    rw [stepF] at h
    split at h
    · cases h
    · simp only [Option.some.injEq, Prod.mk.injEq] at h; rw [← h.2.1]; rfl
  | optv s n d =>
    rw [stepF] at h
    split at h
    · cases h
    · simp only [Option.some.injEq, Prod.mk.injEq] at h; cases h.2.2
set_option maxHeartbeats 4000000 in
set_option maxRecDepth 100000 in
theorem tooLongErr_is (W : World) : Calls Tryd.prog 46 #[] W fun e W' => ∃ q, e = .returned (.iface 97 q) ∧ Below W.heap.size W W' := by
  go_enter Tryd.func46, Tryd.ntmps46
  go_wp2_with fail
  refine (errors_New_is _ W).mono ?_
  rintro e1 W1 ⟨rfl, hb⟩
  go_wp2_with fail
  go_ret
  exact ⟨_, rfl, hb⟩
theorem LexAt.setErr {w0 W : World} {p g : Nat} {t : ByteArray} {b : Bf} {dv ev : Value} {cels : List Cel} (h : LexAt w0 W p g t b dv ev cels) (u : Value) : LexAt w0 (W.setCell ⟨p, 2, none⟩ u) p g t b dv u cels where
  base := below_set h.base h.hp
  hg := h.hg
  hp := h.hp
  buf := (Below.heap_setCell W ⟨p, 2, none⟩ u g (Ne.symm h.pg)).trans (show W.heap[g]? = _ from h.buf)
  ok := h.ok
  h4 := h.h4
  lex := h.lex.set2 u
  data := Kd.R_mono (Kd.R_far (Kd.R_types h.data h.lex (by decide)) (fun k hk => hk.2) u) (fun _ _ => trivial)
  secs := Secs.frame (fun k cs T hk hT => (Below.heap_setCell W ⟨p, 2, none⟩ u k (ne_type hk h.lex (by rcases hT with rfl | rfl <;> decide))).trans hk) _ _ h.secs
theorem run_equalIn_func_nil {P : Program} (w : World) (d : Nat) (t : TypeId) (a b : Array TypeId) (c : Bool) (fn : Fn) (x y : Array Value) (h : P.underlying t = some (.func a b c)) : (Op.equalIn (d + 1) t (.func fn x y) .nilFunc).run P w = .ok false w := by
  simp [Op.equalIn, run_underlying h]
theorem run_equalIn_nil_nil {P : Program} (w : World) (d : Nat) (t : TypeId) (a b : Array TypeId) (c : Bool) (h : P.underlying t = some (.func a b c)) : (Op.equalIn (d + 1) t .nilFunc .nilFunc).run P w = .ok true w := by
  simp [Op.equalIn, run_underlying h]
theorem run_neq_func {P : Program} (w : World) (t : TypeId) (a b : Array TypeId) (c : Bool) (fn : Fn) (x y : Array Value) (h : P.underlying t = some (.func a b c)) : (binOp .neq t (.func fn x y) .nilFunc).run P w = .ok (.bool true) w := by
  simp only [binOp]
  simp [Op.equal, Op.maxDepth, run_equalIn_func_nil w 9999 t a b c fn x y h]
theorem run_neq_func_nil {P : Program} (w : World) (t : TypeId) (a b : Array TypeId) (c : Bool) (h : P.underlying t = some (.func a b c)) : (binOp .neq t .nilFunc .nilFunc).run P w = .ok (.bool false) w := by
  simp only [binOp]
  simp [Op.equal, Op.maxDepth, run_equalIn_nil_nil w 9999 t a b c h]
theorem StepAt.func {W : World} {p : Nat} {s : Step} {v : Value} (h : StepAt W p s v) (hs : s.isStop = false) : ∃ fn f1 f2, v = .func fn f1 f2 := by
  cases s with
  | stop => cases hs
  | sec => exact ⟨_, _, _, h⟩
  | name => exact ⟨_, _, _, h⟩
  | ign s => obtain ⟨q0, q1, fn, f1, f2, rfl, -⟩ := h; exact ⟨_, _, _, rfl⟩
  | suf s => obtain ⟨q0, q1, rfl, -⟩ := h; exact ⟨_, _, _, rfl⟩
  | soo s => obtain ⟨q0, q1, rfl, -⟩ := h; exact ⟨_, _, _, rfl⟩
  | optn s => obtain ⟨q0, q1, rfl, -⟩ := h; exact ⟨_, _, _, rfl⟩
  | optv s n d => obtain ⟨q0, q1, q2, q3, _, _, _, rfl, -⟩ := h; exact ⟨_, _, _, rfl⟩
/-- What the lexer leaves. -/
def LexEnd (w0 W' : World) (p g : Nat) (t : ByteArray) (its : List Item) (okb : Bool) : Prop :=
  ∃ b' dv ev cels, LexAt w0 W' p g t b' dv ev cels ∧ cels.map Cel.item = its ∧ cels.length ≤ 1000000 ∧ ((okb = true ∧ ev = .nilIface) ∨ (okb = false ∧ ∃ T q, ev = .iface T q))
theorem tooLong_iff (t : ByteArray) (b : Bf) : tooLong t b = true ↔ 2048 ≤ b.w - b.r ∧ hasNL ((t.data.toList.drop b.r).take 2048) = false := by
  unfold tooLong
  simp
set_option maxHeartbeats 8000000 in
set_option maxRecDepth 100000 in
theorem lex_is (w0 W : World) (p g : Nat) (t : ByteArray) (m n : Nat) (b : Bf) (dv : Value) (its : List Item) (okb : Bool) (h : LexAt w0 W p g t b dv .nilIface []) (ht : t.size ≤ 100000) (hT : UTabs w0) (hm : m ≤ 1000000) (hn : n ≤ 500000)
    (hk : lexF t m n b .sec [] = some (its, okb)) :
    Calls Tryd.prog 37 #[.pointer (some ⟨p, 0, none⟩)] W fun e' W' => e' = .returned (.tuple #[]) ∧ LexEnd w0 W' p g t its okb := by
  have hu := Tryd.underlying89
  have hneq := fun (fn : Fn) (x y : Array Value) (w : World) => run_neq_func (P := Tryd.prog) w 89 _ _ _ fn x y hu
  have hneq0 := fun (w : World) => run_neq_func_nil (P := Tryd.prog) w 89 _ _ _ hu
  have H := Lib.hid h
  have HK := Lib.hid hk
  clear h hk hu
  go_enter Tryd.func37, Tryd.ntmps37
  go_wp2
  go_loopg [2] n (fun kq v2 w' => ∃ (b1 : Bf) (s1 : Step) (acc : List Item) (dv1 : Value) (cels1 : List Cel), Hid (StepAt w' p s1 v2) ∧ Hid (LexAt w0 w' p g t b1 dv1 .nilIface cels1) ∧ Hid (cels1.map Cel.item = acc) ∧ Hid (lexF t m kq b1 s1 acc = some (its, okb)) ∧ Hid (cels1.length + kq ≤ n) ∧ Hid (stepSz s1 + 200000 * kq ≤ 200000 * n))
  case atStart => exact ⟨b, .sec, [], dv, [], Lib.hid rfl, H, Lib.hid rfl, HK, Lib.hid (by show 0 + n ≤ n; omega), Lib.hid (by show 0 + 200000 * n ≤ _; omega)⟩
  case round =>
    obtain ⟨b1, s1, acc, dv1, cels1, hst, hlx, hacc, hlf, hcn, hsz⟩ := hrel
    obtain ⟨kk, rfl⟩ : ∃ kk, gk = kk + 1 := by
      cases gk with
      | zero => have := hlf.out; cases this
      | succ kk => exact ⟨kk, rfl⟩
    have hlf2 := hlf.out
    rw [lexF] at hlf2
    cases hs1 : s1.isStop with
    | true =>
      have hstop : s1 = .stop := by
        cases s1 with
        | stop => rfl
        | _ => cases hs1
      subst hstop
      rw [if_pos (show Step.stop.isStop = true from rfl)] at hlf2
      obtain ⟨rfl, rfl⟩ := Prod.mk.inj (Option.some.inj hlf2)
      have hv2 : u2 = Value.nilFunc := hst.out
      subst hv2
      clear hlf2 hs1 hst
      go_wp2_with fail
      go_end0
      exact ⟨rfl, _, _, _, _, hlx.out, hacc.out, by have := hcn.out; omega, .inl ⟨rfl, rfl⟩⟩
    | false =>
      rw [if_neg (by rw [hs1]; decide)] at hlf2
      obtain ⟨fn, f1, f2, rfl⟩ := hst.out.func hs1
      have HLF := Lib.hid hlf2
      clear hlf2 hs1 hlf
      have x0 : wr.cell? (⟨p, 0, none⟩ : Addr) = some (.pointer (some ⟨g, 0, none⟩)) := hlx.out.lex.c0
      have HBUF := Lib.hid (buffered_is g t b1 wr hlx.out.buf hlx.out.ok ht)
      go_wp2_with fail
      refine HBUF.out.mono ?_
      clear HBUF x0
      rintro e2 W2 ⟨rfl, nd, hW2⟩
      have hb2 : Below wr.heap.size wr W2 := by rw [hW2]; exact pw_below_drewN (Below.refl _ _) nd
      have HL := Lib.hid (hlx.out.below hb2)
      have HST := Lib.hid (hst.out.below hb2)
      clear hb2 hW2 hlx hst
      by_cases cb : 2048 ≤ b1.w - b1.r
      · have cb1 : decide ((2048 : Int) ≤ ((b1.w - b1.r : Nat) : Int)) = true := decide_eq_true (by omega)
        have cb2 : (2048 : Int) ≤ ((b1.w - b1.r : Nat) : Int) := by omega
        have cb3 : decide (2048 ≤ b1.w - b1.r) = true := decide_eq_true cb
        have x0 : W2.cell? (⟨p, 0, none⟩ : Addr) = some (.pointer (some ⟨g, 0, none⟩)) := HL.out.lex.c0
        have HPK := Lib.hid (peek_is g t b1 W2 HL.out.buf HL.out.ok ht cb)
        obtain ⟨nl, hnl⟩ : ∃ nl, hasNL ((t.data.toList.drop b1.r).take 2048) = nl := ⟨_, rfl⟩
        have HNL := Lib.hid hnl
        have CB := Lib.hid cb
        clear hnl cb
        go_wp2_with fail
        refine HPK.out.mono ?_
        clear HPK x0
        rintro e3 W3 ⟨v3, rfl, hI3, hb3⟩
        have HL := Lib.hid (HL.out.below hb3)
        have HST := Lib.hid (HST.out.below hb3)
        have HI3 := Lib.hid hI3
        clear hI3 hb3
        go_wp2_with fail
        refine (isNL_is W3 v3 _ HI3.out (by rw [List.length_take]; omega)).mono ?_
        rw [HNL.out]
        rintro e4 W4 ⟨rfl, hb4⟩
        have HL := Lib.hid (HL.out.below hb4)
        have HST := Lib.hid (HST.out.below hb4)
        clear hb4 HI3
        cases nl with
        | false =>
          have hlf4 := HLF.out
          rw [if_pos ((tooLong_iff t b1).2 ⟨CB.out, HNL.out⟩)] at hlf4
          obtain ⟨rfl, rfl⟩ := Prod.mk.inj (Option.some.inj hlf4)
          clear hlf4 HLF HST
          go_wp2_with fail
          refine (tooLongErr_is W4).mono ?_
          rintro e5 W5 ⟨q5, rfl, hb5⟩
          have HL := Lib.hid (HL.out.below hb5)
          clear hb5
          have z5 := HL.out.lex.c2
          have f5 := HL.out.lex.fz 2
          go_wp2_with fail
          refine bodyPost_ret (results_none rfl _ _ _) rfl ?_
          exact ⟨rfl, _, _, _, _, HL.out.setErr _, hacc.out, by have := hcn.out; omega, .inr ⟨rfl, _, _, rfl⟩⟩
        | true =>
          have HTL := Lib.hid (show tooLong t b1 = false by cases h : tooLong t b1 with | false => rfl | true => have := ((tooLong_iff t b1).1 h).2; rw [HNL.out] at this; cases this)
          clear HNL CB cb1 cb2 cb3
          have hlf4 := HLF.out
          rw [if_neg (by rw [HTL.out]; decide)] at hlf4
          cases hsf : stepF t m s1 b1 with
          | none => rw [hsf] at hlf4; cases hlf4
          | some r =>
            obtain ⟨b2, its2, o2⟩ := r
            rw [hsf] at hlf4
            obtain ⟨K, g1, g2, hfe, hen, hcall⟩ := step_is w0 W4 p g t m b1 b2 s1 (.func fn f1 f2) its2 o2 dv1 cels1 HL.out ht hT hm (by have := hcn.out; omega) (by have h1 := hsz.out; have h2 := hn; omega) HST.out hsf
            obtain ⟨rfl, rfl, rfl⟩ := Value.func.inj hfe
            have HCALL := Lib.hid hcall
            have HSF := Lib.hid hsf
            have HLF4 := Lib.hid hlf4
            clear hcall hsf hlf4 HLF
            go_wp2_with fail
            refine HCALL.out.mono ?_
            clear HCALL
            rintro e5 W5 hpost
            cases o2 with
            | none =>
              obtain ⟨⟨dv5, cels5, hits, hL5⟩, T5, q5, rfl⟩ := hpost
              have HL5 := Lib.hid hL5
              have z5 := Lib.hid hL5.lex.c2
              have f5 := Lib.hid (hL5.lex.fz 2)
              obtain ⟨rfl, rfl⟩ := Prod.mk.inj (Option.some.inj HLF4.out)
              have HITS := Lib.hid hits
              clear hits hL5 hen HLF4
              have z5 := z5.out
              have f5 := f5.out
              go_wp2_with fail
              refine bodyPost_ret (results_none rfl _ _ _) rfl ?_
              have hlen5 := congrArg List.length HITS.out
              have hce := hacc.out
              refine ⟨rfl, _, _, _, _, HL5.out.setErr _, by rw [List.map_append, hce, HITS.out], ?_, .inr ⟨rfl, _, _, rfl⟩⟩
              have h1 := hcn.out
              have h2 := stepF_its HSF.out
              rw [List.length_map] at hlen5
              rw [List.length_append]
              omega
            | some s5 =>
              obtain ⟨⟨dv5, cels5, hits, hL5⟩, v5, rfl, hst5⟩ := hpost
              have HL5 := Lib.hid hL5
              have HST5 := Lib.hid hst5
              have HITS := Lib.hid hits
              have hz5 := stepF_sz ht HSF.out
              have hlen5 := congrArg List.length hits
              rw [List.length_map] at hlen5
              have HN := Lib.hid (show (cels1 ++ cels5).length + kk ≤ n by have h1 := hcn.out; rw [List.length_append]; omega)
              have HS := Lib.hid (show stepSz s5 + 200000 * kk ≤ 200000 * n by have h1 := hsz.out; omega)
              clear hits hL5 hen hst5 hz5 hlen5
              go_wp2_with fail
              go_roundg kk
              case measure => omega
              case rel => exact ⟨b2, s5, acc ++ its2, dv5, cels1 ++ cels5, HST5, HL5, Lib.hid (by rw [List.map_append, hacc.out, HITS.out]), HLF4, HN, HS⟩
      · have cb1 : decide ((2048 : Int) ≤ ((b1.w - b1.r : Nat) : Int)) = false := decide_eq_false (by omega)
        have cb2 : ¬ (2048 : Int) ≤ ((b1.w - b1.r : Nat) : Int) := by omega
        have cb3 : decide (2048 ≤ b1.w - b1.r) = false := decide_eq_false cb
        have HTL := Lib.hid (show tooLong t b1 = false by cases h : tooLong t b1 with | false => rfl | true => exact absurd ((tooLong_iff t b1).1 h).1 cb)
        clear cb
        have hlf4 := HLF.out
        rw [if_neg (by rw [HTL.out]; decide)] at hlf4
        cases hsf : stepF t m s1 b1 with
        | none => rw [hsf] at hlf4; cases hlf4
        | some r =>
          obtain ⟨b2, its2, o2⟩ := r
          rw [hsf] at hlf4
          obtain ⟨K, g1, g2, hfe, hen, hcall⟩ := step_is w0 W2 p g t m b1 b2 s1 (.func fn f1 f2) its2 o2 dv1 cels1 HL.out ht hT hm (by have := hcn.out; omega) (by have h1 := hsz.out; have h2 := hn; omega) HST.out hsf
          obtain ⟨rfl, rfl, rfl⟩ := Value.func.inj hfe
          have HCALL := Lib.hid hcall
          have HSF := Lib.hid hsf
          have HLF4 := Lib.hid hlf4
          clear hcall hsf hlf4 HLF
          go_wp2_with fail
          refine HCALL.out.mono ?_
          clear HCALL
          rintro e5 W5 hpost
          cases o2 with
          | none =>
            obtain ⟨⟨dv5, cels5, hits, hL5⟩, T5, q5, rfl⟩ := hpost
            have HL5 := Lib.hid hL5
            have z5 := Lib.hid hL5.lex.c2
            have f5 := Lib.hid (hL5.lex.fz 2)
            obtain ⟨rfl, rfl⟩ := Prod.mk.inj (Option.some.inj HLF4.out)
            have HITS := Lib.hid hits
            clear hits hL5 hen HLF4
            have z5 := z5.out
            have f5 := f5.out
            go_wp2_with fail
            refine bodyPost_ret (results_none rfl _ _ _) rfl ?_
            have hlen5 := congrArg List.length HITS.out
            have hce := hacc.out
            refine ⟨rfl, _, _, _, _, HL5.out.setErr _, by rw [List.map_append, hce, HITS.out], ?_, .inr ⟨rfl, _, _, rfl⟩⟩
            have h1 := hcn.out
            have h2 := stepF_its HSF.out
            rw [List.length_map] at hlen5
            rw [List.length_append]
            omega
          | some s5 =>
            obtain ⟨⟨dv5, cels5, hits, hL5⟩, v5, rfl, hst5⟩ := hpost
            have HL5 := Lib.hid hL5
            have HST5 := Lib.hid hst5
            have HITS := Lib.hid hits
            have hz5 := stepF_sz ht HSF.out
            have hlen5 := congrArg List.length hits
            rw [List.length_map] at hlen5
            have HN := Lib.hid (show (cels1 ++ cels5).length + kk ≤ n by have h1 := hcn.out; rw [List.length_append]; omega)
            have HS := Lib.hid (show stepSz s5 + 200000 * kk ≤ 200000 * n by have h1 := hsz.out; omega)
            clear hits hL5 hen hst5 hz5 hlen5
            go_wp2_with fail
            go_roundg kk
            case measure => omega
            case rel => exact ⟨b2, s5, acc ++ its2, dv5, cels1 ++ cels5, HST5, HL5, Lib.hid (by rw [List.map_append, hacc.out, HITS.out]), HLF4, HN, HS⟩
end Go.Proofs.YtlmmgienbmghmaaDoor.Lex
