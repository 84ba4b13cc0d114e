/- What the printed escape computes, as a plain function on lists of bytes: every text of at most 20,000,000 bytes. -/
import Derived.Test.YtlmmgienbmghmaaDoorB3
import Derived.Test.YtlmmgienbmghmaaDoorPl
set_option linter.unusedVariables false
set_option linter.unusedSimpArgs false
namespace Go.Proofs.YtlmmgienbmghmaaDoor.Esc
open Go.RowKit Go.Proofs.YtlmmgienbmghmaaDoor.B Go.Proofs.YtlmmgienbmghmaaDoor.GivIdx Go.Proofs.YtlmmgienbmghmaaDoorW.PrintWords Go.Proofs.YtlmmgienbmghmaaDoorW.PrintLast Go.Proofs.YtlmmgienbmghmaaDoorPl

def zz (c : Int) : ByteArray := (unit_zzHex.f c).getD ⟨#[]⟩
theorem zz_fin : ∀ n : Fin 256, (unit_zzHex.f (n.val : Int)).isSome = true ∧ ((unit_zzHex.f (n.val : Int)).getD ⟨#[]⟩).size ≤ 4 := by decide +kernel
theorem zz_is (c : Int) (h0 : 0 ≤ c) (h1 : c ≤ 255) : unit_zzHex.f c = some (zz c) ∧ (zz c).size ≤ 4 := by
  have h := zz_fin ⟨c.toNat, by omega⟩
  have e : ((c.toNat : Nat) : Int) = c := by omega
  simp only [e] at h
  refine ⟨?_, h.2⟩
  unfold zz
  cases hx : unit_zzHex.f c with
  | none => rw [hx] at h; simp at h
  | some r => rfl

def okSigns : ByteArray := ⟨#[58, 95, 46, 97, 98, 99, 100, 101, 102, 103, 104, 105, 106, 107, 108, 109, 110, 111, 112, 113, 114, 115, 116, 117, 118, 119, 120, 121, 122, 65, 66, 67, 68, 69, 70, 71, 72, 73, 74, 75, 76, 77, 78, 79, 80, 81, 82, 83, 84, 85, 86, 87, 88, 89, 90, 48, 49, 50, 51, 52, 53, 54, 55, 56, 57]⟩
def kept (c : Int) : Bool := !decide (Lib.indexByte okSigns.data.toList c.toNat.toUInt8 = -1)
/-- One byte, escaped. -/
def one (start : Bool) (c : Int) : List Int := if c = 47 then [45] else if (start && decide (c = 46)) = true then bytesOf (zz c) else if kept c = true then [c] else bytesOf (zz c)
def all : Bool → List Int → List Int
  | _, [] => []
  | s, c :: cs => one s c ++ all false cs
theorem one_len (s : Bool) (c : Int) (h0 : 0 ≤ c) (h1 : c ≤ 255) : (one s c).length ≤ 4 := by
  unfold one
  have := (zz_is c h0 h1).2
  split
  · simp
  · split
    · rw [bytesOf_length]; exact this
    · split
      · simp
      · rw [bytesOf_length]; exact this
theorem one_ne (s : Bool) (c : Int) (h : c ≠ 46) : one s c = one false c := by
  unfold one
  simp [h]

/-- The join of one byte, outside the slashes: it goes on behind its escape. -/
theorem j1_is (s : ByteArray) (p : Bool) (e : List Int) (sl start : Bool) (i : Int) (c : Int) (k : Nat) (h0 : 0 ≤ c) (h1 : c ≤ 255) (hl : e.length + 4 < 140737488355328) :
    unit_escape.j1 (k + 1) s p e sl start i c = unit_escape.l0 k s p (e ++ one start c) sl false (wrap64 (i + 1)) := by
  obtain ⟨hz, hz4⟩ := zz_is c h0 h1
  simp only [unit_escape.j1, strings_IndexByte.f, Option.bind_some]
  have hzb : (unit_zzHex.f c).bind (fun t => if e.length + t.size < 140737488355328 then unit_escape.l0 k s p (e ++ bytesOf t) sl false (wrap64 (i + 1)) else none) = unit_escape.l0 k s p (e ++ bytesOf (zz c)) sl false (wrap64 (i + 1)) := by
    rw [hz, Option.bind_some, if_pos (by omega)]
  by_cases a : c = 47
  · rw [if_pos a, if_pos (by omega)]
    simp [one, a]
  · rw [if_neg a]
    have hk : ∀ x : Int, Lib.indexByte okSigns.data.toList c.toNat.toUInt8 = x → kept c = !decide (x = -1) := by
      rintro x rfl; rfl
    cases start with
    | true =>
      rw [if_pos rfl]
      by_cases b : c = 46
      · rw [if_pos b, hzb]
        simp [one, a, b]
      · rw [if_neg b]
        change (if Lib.indexByte okSigns.data.toList c.toNat.toUInt8 = -1 then _ else _) = _
        by_cases d : Lib.indexByte okSigns.data.toList c.toNat.toUInt8 = -1
        · rw [if_pos d, hzb]
          simp [one, a, b, kept, d]
        · rw [if_neg d, if_pos (by omega)]
          simp [one, a, b, kept, d]
    | false =>
      rw [if_neg (by simp)]
      change (if Lib.indexByte okSigns.data.toList c.toNat.toUInt8 = -1 then _ else _) = _
      by_cases d : Lib.indexByte okSigns.data.toList c.toNat.toUInt8 = -1
      · rw [if_pos d, hzb]
        simp [one, a, kept, d]
      · rw [if_neg d, if_pos (by omega)]
        simp [one, a, kept, d]

/-- A name: from place i on. -/
theorem l0_name (s : ByteArray) (hs : s.size ≤ 20000000) (d : Nat) : ∀ (k : Nat) (i : Int) (e : List Int) (start : Bool), 0 ≤ i → i ≤ s.size → (s.size : Int) - i = d → 2 * d < k → e.length ≤ 4 * i.toNat →
    unit_escape.l0 k s false e false start i = some (strOfNums (e ++ all start ((bytesOf s).drop i.toNat))) := by
  induction d with
  | zero =>
    intro k i e start h0 h1 hd hk he
    obtain ⟨k, rfl⟩ : ∃ m, k = m + 1 := ⟨k - 1, by omega⟩
    simp only [unit_escape.l0]
    rw [if_neg (by omega), if_neg (by simp), List.drop_of_length_le (by rw [bytesOf_length]; omega)]
    simp [all]
  | succ d ih =>
    intro k i e start h0 h1 hd hk he
    obtain ⟨k, rfl⟩ : ∃ m, k = m + 1 + 1 := ⟨k - 2, by omega⟩
    have hr := bt_range s i
    rw [unit_escape.l0, if_pos (by omega), if_pos h0, if_neg (by simp), j1_is s false e false start i (bt s i) k hr.1 hr.2 (by omega), wrap_succ h0 (by omega)]
    have ho := one_len start (bt s i) hr.1 hr.2
    have hN : (i + 1).toNat = i.toNat + 1 := by omega
    rw [ih k (i + 1) (e ++ one start (bt s i)) false (by omega) (by omega) (by omega) (by omega) (by rw [List.length_append, hN]; omega), hN]
    have hb := bytes_drop s i.toNat (by omega)
    rw [show ((i.toNat : Nat) : Int) = i by omega] at hb
    rw [hb, all, List.append_assoc]

theorem name_is (s : ByteArray) (hs : s.size ≤ 20000000) (k : Nat) (hk : 2 * s.size < k) : impl_NameEscape.f k s = some (strOfNums (all true (bytesOf s))) := by
  unfold impl_NameEscape.f unit_UnitNameEscape.f unit_escape.f
  rw [l0_name s hs s.size k 0 [] true (by omega) (by omega) (by omega) hk (by simp)]
  simp

theorem all_append (a b : List Int) : ∀ st, a ≠ [] → all st (a ++ b) = all st a ++ all false b := by
  induction a with
  | nil => intro st h; exact absurd rfl h
  | cons c cs ih =>
    intro st _
    rw [List.cons_append, all, all]
    cases cs with
    | nil => simp [all]
    | cons d ds => rw [ih false (by simp), List.append_assoc]
theorem all_start (b : List Int) (h : ∀ c cs, b = c :: cs → c ≠ 46) : all true b = all false b := by
  cases b with
  | nil => rfl
  | cons c cs => rw [all, all, one_ne true c (h c cs rfl)]
theorem escapes_is : ∃ K, ∀ k, K ≤ k → laws_escapes.f k = some true := by
  refine ⟨7, fun k hk => ?_⟩
  unfold laws_escapes.f
  rw [name_is _ (by decide) k (by change 2 * 3 < k; omega)]
  simp only [Option.bind_some]
  have : ((strOfNums (all true (bytesOf ⟨#[97, 32, 98]⟩))).toList == ([97, 92, 120, 50, 48, 98] : List UInt8)) = true := by rw [Lib.toList_data]; decide +kernel
  rw [this]
end Go.Proofs.YtlmmgienbmghmaaDoor.Esc
