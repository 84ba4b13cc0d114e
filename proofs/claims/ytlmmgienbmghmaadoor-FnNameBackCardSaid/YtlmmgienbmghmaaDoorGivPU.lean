/- internal/strconv.ParseUint as a plain function where base 16 and 8, 32 or 64 bits are asked and the number is good; none elsewhere (nothing is claimed there). -/
import Derived.Test.YtlmmgienbmghmaaDoorGivHex
namespace Go.Proofs.YtlmmgienbmghmaaDoor.GivPU
open Go.RowKit Go.Proofs.YtlmmgienbmghmaaDoorW.PrintWords Go.Proofs.YtlmmgienbmghmaaDoor.GivHex

/-- An error of internal/strconv as a value. -/
def errW : Option Int → Value
  | none => .nilIface
  | some c => .iface 100 (.int .i64 c)
theorem errW_none : errW none = .nilIface := rfl
theorem errW_some (c : Int) : errW (some c) = .iface 100 (.int .i64 c) := rfl
def strconv_ParseUint.f (a0 : ByteArray) (a1 a2 : Int) : Option (Int × Option Int) :=
  if a1 = 16 then if 0 < a0.size ∧ a0.size ≤ 9223372036854775806 then (hexv 0 a0.data.toList).bind fun v =>
    if a2 = 8 then if v ≤ 255 then some ((v : Int), none) else none
    else if a2 = 32 then if v ≤ 4294967295 then some ((v : Int), none) else none
    else if a2 = 64 then if v ≤ 18446744073709551615 then some ((v : Int), none) else none
    else none else none else none
theorem bytesWorld_below (w : World) (e : TypeId) (s : ByteArray) : Below w.heap.size w (Lib.bytesWorld w e s) := by
  refine ⟨?_, ?_, ?_, ?_, fun i hi => Lib.bytesWorld_at_old w e s i hi⟩
  · simp [Lib.bytesWorld, World.freeze, World.alloc, World.drew, -World.alloc_eq, -World.drew_eq]
  · simp [Lib.bytesWorld, World.freeze, World.alloc, World.drew, -World.alloc_eq, -World.drew_eq]
  · simp [Lib.bytesWorld, World.freeze, World.alloc, World.drew, -World.alloc_eq, -World.drew_eq]
  · rw [Lib.bytesWorld_size]
    omega
theorem strconv_ParseUint.calls (a0 : ByteArray) (a1 a2 : Int) (r1 : Int) (r2 : Option Int) (w : World) (h : strconv_ParseUint.f a0 a1 a2 = some (r1, r2)) :
    Calls Tryd.prog 47 #[.string a0, .int .i64 a1, .int .i64 a2] w fun e w' => e = .returned (.tuple #[.int .u64 r1, errW r2]) ∧ Below w.heap.size w w' := by
  unfold strconv_ParseUint.f at h
  by_cases c1 : a1 = 16
  · rw [if_pos c1] at h
    by_cases c2 : 0 < a0.size ∧ a0.size ≤ 9223372036854775806
    · rw [if_pos c2] at h
      cases hv : hexv 0 a0.data.toList with
      | none => rw [hv] at h; cases h
      | some v =>
        rw [hv, Option.bind_some] at h
        subst c1
        by_cases c3 : a2 = 8
        · rw [if_pos c3] at h
          by_cases c4 : v ≤ 255
          · rw [if_pos c4] at h
            obtain ⟨rfl, rfl⟩ := Prod.mk.inj (Option.some.inj h)
            subst c3
            refine (ParseUint_16_8 a0 (by omega) c2.2 v hv c4 w).mono ?_
            rintro e w' ⟨rfl, rfl⟩
            exact ⟨rfl, bytesWorld_below _ _ _⟩
          · rw [if_neg c4] at h; cases h
        · rw [if_neg c3] at h
          by_cases c3 : a2 = 32
          · rw [if_pos c3] at h
            by_cases c4 : v ≤ 4294967295
            · rw [if_pos c4] at h
              obtain ⟨rfl, rfl⟩ := Prod.mk.inj (Option.some.inj h)
              subst c3
              refine (ParseUint_16_32 a0 (by omega) c2.2 v hv c4 w).mono ?_
              rintro e w' ⟨rfl, rfl⟩
              exact ⟨rfl, bytesWorld_below _ _ _⟩
            · rw [if_neg c4] at h; cases h
          · rw [if_neg c3] at h
            by_cases c3 : a2 = 64
            · rw [if_pos c3] at h
              by_cases c4 : v ≤ 18446744073709551615
              · rw [if_pos c4] at h
                obtain ⟨rfl, rfl⟩ := Prod.mk.inj (Option.some.inj h)
                subst c3
                refine (ParseUint_16_64 a0 (by omega) c2.2 v hv c4 w).mono ?_
                rintro e w' ⟨rfl, rfl⟩
                exact ⟨rfl, bytesWorld_below _ _ _⟩
              · rw [if_neg c4] at h; cases h
            · rw [if_neg c3] at h; cases h
    · rw [if_neg c2] at h; cases h
  · rw [if_neg c1] at h; cases h
end Go.Proofs.YtlmmgienbmghmaaDoor.GivPU
