/- impl.Mounts without a filter in the print's form: what it answers of any text of at most 60,000 bytes, and its contract. -/
import Derived.Test.YtokojamaigebaaaDoorMtDoor
import Derived.Test.YtokojamaigebaaaDoorDoorMtE
set_option linter.unusedVariables false
set_option linter.unusedSimpArgs false
namespace Go.Proofs.YtokojamaigebaaaDoor.MtDoorE
open Go.RowKit Go.Proofs.YtokojamaigebaaaDoorW.PrintWords Go.Proofs.YtokojamaigebaaaDoorW.PrintLast Go.Proofs.YtokojamaigebaaaDoorW.PrintMore Go.Proofs.YtokojamaigebaaaDoor.Scan Go.Proofs.YtokojamaigebaaaDoor.ScanL Go.Proofs.YtokojamaigebaaaDoor.MtScan Go.Proofs.YtokojamaigebaaaDoor.GivM Go.Proofs.YtokojamaigebaaaDoor.GivIdx Go.Proofs.YtokojamaigebaaaDoor.M Go.Proofs.YtokojamaigebaaaDoor.U Go.Proofs.YtokojamaigebaaaDoor.MtLoop Go.Proofs.YtokojamaigebaaaDoor.MtLoopE Go.Proofs.YtokojamaigebaaaDoor.DoorMtE Go.Proofs.YtokojamaigebaaaDoor.MtRow
open Go.Proofs.YtokojamaigebaaaDoor.MtDoor (sepGo_is rd_map rowL_is)
open Go.Proofs.YtokojamaigebaaaDoorPt hiding toB_size toB_data
theorem cut_none (c : UInt8) (l : List UInt8) (k : Nat) (hk : l.length + 2 ≤ k) (hl : l.length ≤ 1000000) (h : cutL c l = none) : mountinfo_zzCut.f k (toB l) (toB [c]) = some (toB l, (⟨#[]⟩ : ByteArray), false) := by
  rcases parts c l with h1 | ⟨p2, r2, rfl, h1⟩
  · have hi := idx_no l c h1 hl (l.length - 0) 0 k rfl (Nat.zero_le _) (by omega)
    rw [show ((0 : Nat) : Int) = 0 from rfl] at hi
    unfold mountinfo_zzCut.f mountinfo_zzIndex.f
    rw [hi, Option.bind_some, if_neg (by decide)]
  · rw [cutL_at c r2 p2 h1] at h; cases h
theorem sepGo_no (ps : List (List UInt8)) : ∀ n : Nat, sepGo ps n = none → ∀ j, 6 ≤ j → j < n + 6 → ps.getD j [] ≠ [45]
  | 0, _, j, h1, h2 => by omega
  | n + 1, h, j, h1, h2 => by
    rw [sepGo] at h
    by_cases c : ps.getD (n + 6) [] = [45]
    · rw [if_pos c] at h; cases h
    · rw [if_neg c] at h
      by_cases e : j = n + 6
      · rw [e]; exact c
      · exact sepGo_no ps n h j h1 (by omega)
theorem bad_is (l : List UInt8) (hl : l.length < 65536) (h : rowL l = none) : BadL (toB l) := by
  have hsp := split_is 32 l (l.length + 8) (by omega) (by omega)
  have hl2 := (splitL_len 32 l).2
  have htot := splitL_tot 32 l
  refine ⟨l.length + 8, (splitL 32 l).map toB, hsp, by rw [List.length_map]; omega, ?_⟩
  unfold rowL at h
  by_cases c : 10 ≤ (splitL 32 l).length
  · rw [if_pos ⟨c, by omega⟩] at h
    generalize splitL 32 l = ps at c h htot hl2 hsp ⊢
    cases ha : sepGo ps (ps.length - 9) with
    | none =>
      refine .inr (.inl ⟨by rw [List.length_map]; exact c, fun j h1 h2 => ?_⟩)
      obtain ⟨jn, rfl⟩ : ∃ jn : Nat, j = (jn : Int) := ⟨j.toNat, by omega⟩
      rw [List.length_map] at h2
      rw [rd_map, toB_list]
      exact sepGo_no ps _ ha jn (by omega) (by omega)
    | some a =>
      rw [ha, Option.bind_some] at h
      obtain ⟨h1, h2, h3, h4⟩ := sepGo_is ps _ a ha
      refine .inr (.inr ⟨a, toB (ps.getD 2 []), (⟨#[]⟩ : ByteArray), ⟨by omega, by rw [List.length_map]; omega, ?_, ?_, by rw [List.length_map]; omega⟩, ?_⟩)
      · rw [rd_map, h3]; exact toB_list _
      · intro j g1 g2
        obtain ⟨jn, rfl⟩ : ∃ jn : Nat, j = (jn : Int) := ⟨j.toNat, by omega⟩
        rw [List.length_map] at g2
        rw [rd_map, toB_list]
        exact h4 jn (by omega) (by omega)
      · have hlen : (ps.getD 2 []).length ≤ l.length := by
          rw [List.getD_eq_getElem?_getD]
          cases hi : ps[2]? with
          | none => simp
          | some p =>
            have := tot_mem (List.mem_of_getElem? hi)
            simp only [Option.getD_some]
            omega
        rw [show (2 : Int) = ((2 : Nat) : Int) from rfl, rd_map]
        refine cut_none 58 _ _ (by omega) (by omega) ?_
        cases hc : cutL 58 (ps.getD 2 []) with
        | none => rfl
        | some q => rw [hc] at h; cases h
  · exact .inl (by rw [List.length_map]; omega)
theorem linesGo_len : ∀ (l cur x : List UInt8), x ∈ linesGo cur l → x.length ≤ cur.length + l.length
  | [], cur, x, h => by
    rw [linesGo] at h
    split at h
    · simp at h
    · rw [List.mem_singleton.1 h]; simp
  | a :: l, cur, x, h => by
    rw [linesGo] at h
    split at h
    · rcases List.mem_cons.1 h with rfl | h
      · simp
      · have := linesGo_len l [] x h
        simp at this ⊢
        omega
    · have := linesGo_len l (cur ++ [a]) x h
      simp at this ⊢
      omega
/-- The rows of a text; none where a line is refused. -/
def allE (l : List UInt8) : Option (List S23) := mapO (fun x => rowL (stripCR x)) (linesL l)
/-- The library's tables, under the name that the print knows. -/
def Tabs (w : World) : Prop := MTabs w
theorem Tabs.below {w w' : World} (h : Tabs w) (hb : Below w.heap.size w w') : Tabs w' := MTabs.below h hb
def impl_MountsE.f (a0 : ByteArray) (kind : Int) (paths : List ByteArray) : Option (List S23 × Int) :=
  if kind = 0 ∧ a0.size ≤ 60000 then (match allE a0.data.toList with | some zs => some (zs, 0) | none => some ([], 1)) else none
theorem impl_MountsE.calls (a0 : ByteArray) (kind : Int) (A : Option Addr) (c : Nat) (paths : List ByteArray) (r1 : List S23) (r2 : Int) (w : World) (hr : Kd.C Kd.string w A paths.length paths) (hc : paths.length ≤ c) (h : impl_MountsE.f a0 kind paths = some (r1, r2))
    (hTabs : Tabs w := by first | exact hTabs | exact Tabs.below hTabs (by repeat (first | (with_reducible first | exact HB.out | apply below_alloc | apply pw_below_drewN | apply below_drew1 | refine below_set ?_ (Aside0.out (by assumption))) | exact HB.out))) :
    Calls Tryd.prog 9 #[.string a0, .agg #[.int .i64 kind, .slice A paths.length c]] w fun e w' => ∃ v, e = .returned (.tuple #[v, .int .i64 r2]) ∧ Kd.R k23 23 w' w.heap.size (fun _ => True) v r1 ∧ Below w.heap.size w w' := by
  unfold impl_MountsE.f at h
  by_cases c1 : kind = 0 ∧ a0.size ≤ 60000
  · rw [if_pos c1] at h
    obtain ⟨rfl, hsz⟩ := c1
    have hlen : a0.data.toList.length = a0.size := (Lib.size_eq a0).symm
    have hE : ScanE MtL BadL a0 (allE a0.data.toList) := by
      have := scanE_of MtL BadL rowL rowL_is bad_is _ a0.data.toList rfl (by omega) (fun x hx => by have := linesGo_len _ _ x hx; simp at this; omega)
      rw [toB_of] at this
      exact this
    cases ho : allE a0.data.toList with
    | some zs =>
      rw [ho] at h hE
      obtain ⟨rfl, rfl⟩ := Prod.mk.inj (Option.some.inj h)
      exact doorOk_is a0 A c paths zs w hE (by omega) hTabs
    | none =>
      rw [ho] at h hE
      obtain ⟨rfl, rfl⟩ := Prod.mk.inj (Option.some.inj h)
      refine (doorBad_is a0 A c paths w hE (by omega) hTabs).mono ?_
      rintro e w' ⟨rfl, hb⟩
      exact ⟨_, rfl, Kd.R_nil _ _ _ _ _, hb⟩
  · rw [if_neg c1] at h; cases h
end Go.Proofs.YtokojamaigebaaaDoor.MtDoorE
