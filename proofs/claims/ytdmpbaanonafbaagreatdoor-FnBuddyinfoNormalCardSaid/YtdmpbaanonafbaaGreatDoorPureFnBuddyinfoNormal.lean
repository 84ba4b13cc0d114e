import Derived.Test.YtdmpbaanonafbaaGreatDoorDoorBd
import Derived.Test.YtdmpbaanonafbaaGreatDoorTexts2
import Derived.Test.YtdmpbaanonafbaaGreatDoorTreesV
import Derived.Test.YtdmpbaanonafbaaGreatDoorI5
/- /proc/buddyinfo as text: the door reads what the reference reads. -/
set_option linter.unusedVariables false
set_option linter.unusedSimpArgs false
namespace Go.Proofs.YtdmpbaanonafbaaGreatDoor.BdText
open Go.RowKit Go.Proofs.YtdmpbaanonafbaaGreatDoorW.PrintWords Go.Proofs.YtdmpbaanonafbaaGreatDoorW.PrintLast Go.Proofs.YtdmpbaanonafbaaGreatDoor.GivZ Go.Proofs.YtdmpbaanonafbaaGreatDoor.GivDec Go.Proofs.YtdmpbaanonafbaaGreatDoor.Flt Go.Proofs.YtdmpbaanonafbaaGreatDoor.GivFl Go.Proofs.YtdmpbaanonafbaaGreatDoor.RF Go.Proofs.YtdmpbaanonafbaaGreatDoor.Fl2 Go.Proofs.YtdmpbaanonafbaaGreatDoorPt Go.Proofs.YtdmpbaanonafbaaGreatDoor.E Go.Proofs.YtdmpbaanonafbaaGreatDoor.B Go.Proofs.YtdmpbaanonafbaaGreatDoor.ScanL Go.Proofs.YtdmpbaanonafbaaGreatDoor.BdLoop Go.Proofs.YtdmpbaanonafbaaGreatDoor.DoorBd Go.Proofs.YtdmpbaanonafbaaGreatDoor.L Go.Proofs.YtdmpbaanonafbaaGreatDoor.Texts Go.Proofs.YtdmpbaanonafbaaGreatDoor.Trees
/-- The digits that count, and the number. -/
def Inv (q : St) : Prop := (q.nd = 0 ∧ q.m = 0) ∨ (1 ≤ q.nd ∧ 10 ^ (q.nd - 1) ≤ q.m)
theorem inv_lt {q : St} (h : Inv q) (hm : q.m < 1099511627776) : q.nd < 15 := by
  rcases h with h | h
  · omega
  · by_cases c : q.nd < 15
    · exact c
    · have : 10 ^ 14 ≤ 10 ^ (q.nd - 1) := Nat.pow_le_pow_right (by decide) (by omega)
      have h2 : 10 ^ 14 = 100000000000000 := by decide
      omega
theorem pre_dot : ∀ (A : List UInt8) (q : St) (a : Nat), Inv q → q.dot = false → decv q.m A = some a → a < 1099511627776 →
    ∃ q', (∀ rest, rf q (A ++ rest) = rf q' rest) ∧ Inv q' ∧ q'.dot = false ∧ q'.m = a ∧ (A ≠ [] ∨ q.dig = true → q'.dig = true)
  | [], q, a, hi, hd, ha, hl => by
    simp [decv] at ha
    exact ⟨q, fun _ => rfl, hi, hd, ha, fun h => by rcases h with h | h; exact absurd rfl h; exact h⟩
  | c :: cs, q, a, hi, hd, ha, hl => by
    unfold decv at ha
    by_cases hc : 48 ≤ c.toNat ∧ c.toNat ≤ 57
    · rw [if_pos hc] at ha
      have hle := decv_le _ _ _ ha
      have hn : q.nd < 15 := inv_lt hi (by omega)
      by_cases c0 : c.toNat = 48 ∧ q.nd = 0
      · have hm : q.m = 0 := by rcases hi with h | h; exact h.2; omega
        obtain ⟨q', h1, h2, h3, h4, h5⟩ := pre_dot cs { q with dig := true, dp := q.dp - 1 } a (.inl ⟨c0.2, hm⟩) hd (by show decv q.m cs = some a; rw [hm]; rw [hm, c0.1] at ha; exact ha) hl
        refine ⟨q', fun rest => ?_, h2, h3, h4, fun _ => h5 (.inr rfl)⟩
        rw [List.cons_append, rf, if_neg (by omega), if_pos hc, if_pos c0]
        exact h1 rest
      · obtain ⟨q', h1, h2, h3, h4, h5⟩ := pre_dot cs { q with dig := true, nd := q.nd + 1, m := q.m * 10 + (c.toNat - 48) } a (by
          refine .inr ⟨by show 1 ≤ q.nd + 1; omega, ?_⟩
          show 10 ^ (q.nd + 1 - 1) ≤ q.m * 10 + (c.toNat - 48)
          rw [Nat.add_sub_cancel]
          rcases hi with h | h
          · rw [h.1]
            have : c.toNat ≠ 48 := fun e => c0 ⟨e, h.1⟩
            omega
          · obtain ⟨n, hn2⟩ : ∃ n, q.nd = n + 1 := ⟨q.nd - 1, by omega⟩
            rw [hn2] at h ⊢
            rw [Nat.add_sub_cancel] at h
            rw [Nat.pow_succ]
            omega) hd ha hl
        refine ⟨q', fun rest => ?_, h2, h3, h4, fun _ => h5 (.inr rfl)⟩
        rw [List.cons_append, rf, if_neg (by omega), if_pos hc, if_neg c0, if_pos (by omega)]
        exact h1 rest
    · rw [if_neg hc] at ha; cases ha
theorem fl_ok (x : ByteArray) (n : Nat) (hs : x.size ≤ 1000000) (hp : 0 < x.size) (hd : decv 0 x.data.toList = some n) (hn : n < 1099511627776) : ∃ r, flOf x = some r := by
  obtain ⟨q', h1, h2, h3, h4, h5⟩ := pre_dot x.data.toList ⟨false, false, 0, 0, 0⟩ n (.inl ⟨rfl, rfl⟩) rfl hd hn
  have hne : x.data.toList ≠ [] := by
    intro e
    have := len_data x
    rw [e] at this
    simp at this
    omega
  have h6 := h5 (.inl hne)
  have hrf : rf ⟨false, false, 0, 0, 0⟩ x.data.toList = some q' := by
    have := h1 []
    rw [List.append_nil] at this
    rw [this, rf]
  obtain ⟨r, hr⟩ : ∃ r, pfv q' = some r := by
    unfold pfv
    by_cases c0 : q'.m = 0
    · exact ⟨0, by rw [if_pos c0]⟩
    · have he : expo q' = 0 := by
        unfold expo
        rw [if_neg c0, h3]
        simp
      exact ⟨_, by rw [if_neg c0, if_neg (by omega), if_pos he]⟩
  refine ⟨r, ?_⟩
  unfold flOf strconv_ParseFloat.f
  rw [if_pos ⟨rfl, hp, hs⟩, hrf]
  simp only [Option.bind_some]
  rw [if_pos h6, hr]
  rfl
theorem has_ok (x c : ByteArray) (h : x.size ≤ 100000) (hc : c.size = 1) : ∃ b, stringslite_HasSuffix.f x c = some b ∧ (b = true → 1 ≤ x.size) := by
  unfold stringslite_HasSuffix.f
  by_cases k : (x.size : Int) ≥ (c.size : Int)
  · rw [if_pos k, wrap_in (by omega) (by omega), if_pos (by omega), if_pos (by omega)]
    exact ⟨_, rfl, fun _ => by omega⟩
  · rw [if_neg k]
    exact ⟨_, rfl, fun h => by cases h⟩
theorem trim_ok' (x c : ByteArray) (h : x.size ≤ 100000) (hc : c.size = 1) : ∃ y, strings_TrimSuffix.f x c = some y := by
  obtain ⟨b, hb, h1⟩ := has_ok x c h hc
  unfold strings_TrimSuffix.f stringslite_TrimSuffix.f
  rw [hb]
  simp only [Option.bind_some]
  cases b with
  | false => exact ⟨x, by rw [if_neg (by simp)]; rfl⟩
  | true =>
    have := h1 rfl
    rw [if_pos rfl, wrap_in (by omega) (by omega), if_pos (by omega), if_pos (by omega)]
    exact ⟨_, rfl⟩
theorem trim_ok (x : ByteArray) (h : x.size ≤ 100000) : ∃ y, strings_TrimSuffix.f x (⟨#[44]⟩ : ByteArray) = some y := trim_ok' x _ h rfl
theorem mapO_fl : ∀ (xs : List ByteArray) (ns : List Int), allDec xs ns → (∀ x ∈ xs, x.size ≤ 1000000) → (∀ v ∈ ns, v < 1099511627776) → ∃ vs, mapO flOf xs = some vs ∧ vs.length = ns.length
  | [], [], _, _, _ => ⟨[], rfl, rfl⟩
  | x :: xs, v :: ns, h, hs, hv => by
    obtain ⟨v0, v1, sz, dv⟩ := h.1
    have hlt := hv v List.mem_cons_self
    obtain ⟨r, hr⟩ := fl_ok x v.toNat (hs x List.mem_cons_self) sz dv (by omega)
    obtain ⟨vs, h1, h2⟩ := mapO_fl xs ns h.2 (fun y hy => hs y (List.mem_cons_of_mem _ hy)) (fun u hu => hv u (List.mem_cons_of_mem _ hu))
    exact ⟨r :: vs, by rw [mapO, hr, h1]; rfl, by simp [h2]⟩
  | [], _ :: _, h, _, _ => h.elim
  | _ :: _, [], h, _, _ => h.elim
/-- A line that the reference reads. -/
structure LineOk (x : List UInt8) (ns : List Int) : Prop where
  five : 5 ≤ (wordsL x).length
  nums : allDec (((wordsL x).map toB).drop 4) ns
theorem fields_line (x : List UInt8) (hl : x.length ≤ 40000) (hp : ∀ c ∈ x, c.toNat ≤ 126 ∧ (c.toNat < 32 → c = 10 ∨ c = 9)) (h10 : ∀ c ∈ x, c ≠ 10) : strings_Fields.f (toB x) = some ((wordsL x).map toB) := by
  have hsp : ∀ c ∈ x, Lib.isSp c = true → c = 32 ∨ c = 9 := by
    intro c hc hs
    have h1 := hp c hc
    have h2 := h10 c hc
    have hn : c.toNat = 9 ∨ c.toNat = 10 ∨ c.toNat = 11 ∨ c.toNat = 12 ∨ c.toNat = 13 ∨ c.toNat = 32 := by
      simp only [Lib.isSp, Bool.or_eq_true, beq_iff_eq] at hs
      rcases hs with ((((rfl | rfl) | rfl) | rfl) | rfl) | rfl <;> decide
    rcases hn with e | e | e | e | e | e
    · exact .inr (UInt8.toNat_inj.1 e)
    · exact absurd (UInt8.toNat_inj.1 e) h2
    · have := h1.2 (by omega); rcases this with h3 | h3 <;> rw [h3] at e <;> simp at e
    · have := h1.2 (by omega); rcases this with h3 | h3 <;> rw [h3] at e <;> simp at e
    · have := h1.2 (by omega); rcases this with h3 | h3 <;> rw [h3] at e <;> simp at e
    · exact .inl (UInt8.toNat_inj.1 e)
  unfold strings_Fields.f
  rw [toB_data, if_pos ⟨by rw [toB_size]; omega, List.all_eq_true.2 (fun c hc => decide_eq_true (by have := hp c hc; omega))⟩]
  unfold Lib.fields wordsL
  rw [words_fields x [] hsp]
  rfl
theorem row_read (x : List UInt8) (ns : List Int) (hl : x.length ≤ 40000) (hp : ∀ c ∈ x, c.toNat ≤ 126 ∧ (c.toNat < 32 → c = 10 ∨ c = 9)) (h10 : ∀ c ∈ x, c ≠ 10) (h : LineOk x ns) (hv : ∀ v ∈ ns, v < 1099511627776) : ∃ z, bdRow x = some z ∧ z.f2.length = ns.length := by
  have hF := fields_line x hl hp h10
  have hsz : ∀ y ∈ (wordsL x).map toB, y.size ≤ 40000 := by
    intro y hy
    obtain ⟨w, hw, rfl⟩ := List.mem_map.1 hy
    have := (wordsGo_mem _ [] w hw).2.1
    rw [toB_size]
    simp at this
    omega
  have h5 : 5 ≤ ((wordsL x).map toB).length := by rw [List.length_map]; exact h.five
  have hn := h.nums
  generalize (wordsL x).map toB = f at hF hsz h5 hn
  have hm : ∀ i : Nat, i < f.length → (rdOf ByteArray.empty f (i : Int)).size ≤ 40000 := by
    intro i hi
    refine hsz _ ?_
    unfold rdOf
    rw [Int.toNat_natCast, List.getD_eq_getElem?_getD, List.getElem?_eq_getElem hi]
    exact List.getElem_mem hi
  obtain ⟨p, hp1⟩ := trim_ok (rdOf ByteArray.empty f 1) (by have := hm 1 (by omega); exact Nat.le_trans this (by decide))
  obtain ⟨q, hq1⟩ := trim_ok (rdOf ByteArray.empty f 3) (by have := hm 3 (by omega); exact Nat.le_trans this (by decide))
  obtain ⟨vs, h1, h2⟩ := mapO_fl _ ns hn (fun y hy => Nat.le_trans (hsz y (List.mem_of_mem_drop hy)) (by decide)) hv
  refine ⟨⟨p, q, vs⟩, ?_, h2⟩
  unfold bdRow
  rw [hF]
  simp only [Option.bind_some]
  rw [if_pos h5, hp1, hq1, h1]
  rfl
theorem rows_read : ∀ (ls : List (List UInt8)) (rs : List (List Int)), all2 LineOk ls rs → (∀ x ∈ ls, x.length ≤ 40000 ∧ (∀ c ∈ x, c.toNat ≤ 126 ∧ (c.toNat < 32 → c = 10 ∨ c = 9)) ∧ ∀ c ∈ x, c ≠ 10) → (∀ ns ∈ rs, ∀ v ∈ ns, v < 1099511627776) → ∃ zs, mapO bdRow ls = some zs ∧ all2 (fun (ns : List Int) (z : S79) => z.f2.length = ns.length) rs zs
  | [], [], _, _, _ => ⟨[], rfl, trivial⟩
  | x :: ls, ns :: rs, h, hx, hv => by
    obtain ⟨a1, a2, a3⟩ := hx x List.mem_cons_self
    obtain ⟨z, hz, hzl⟩ := row_read x ns a1 a2 a3 h.1 (hv ns List.mem_cons_self)
    obtain ⟨zs, h1, h2⟩ := rows_read ls rs h.2 (fun y hy => hx y (List.mem_cons_of_mem _ hy)) (fun n hn => hv n (List.mem_cons_of_mem _ hn))
    exact ⟨z :: zs, by rw [mapO, hz, h1]; rfl, hzl, h2⟩
  | [], _ :: _, h, _, _ => h.elim
  | _ :: _, [], h, _, _ => h.elim
theorem sizes_loop (zs : List Nat) (hl : zs.length ≤ 200000) (d : Nat) : ∀ (out : List S35) (i : Nat), i ≤ zs.length → zs.length - i = d → out.length = i → (∀ x ∈ out, good 0 x.f7) →
    ∃ ks, Ev (fun k => impl_list_float64___sizes.l0 k zs (zs.length : Int) (i : Int) (⟨#[83, 105, 122, 101, 115]⟩ : ByteArray) 6 false 0 0 0 (⟨#[]⟩ : ByteArray) out) ((⟨#[83, 105, 122, 101, 115]⟩ : ByteArray), 6, false, 0, 0, 0, (⟨#[]⟩ : ByteArray), ks) ∧ ks.length ≤ zs.length ∧ ∀ x ∈ ks, good 0 x.f7 := by
  induction d with
  | zero =>
    intro out i h1 hd ho hg
    refine ⟨out, Ev.step (f := fun _ => some ((⟨#[83, 105, 122, 101, 115]⟩ : ByteArray), 6, false, 0, 0, 0, (⟨#[]⟩ : ByteArray), out)) (fun k => ?_) (Ev.now _), by omega, hg⟩
    simp only [impl_list_float64___sizes.l0]
    rw [if_neg (by omega)]
  | succ d ih =>
    intro out i h1 hd ho hg
    obtain ⟨res, hE, hl2, hg2⟩ := ih (out ++ [(⟨(⟨#[]⟩ : ByteArray), 4, false, 0, 0, rdOf 0 zs (i : Int), (⟨#[]⟩ : ByteArray), ([] : List S35)⟩ : S35)]) (i + 1) (by omega) (by omega) (by simp [ho]) (fun x hx => by
      rcases List.mem_append.1 hx with hx | hx
      · exact hg x hx
      · rw [List.mem_singleton.1 hx]; rfl)
    refine ⟨res, Ev.step (fun k => ?_) hE, hl2, hg2⟩
    simp only [impl_list_float64___sizes.l0, impl_procfsBuddyInfo_1.f]
    rw [if_pos (by omega), if_pos (by omega), if_pos (by omega)]
    simp only [Option.bind_some]
    rw [if_pos (by omega), wrap_in (by omega) (by omega)]
    rfl
theorem bd_ev (x y : ByteArray) (zs : List Nat) (hl : zs.length ≤ 200000) : ∃ ks, Ev (fun k => impl_Buddyinfo_1_1.f k x y zs) ((⟨#[]⟩ : ByteArray), 8, false, 0, 0, 0, (⟨#[]⟩ : ByteArray), ks) ∧ good 2 ks := by
  obtain ⟨ks, hE, h1, h2⟩ := sizes_loop zs hl zs.length [] 0 (by omega) (by omega) rfl (fun x hx => by cases hx)
  refine ⟨_, Ev.bind (g := fun k => impl_procfsBuddyInfo.f k (⟨#[]⟩ : ByteArray) x y zs) (Ev.congr (fun k => rfl) (Ev.bind (g := fun k => impl_list_float64___sizes.f k (⟨#[83, 105, 122, 101, 115]⟩ : ByteArray) zs) hE (Ev.now _))) (Ev.now _), ?_⟩
  refine ⟨by simp, ?_⟩
  intro u hu
  have hu' : u = (⟨(⟨#[78, 111, 100, 101]⟩ : ByteArray), 5, false, 0, 0, 0, x, ([] : List S35)⟩ : S35) ∨ u = (⟨(⟨#[90, 111, 110, 101]⟩ : ByteArray), 5, false, 0, 0, 0, y, ([] : List S35)⟩ : S35) ∨ u = (⟨(⟨#[83, 105, 122, 101, 115]⟩ : ByteArray), 6, false, 0, 0, 0, (⟨#[]⟩ : ByteArray), ks⟩ : S35) := by simpa using hu
  rcases hu' with e | e | e
  · rw [e]; exact ⟨by simp, fun z hz => by cases hz⟩
  · rw [e]; exact ⟨by simp, fun z hz => by cases hz⟩
  · rw [e]; exact ⟨by show ks.length ≤ 200000; omega, h2⟩
theorem list_loop (zs : List S79) (hl : zs.length ≤ 200000) (hz : ∀ z ∈ zs, z.f2.length ≤ 200000) (d : Nat) : ∀ (out : List S35) (i : Nat), i ≤ zs.length → zs.length - i = d → out.length = i → (∀ x ∈ out, good 2 x.f7) →
    ∃ ks, Ev (fun k => procfs_BuddyInfo___BuddyInfo.l0 k zs (zs.length : Int) (i : Int) (⟨#[]⟩ : ByteArray) 6 false 0 0 0 (⟨#[]⟩ : ByteArray) out) ((⟨#[]⟩ : ByteArray), 6, false, 0, 0, 0, (⟨#[]⟩ : ByteArray), ks) ∧ ks.length ≤ zs.length ∧ ∀ x ∈ ks, good 2 x.f7 := by
  induction d with
  | zero =>
    intro out i h1 hd ho hg
    refine ⟨out, Ev.step (f := fun _ => some ((⟨#[]⟩ : ByteArray), 6, false, 0, 0, 0, (⟨#[]⟩ : ByteArray), out)) (fun k => ?_) (Ev.now _), by omega, hg⟩
    simp only [procfs_BuddyInfo___BuddyInfo.l0]
    rw [if_neg (by omega)]
  | succ d ih =>
    intro out i h1 hd ho hg
    have hi : i < zs.length := by omega
    have hr : rd_T79 zs (i : Int) = zs.getD i z79 := by simp [rd_T79]
    have hm := getD_mem zs z79 i hi
    have hzl := hz _ hm
    generalize zs.getD i z79 = z at hr hzl
    obtain ⟨ks, hB, hgood⟩ := bd_ev z.f0 z.f1 z.f2 hzl
    obtain ⟨res, hE, hl2, hg2⟩ := ih (out ++ [(⟨(⟨#[]⟩ : ByteArray), 8, false, 0, 0, 0, (⟨#[]⟩ : ByteArray), ks⟩ : S35)]) (i + 1) (by omega) (by omega) (by simp [ho]) (fun x hx => by
      rcases List.mem_append.1 hx with hx | hx
      · exact hg x hx
      · rw [List.mem_singleton.1 hx]; exact hgood)
    refine ⟨res, Ev.step (f := fun k => (impl_Buddyinfo_1_1.f k z.f0 z.f1 z.f2).bind fun bt158 => (procfs_BuddyInfo___BuddyInfo.l0 k zs (zs.length : Int) ((i + 1 : Nat) : Int) (⟨#[]⟩ : ByteArray) 6 false 0 0 0 (⟨#[]⟩ : ByteArray) (out ++ [(⟨bt158.1, bt158.2.1, bt158.2.2.1, bt158.2.2.2.1, bt158.2.2.2.2.1, bt158.2.2.2.2.2.1, bt158.2.2.2.2.2.2.1, bt158.2.2.2.2.2.2.2⟩ : S35)]))) (fun k => ?_) (Ev.bind hB hE), hl2, hg2⟩
    simp only [procfs_BuddyInfo___BuddyInfo.l0]
    rw [if_pos (by omega), if_pos (by omega), if_pos (by omega), hr, wrap_in (by omega) (by omega)]
    congr 1
    funext t
    rw [if_pos (by omega)]
    rfl
theorem rec_ev (zs : List S79) (hl : zs.length ≤ 200000) (hz : ∀ z ∈ zs, z.f2.length ≤ 200000) : ∃ ks, Ev (fun k => impl_Buddyinfo_1.f k zs) ((⟨#[]⟩ : ByteArray), 6, false, 0, 0, 0, (⟨#[]⟩ : ByteArray), ks) ∧ good 3 ks := by
  obtain ⟨ks, hE, h1, h2⟩ := list_loop zs hl hz zs.length [] 0 (by omega) (by omega) rfl (fun x hx => by cases hx)
  exact ⟨ks, Ev.bind (g := fun k => procfs_BuddyInfo___BuddyInfo.f k (⟨#[]⟩ : ByteArray) zs) hE (Ev.now _), by omega, h2⟩
theorem all2_mem2 {α β : Type} {P : α → β → Prop} : ∀ (xs : List α) (ys : List β), all2 P xs ys → ∀ y ∈ ys, ∃ x ∈ xs, P x y
  | [], [], _, y, h => by cases h
  | a :: xs, b :: ys, h, y, hy => by
    rcases List.mem_cons.1 hy with rfl | hy
    · exact ⟨a, List.mem_cons_self, h.1⟩
    · obtain ⟨x, hx, hp⟩ := all2_mem2 xs ys h.2 y hy
      exact ⟨x, List.mem_cons_of_mem _ hx, hp⟩
  | [], _ :: _, h, _, _ => h.elim
theorem lines_count : ∀ (l cur : List UInt8), (linesGo cur l).length ≤ l.length + 1
  | [], cur => by unfold linesGo; split <;> simp
  | c :: cs, cur => by
    unfold linesGo
    have h1 := lines_count cs []
    have h2 := lines_count cs (cur ++ [c])
    split
    · simp; omega
    · simp; omega
theorem line_ok_pos {x : List UInt8} {ns : List Int} (h : LineOk x ns) : 0 < ns.length ∧ ns.length ≤ x.length + 1 := by
  have h1 := allDec_len _ _ h.nums
  have h2 := h.five
  have h3 := wordsGo_size x []
  rw [List.length_drop, List.length_map] at h1
  have h4 : (wordsL x).length ≤ x.length + 1 := h3
  omega
theorem door_ok (a0 : ByteArray) (ha : a0.size ≤ 40000) (hp : ∀ c ∈ a0.data.toList, c.toNat ≤ 126 ∧ (c.toNat < 32 → c = 10 ∨ c = 9)) (rs : List (List Int)) (h : all2 LineOk (linesL a0.data.toList) rs) (n : Nat) (hw : ∀ ns ∈ rs, ns.length = n) (hv : ∀ ns ∈ rs, ∀ v ∈ ns, v < 1099511627776) :
    ∃ (n1 : ByteArray) (n2 : Int) (n3 : Bool) (n4 n5 : Int) (n6 : Nat) (n7 : ByteArray) (n8 : List S35), Ev (fun k => impl_Buddyinfo.f k a0) (n1, n2, n3, n4, n5, n6, n7, n8, 0) ∧ good 3 n8 := by
  have hlen := len_data a0
  have hmem : ∀ x ∈ linesL a0.data.toList, x.length ≤ 40000 ∧ (∀ c ∈ x, c.toNat ≤ 126 ∧ (c.toNat < 32 → c = 10 ∨ c = 9)) ∧ ∀ c ∈ x, c ≠ 10 := by
    intro x hx
    have h1 := linesGo_len _ [] x hx
    have h2 := linesGo_mem _ [] x hx
    refine ⟨by simp at h1; omega, fun c hc => ?_, fun c hc => ?_⟩
    · rcases h2 c hc with h3 | h3
      · cases h3
      · exact hp c h3.1
    · rcases h2 c hc with h3 | h3
      · cases h3
      · exact h3.2
  have hcnt : (linesL a0.data.toList).length ≤ 40001 := by
    have := lines_count a0.data.toList []
    unfold linesL
    omega
  obtain ⟨zs, hz, hzl⟩ := rows_read _ rs h hmem hv
  have hl1 := all2_len _ _ h
  have hl2 := all2_len _ _ hzl
  have hfit : fits a0.data.toList = true := fits_of (by omega) (fun x hx => by
    obtain ⟨h1, h2, h3⟩ := hmem x hx
    refine ⟨by omega, fun e => ?_⟩
    have h4 := h2 13 (List.mem_of_getLast? e)
    rcases h4.2 (by decide) with h5 | h5 <;> exact absurd h5 (by decide))
  have hzw : ∀ z ∈ zs, z.f2.length = n := by
    intro z hz2
    obtain ⟨ns, h1, h2⟩ := all2_mem2 _ _ hzl z hz2
    rw [h2, hw ns h1]
  have hwid : zs.length ≤ 1000000 ∧ (zs.all fun z => z.f2.length == width zs) = true ∧ 0 < width zs ∧ width zs ≤ 1000000 := by
    match zs, hzl, hzw, hl2 with
    | [], _, _, _ => exact ⟨by decide, by decide, by decide, by decide⟩
    | z :: zs, hzl, hzw, hl2 =>
      have e : z.f2.length = n := hzw z List.mem_cons_self
      obtain ⟨ns, h1, h2⟩ := all2_mem2 _ _ hzl z List.mem_cons_self
      obtain ⟨x, h3, h4⟩ := all2_mem2 _ _ h ns h1
      have h5 := line_ok_pos h4
      have h6 := (hmem x h3).1
      have e2 : width (z :: zs) = n := e
      rw [e2]
      refine ⟨by omega, List.all_eq_true.2 fun y hy => ?_, by omega, by omega⟩
      have := hzw y hy
      simp [this]
  have hzb : ∀ z ∈ zs, z.f2.length ≤ 200000 := by
    intro z hz2
    obtain ⟨ns, h1, h2⟩ := all2_mem2 _ _ hzl z hz2
    obtain ⟨x, h3, h4⟩ := all2_mem2 _ _ h ns h1
    have h5 := line_ok_pos h4
    have h6 := (hmem x h3).1
    omega
  obtain ⟨ks, hR, hg⟩ := rec_ev zs (by omega) hzb
  refine ⟨(⟨#[]⟩ : ByteArray), 6, false, 0, 0, 0, (⟨#[]⟩ : ByteArray), ks, ?_, hg⟩
  have hrun : runO bdRow a0.data.toList = some zs := by unfold runO; rw [if_pos hfit, hz]
  unfold impl_Buddyinfo.f
  exact Ev.congr (f := fun k => (impl_Buddyinfo_1.f k zs).bind fun m => some (m.1, m.2.1, m.2.2.1, m.2.2.2.1, m.2.2.2.2.1, m.2.2.2.2.2.1, m.2.2.2.2.2.2.1, m.2.2.2.2.2.2.2, 0)) (fun k => by rw [if_pos (by omega), hrun]; simp only [Option.bind_some]; rw [if_pos hwid]) (Ev.bind hR (Ev.now _))
end Go.Proofs.YtdmpbaanonafbaaGreatDoor.BdText

/- Any text as /proc/buddyinfo that means something is read as that, written anew in the documented form, is: every text (the law itself lets texts of more than 40,000 bytes by). -/
set_option linter.unusedVariables false
set_option linter.unusedSimpArgs false
namespace Go.Proofs.YtdmpbaanonafbaaGreatDoor.Pure
open Go.RowKit Go.Proofs.YtdmpbaanonafbaaGreatDoorW.PrintWords Go.Proofs.YtdmpbaanonafbaaGreatDoorW.PrintLast Go.Proofs.YtdmpbaanonafbaaGreatDoor.GivZ Go.Proofs.YtdmpbaanonafbaaGreatDoorPt Go.Proofs.YtdmpbaanonafbaaGreatDoor.GivDec Go.Proofs.YtdmpbaanonafbaaGreatDoor.L Go.Proofs.YtdmpbaanonafbaaGreatDoor.V Go.Proofs.YtdmpbaanonafbaaGreatDoor.R Go.Proofs.YtdmpbaanonafbaaGreatDoor.I Go.Proofs.YtdmpbaanonafbaaGreatDoor.E Go.Proofs.YtdmpbaanonafbaaGreatDoor.ScanL Go.Proofs.YtdmpbaanonafbaaGreatDoor.BdLoop Go.Proofs.YtdmpbaanonafbaaGreatDoor.DoorBd Go.Proofs.YtdmpbaanonafbaaGreatDoor.Lives Go.Proofs.YtdmpbaanonafbaaGreatDoor.Texts Go.Proofs.YtdmpbaanonafbaaGreatDoor.Trees Go.Proofs.YtdmpbaanonafbaaGreatDoor.BdText
theorem word_loop (s : ByteArray) (hs : s.size ≤ 100000) (d : Nat) : ∀ (i : Nat), i ≤ s.size → s.size - i = d →
    ∃ b, Ev (fun k => spec_Word.l0 k s (s.size : Int) (i : Int)) b ∧ (b = true → s.toList ≠ [] ∧ ∀ c ∈ s.data.toList.drop i, 33 ≤ c.toNat ∧ c.toNat ≤ 126) := by
  have hlen := len_data s
  induction d with
  | zero =>
    intro i h1 hd
    have hi : i = s.size := by omega
    subst hi
    refine ⟨(s.toList != ([] : List UInt8)), Ev.step (f := fun _ => some (s.toList != ([] : List UInt8))) (fun k => ?_) (Ev.now _), fun h => ⟨by simpa using h, fun c hc => ?_⟩⟩
    · simp only [spec_Word.l0]
      rw [if_neg (by omega)]
    · rw [List.drop_of_length_le (by omega)] at hc; cases hc
  | succ d ih =>
    intro i h1 hd
    have hi : i < s.size := by omega
    obtain ⟨c, hc, hb, hg⟩ := drop_data s i hi
    obtain ⟨b, hE, hP⟩ := ih (i + 1) (by omega) (by omega)
    have hpre : ∀ k, spec_Word.l0 (k + 1) s (s.size : Int) (i : Int) = (if (c.toNat : Int) ≤ 32 then (some false) else (if (c.toNat : Int) > 126 then (some false) else (spec_Word.l0 k s (s.size : Int) ((i + 1 : Nat) : Int)))) := by
      intro k
      simp only [spec_Word.l0]
      rw [if_pos (by omega), if_pos (by omega), if_pos (by omega), hb, wrap_in (by omega) (by omega)]
      rfl
    by_cases c1 : (c.toNat : Int) ≤ 32
    · exact ⟨false, Ev.step (f := fun _ => some false) (fun k => by rw [hpre, if_pos c1]) (Ev.now _), fun h => by cases h⟩
    · by_cases c2 : (c.toNat : Int) > 126
      · exact ⟨false, Ev.step (f := fun _ => some false) (fun k => by rw [hpre, if_neg c1, if_pos c2]) (Ev.now _), fun h => by cases h⟩
      · refine ⟨b, Ev.step (fun k => by rw [hpre, if_neg c1, if_neg c2]) hE, fun h => ⟨(hP h).1, fun e he => ?_⟩⟩
        rw [hc] at he
        rcases List.mem_cons.1 he with rfl | he
        · omega
        · exact (hP h).2 e he
theorem word_is (s : ByteArray) (hs : s.size ≤ 100000) : ∃ b, Ev (fun k => spec_Word.f k s) b ∧ (b = true → s.toList ≠ [] ∧ ∀ c ∈ s.data.toList, 33 ≤ c.toNat ∧ c.toNat ≤ 126) := by
  obtain ⟨b, h1, h2⟩ := word_loop s hs s.size 0 (by omega) (by omega)
  exact ⟨b, h1, by simpa using h2⟩
theorem small_loop (m : Int) (l : List Int) (hl : l.length ≤ 200000) (d : Nat) : ∀ (i : Nat), i ≤ l.length → l.length - i = d →
    ∃ b, Ev (fun k => spec_small.l0 k m l (l.length : Int) (i : Int)) b ∧ (b = true → ∀ v ∈ l.drop i, v < m) := by
  induction d with
  | zero =>
    intro i h1 hd
    refine ⟨true, Ev.step (f := fun _ => some true) (fun k => ?_) (Ev.now _), fun h v hv => ?_⟩
    · simp only [spec_small.l0]
      rw [if_neg (by omega)]
    · rw [List.drop_of_length_le (by omega)] at hv; cases hv
  | succ d ih =>
    intro i h1 hd
    have hi : i < l.length := by omega
    obtain ⟨b, hE, hP⟩ := ih (i + 1) (by omega) (by omega)
    have hr : rd l (i : Int) = l.getD i 0 := by simp [rd]
    have hpre : ∀ k, spec_small.l0 (k + 1) m l (l.length : Int) (i : Int) = (if l.getD i 0 ≥ m then (some false) else (spec_small.l0 k m l (l.length : Int) ((i + 1 : Nat) : Int))) := by
      intro k
      simp only [spec_small.l0]
      rw [if_pos (by omega), if_pos (by omega), if_pos (by omega), hr, wrap_in (by omega) (by omega)]
      rfl
    by_cases c1 : l.getD i 0 ≥ m
    · exact ⟨false, Ev.step (f := fun _ => some false) (fun k => by rw [hpre, if_pos c1]) (Ev.now _), fun h => by cases h⟩
    · refine ⟨b, Ev.step (fun k => by rw [hpre, if_neg c1]) hE, fun h v hv => ?_⟩
      rw [drop_list l 0 i hi] at hv
      rcases List.mem_cons.1 hv with rfl | hv
      · omega
      · exact hP h v hv
theorem small_is (m : Int) (l : List Int) (hl : l.length ≤ 200000) : ∃ b, Ev (fun k => spec_small.f k m l) b ∧ (b = true → ∀ v ∈ l, v < m) := by
  obtain ⟨b, h1, h2⟩ := small_loop m l hl l.length 0 (by omega) (by omega)
  exact ⟨b, h1, by simpa using h2⟩
theorem where_loop (s : ByteArray) (hs : s.size ≤ 100000) (c : Int) (d : Nat) : ∀ (i : Nat), i ≤ s.size → s.size - i = d →
    ∃ r : Int, Ev (fun k => spec_Where.l0 k s c (s.size : Int) (i : Int)) r ∧ (r = -1 ∨ ∃ n : Nat, r = n ∧ n < s.size ∧ bt s (n : Int) = c) := by
  induction d with
  | zero =>
    intro i h1 hd
    refine ⟨-1, Ev.step (f := fun _ => some (-1)) (fun k => ?_) (Ev.now _), .inl rfl⟩
    simp only [spec_Where.l0]
    rw [if_neg (by omega)]
  | succ d ih =>
    intro i h1 hd
    by_cases cc : bt s (i : Int) = c
    · refine ⟨i, Ev.step (f := fun _ => some ((i : Nat) : Int)) (fun k => ?_) (Ev.now _), .inr ⟨i, rfl, by omega, cc⟩⟩
      simp only [spec_Where.l0]
      rw [if_pos (show (i : Int) < (s.size : Int) by omega), if_pos (show (0 : Int) ≤ (i : Int) by omega), if_pos (show (i : Int) < (s.size : Int) by omega), if_pos cc]
    · obtain ⟨r, hE, h⟩ := ih (i + 1) (by omega) (by omega)
      refine ⟨r, Ev.step (fun k => ?_) hE, h⟩
      simp only [spec_Where.l0]
      rw [if_pos (show (i : Int) < (s.size : Int) by omega), if_pos (show (0 : Int) ≤ (i : Int) by omega), if_pos (show (i : Int) < (s.size : Int) by omega), if_neg cc, wrap_in (by omega) (by omega)]
      rfl
theorem where_is (s : ByteArray) (hs : s.size ≤ 100000) (c : Int) : ∃ r : Int, Ev (fun k => spec_Where.f k s c) r := by
  obtain ⟨r, h, _⟩ := where_loop s hs c s.size 0 (by omega) (by omega)
  exact ⟨r, h⟩
/-- A row that is read. -/
structure RB (r : S48) : Prop where
  n : r.f1.length ≤ 100000
  pos : 0 < r.f1.length
  rng : ∀ v ∈ r.f1, 0 ≤ v ∧ v ≤ 18446744073709551615
  two : ∃ p q : ByteArray, r.f2 = [p, q] ∧ p.size ≤ 90000 ∧ q.size ≤ 90000
theorem right_loop (n : Nat) (hn : n ≤ 100) (d : Nat) : ∀ (x : ByteArray), x.size ≤ 200000 → n - x.size = d → ∃ s : ByteArray, Ev (fun k => spec_Right.l0 k x (n : Int)) s ∧ s.size ≤ x.size + d := by
  induction d with
  | zero =>
    intro x hx hd
    refine ⟨x, Ev.step (f := fun _ => some x) (fun k => ?_) (Ev.now _), by omega⟩
    simp only [spec_Right.l0]
    rw [if_neg (by omega)]
  | succ d ih =>
    intro x hx hd
    obtain ⟨z, hz⟩ : ∃ z : ByteArray, z = (⟨#[32]⟩ : ByteArray) := ⟨_, rfl⟩
    have hzs : z.size = 1 := by rw [hz]; rfl
    obtain ⟨s, hE, h1⟩ := ih (z ++ x) (by rw [ByteArray.size_append]; omega) (by rw [ByteArray.size_append]; omega)
    rw [ByteArray.size_append] at h1
    refine ⟨s, Ev.step (fun k => ?_) hE, by omega⟩
    simp only [spec_Right.l0]
    rw [if_pos (by omega), if_pos (by omega), hz]
theorem right_is (x : ByteArray) (hx : x.size ≤ 200000) (n : Nat) (hn : n ≤ 100) : ∃ s : ByteArray, Ev (fun k => spec_Right.f k x (n : Int)) s ∧ s.size ≤ x.size + 100 := by
  obtain ⟨s, h1, h2⟩ := right_loop n hn (n - x.size) x hx rfl
  exact ⟨s, h1, by omega⟩
theorem words_is (p q : ByteArray) (hp : p.size ≤ 90000) (hq : q.size ≤ 90000) : ∃ b, Ev (fun k => spec_words.f k [p, q]) b := by
  obtain ⟨b1, h1, _⟩ := word_is p (by omega)
  obtain ⟨b2, h2, _⟩ := word_is q (by omega)
  have w1 : wrap64 ((0 : Int) + 1) = 1 := wrap_in (by omega) (by omega)
  have w2 : wrap64 ((1 : Int) + 1) = 2 := wrap_in (by omega) (by omega)
  have s0 : ∀ res, Ev (fun k => (spec_Word.f k p).bind fun t102 => (if t102 = true then (spec_words.l0 k [p, q] 2 1) else (some false))) res → Ev (fun k => spec_words.f k [p, q]) res := fun res h => Ev.step (fun k => by
    show spec_words.l0 (k + 1) [p, q] 2 0 = _
    simp only [spec_words.l0]
    rw [if_pos (by decide), if_pos (by decide), if_pos (by simp), w1]
    rfl) h
  have s1 : ∀ res, Ev (fun k => (spec_Word.f k q).bind fun t102 => (if t102 = true then (spec_words.l0 k [p, q] 2 2) else (some false))) res → Ev (fun k => spec_words.l0 k [p, q] 2 1) res := fun res h => Ev.step (fun k => by
    simp only [spec_words.l0]
    rw [if_pos (by decide), if_pos (by decide), if_pos (by simp), w2]
    rfl) h
  have s2 : Ev (fun k => spec_words.l0 k [p, q] 2 2) true := Ev.step (f := fun _ => some true) (fun k => by
    simp only [spec_words.l0]
    rw [if_neg (by decide)]) (Ev.now _)
  cases b1 with
  | false => exact ⟨false, s0 _ (Ev.bind h1 (Ev.congr (f := fun _ => some false) (fun k => by rw [if_neg (by simp)]) (Ev.now _)))⟩
  | true =>
    cases b2 with
    | false => exact ⟨false, s0 _ (Ev.bind h1 (Ev.congr (fun k => by rw [if_pos rfl]) (s1 _ (Ev.bind h2 (Ev.congr (f := fun _ => some false) (fun k => by rw [if_neg (by simp)]) (Ev.now _))))))⟩
    | true => exact ⟨true, s0 _ (Ev.bind h1 (Ev.congr (fun k => by rw [if_pos rfl]) (s1 _ (Ev.bind h2 (Ev.congr (fun k => by rw [if_pos rfl]) s2)))))⟩
/-- The numbers of a row, written behind what there is. -/
theorem nums_go (x0 l : List S48) (n : Int) (i : Nat) (hi : i ≤ 200000) (ns : List Int) (hn : ns.length ≤ 100000) (hv : ∀ v ∈ ns, 0 ≤ v ∧ v ≤ 18446744073709551615) (d : Nat) : ∀ (acc : ByteArray) (j : Nat), j ≤ ns.length → ns.length - j = d → acc.size ≤ 1000000001000000 + j * 1000 →
    ∃ acc' : ByteArray, acc'.size ≤ acc.size + d * 1000 + 1 ∧ ∀ res, Ev (fun k => spec_BuddyinfoPrint.l0 k x0 acc' l n ((i + 1 : Nat) : Int)) res → Ev (fun k => spec_BuddyinfoPrint.l1 k x0 acc l n (i : Int) ns (ns.length : Int) (j : Int)) res := by
  obtain ⟨nl, hnl⟩ : ∃ nl : ByteArray, nl = (⟨#[10]⟩ : ByteArray) := ⟨_, rfl⟩
  have hnls : nl.size = 1 := by rw [hnl]; rfl
  obtain ⟨sp, hsp⟩ : ∃ sp : ByteArray, sp = (⟨#[32]⟩ : ByteArray) := ⟨_, rfl⟩
  have hsps : sp.size = 1 := by rw [hsp]; rfl
  induction d with
  | zero =>
    intro acc j h1 hd ha
    have hj2 : j * 1000 ≤ 100000 * 1000 := Nat.mul_le_mul_right _ (by omega)
    refine ⟨acc ++ nl, by rw [ByteArray.size_append]; omega, fun res h => Ev.step (fun k => ?_) h⟩
    simp only [spec_BuddyinfoPrint.l1]
    rw [if_neg (by omega), if_pos (by omega), hnl, wrap_in (by omega) (by omega)]
    rfl
  | succ d ih =>
    intro acc j h1 hd ha
    have hj2 : j * 1000 ≤ 100000 * 1000 := Nat.mul_le_mul_right _ (by omega)
    have hj : j < ns.length := by omega
    have hr : rd ns (j : Int) = ns.getD j 0 := by simp [rd]
    have hm : ns.getD j 0 ∈ ns := by rw [List.getD_eq_getElem?_getD, List.getElem?_eq_getElem hj]; exact List.getElem_mem hj
    obtain ⟨v0, v1⟩ := hv _ hm
    generalize ns.getD j 0 = v at hr v0 v1
    obtain ⟨t, hT, hts⟩ := text_ev v v0 v1
    obtain ⟨u, hU, hus⟩ := right_is t (by omega) 6 (by decide)
    obtain ⟨acc', hs, hE⟩ := ih (acc ++ (u ++ sp)) (j + 1) (by omega) (by omega) (by rw [ByteArray.size_append, ByteArray.size_append]; omega)
    rw [ByteArray.size_append, ByteArray.size_append] at hs
    refine ⟨acc', by omega, fun res h => Ev.step (f := fun k => (spec_Text.f k v).bind fun t116 => ((spec_Right.f k t116 6).bind fun t117 => (if t117.size + 1 ≤ 9223372036854775807 then (if acc.size + (t117 ++ sp).size ≤ 9223372036854775807 then (spec_BuddyinfoPrint.l1 k x0 (acc ++ (t117 ++ sp)) l n (i : Int) ns (ns.length : Int) ((j + 1 : Nat) : Int)) else (none)) else (none)))) (fun k => ?_) (Ev.bind hT (Ev.bind hU (Ev.congr (fun k => ?_) (hE res h))))⟩
    · simp only [spec_BuddyinfoPrint.l1]
      rw [if_pos (by omega), if_pos (by omega), if_pos (by omega), hr, wrap_in (by omega) (by omega), hsp]
      rfl
    · rw [if_pos (by omega), if_pos (by rw [ByteArray.size_append]; omega)]
/-- One row, written. -/
theorem row_go (x0 l : List S48) (n : Int) (i : Nat) (hi : i ≤ 200000) (hx0 : 0 < x0.length) (r : S48) (hr : RB r) (acc : ByteArray) (ha : acc.size ≤ 1000000000000000) :
    ∃ (b : Bool) (acc' : ByteArray), (b = true → r.f1.length = (rd_T48 x0 0).f1.length ∧ ∀ v ∈ r.f1, v < 1099511627776) ∧ acc'.size ≤ acc.size + 200000000 ∧
    ∀ res, (b = true → Ev (fun k => spec_BuddyinfoPrint.l0 k x0 acc' l n ((i + 1 : Nat) : Int)) res) → (b = false → res = ((⟨#[]⟩ : ByteArray), 2)) →
      Ev (fun k => (if ((r.f2).length : Int) = 2 then ((spec_words.f k (r.f2)).bind fun t105 => (if t105 = true then (if 0 < ((r.f2).length : Int) then ((spec_Where.f k (rdOf ByteArray.empty (r.f2) 0) 44).bind fun t107 => (if t107 ≥ 0 then (spec_BuddyinfoPrint.j1 k x0 acc l n (i : Int) true (r.f0) (r.f1) (r.f2)) else (if 1 < ((r.f2).length : Int) then ((spec_Where.f k (rdOf ByteArray.empty (r.f2) 1) 44).bind fun t109 => (if t109 ≥ 0 then (spec_BuddyinfoPrint.j1 k x0 acc l n (i : Int) true (r.f0) (r.f1) (r.f2)) else (if ((r.f1).length : Int) < 1 then (none) else (if 0 < (x0.length : Int) then (if ((r.f1).length : Int) = (((rd_T48 x0 0).f1).length : Int) then ((spec_small.f k 1099511627776 (r.f1)).bind fun t111 => (spec_BuddyinfoPrint.j1 k x0 acc l n (i : Int) (!t111) (r.f0) (r.f1) (r.f2))) else (spec_BuddyinfoPrint.j1 k x0 acc l n (i : Int) true (r.f0) (r.f1) (r.f2))) else (none))))) else (none)))) else (none)) else (spec_BuddyinfoPrint.j1 k x0 acc l n (i : Int) true (r.f0) (r.f1) (r.f2)))) else (none))) res := by
  obtain ⟨p, q, h2, hp, hq⟩ := hr.two
  obtain ⟨wb, hW⟩ := words_is p q hp hq
  obtain ⟨r1, hW1⟩ := where_is p (by omega) 44
  obtain ⟨r2, hW2⟩ := where_is q (by omega) 44
  obtain ⟨sb, hS, hSp⟩ := small_is 1099511627776 r.f1 (by have := hr.n; omega)
  have hpos := hr.pos
  rw [h2]
  have bad : ∀ res, res = ((⟨#[]⟩ : ByteArray), (2 : Int)) → Ev (fun k => spec_BuddyinfoPrint.j1 k x0 acc l n (i : Int) true (r.f0) (r.f1) [p, q]) res := fun res h => by
    rw [h]
    exact Ev.step (f := fun _ => some ((⟨#[]⟩ : ByteArray), 2)) (fun k => by simp only [spec_BuddyinfoPrint.j1]; rw [if_pos trivial]) (Ev.now _)
  have e0 : rdOf ByteArray.empty [p, q] 0 = p := rfl
  have e1 : rdOf ByteArray.empty [p, q] 1 = q := rfl
  have g1 : (([p, q] : List ByteArray).length : Int) = 2 := rfl
  have no : ∃ acc' : ByteArray, acc'.size ≤ acc.size + 200000000 := ⟨ByteArray.empty, by show 0 ≤ _; omega⟩
  obtain ⟨z, hz⟩ := no
  cases wb with
  | false =>
    refine ⟨false, z, fun h => (by cases h), hz, fun res _ hb => ?_⟩
    exact Ev.congr (fun k => by rw [if_pos g1]) (Ev.bind hW (Ev.congr (fun k => by rw [if_neg (by simp)]) (bad res (hb rfl))))
  | true =>
    by_cases c1 : r1 ≥ 0
    · refine ⟨false, z, fun h => (by cases h), hz, fun res _ hb => ?_⟩
      exact Ev.congr (fun k => by rw [if_pos g1]) (Ev.bind hW (Ev.congr (fun k => by rw [if_pos rfl, if_pos (by rw [g1]; decide), e0]) (Ev.bind hW1 (Ev.congr (fun k => by rw [if_pos c1]) (bad res (hb rfl))))))
    · by_cases c2 : r2 ≥ 0
      · refine ⟨false, z, fun h => (by cases h), hz, fun res _ hb => ?_⟩
        exact Ev.congr (fun k => by rw [if_pos g1]) (Ev.bind hW (Ev.congr (fun k => by rw [if_pos rfl, if_pos (by rw [g1]; decide), e0]) (Ev.bind hW1 (Ev.congr (fun k => by rw [if_neg c1, if_pos (by rw [g1]; decide), e1]) (Ev.bind hW2 (Ev.congr (fun k => by rw [if_pos c2]) (bad res (hb rfl))))))))
      · by_cases c3 : ((r.f1).length : Int) = (((rd_T48 x0 0).f1).length : Int)
        · have hup : ∀ res, Ev (fun k => spec_BuddyinfoPrint.j1 k x0 acc l n (i : Int) (!sb) (r.f0) (r.f1) [p, q]) res → Ev (fun k => (if (([p, q] : List ByteArray).length : Int) = 2 then ((spec_words.f k [p, q]).bind fun t105 => (if t105 = true then (if 0 < (([p, q] : List ByteArray).length : Int) then ((spec_Where.f k (rdOf ByteArray.empty [p, q] 0) 44).bind fun t107 => (if t107 ≥ 0 then (spec_BuddyinfoPrint.j1 k x0 acc l n (i : Int) true (r.f0) (r.f1) [p, q]) else (if 1 < (([p, q] : List ByteArray).length : Int) then ((spec_Where.f k (rdOf ByteArray.empty [p, q] 1) 44).bind fun t109 => (if t109 ≥ 0 then (spec_BuddyinfoPrint.j1 k x0 acc l n (i : Int) true (r.f0) (r.f1) [p, q]) else (if ((r.f1).length : Int) < 1 then (none) else (if 0 < (x0.length : Int) then (if ((r.f1).length : Int) = (((rd_T48 x0 0).f1).length : Int) then ((spec_small.f k 1099511627776 (r.f1)).bind fun t111 => (spec_BuddyinfoPrint.j1 k x0 acc l n (i : Int) (!t111) (r.f0) (r.f1) [p, q])) else (spec_BuddyinfoPrint.j1 k x0 acc l n (i : Int) true (r.f0) (r.f1) [p, q])) else (none))))) else (none)))) else (none)) else (spec_BuddyinfoPrint.j1 k x0 acc l n (i : Int) true (r.f0) (r.f1) [p, q]))) else (none))) res := fun res h =>
            Ev.congr (fun k => by rw [if_pos g1]) (Ev.bind hW (Ev.congr (fun k => by rw [if_pos rfl, if_pos (by rw [g1]; decide), e0]) (Ev.bind hW1 (Ev.congr (fun k => by rw [if_neg c1, if_pos (by rw [g1]; decide), e1]) (Ev.bind hW2 (Ev.congr (fun k => by rw [if_neg c2, if_neg (by omega), if_pos (by omega), if_pos c3]) (Ev.bind hS h)))))))
          cases sb with
          | false =>
            refine ⟨false, z, fun h => (by cases h), hz, fun res _ hb => hup res (bad res (hb rfl))⟩
          | true =>
            obtain ⟨c5, hc5⟩ : ∃ c : ByteArray, c = (⟨#[78, 111, 100, 101, 32]⟩ : ByteArray) := ⟨_, rfl⟩
            have hs5 : c5.size = 5 := by rw [hc5]; rfl
            obtain ⟨c7, hc7⟩ : ∃ c : ByteArray, c = (⟨#[44, 32, 122, 111, 110, 101, 32]⟩ : ByteArray) := ⟨_, rfl⟩
            have hs7 : c7.size = 7 := by rw [hc7]; rfl
            obtain ⟨sp, hsp⟩ : ∃ c : ByteArray, c = (⟨#[32]⟩ : ByteArray) := ⟨_, rfl⟩
            have hs1 : sp.size = 1 := by rw [hsp]; rfl
            obtain ⟨u, hU, hus⟩ := right_is q (by omega) 8 (by decide)
            have hx : (acc ++ ((((c5 ++ p) ++ c7) ++ u) ++ sp)).size ≤ acc.size + 200000 := by
              simp only [ByteArray.size_append]
              omega
            obtain ⟨acc', hs, hE⟩ := nums_go x0 l n i hi r.f1 hr.n hr.rng r.f1.length (acc ++ ((((c5 ++ p) ++ c7) ++ u) ++ sp)) 0 (by omega) (by omega) (by omega)
            have hrn := hr.n
            have hmul : r.f1.length * 1000 ≤ 100000 * 1000 := Nat.mul_le_mul_right _ hrn
            refine ⟨true, acc', fun _ => ⟨by omega, hSp rfl⟩, by omega, fun res hg _ => hup res ?_⟩
            refine Ev.step (f := fun k => (spec_Right.f k q 8).bind fun t114 => (if (((c5 ++ p) ++ c7)).size + t114.size ≤ 9223372036854775807 then (if ((((c5 ++ p) ++ c7)) ++ t114).size + 1 ≤ 9223372036854775807 then (if acc.size + (((((c5 ++ p) ++ c7)) ++ t114) ++ sp).size ≤ 9223372036854775807 then (spec_BuddyinfoPrint.l1 k x0 (acc ++ (((((c5 ++ p) ++ c7)) ++ t114) ++ sp)) l n (i : Int) r.f1 (r.f1.length : Int) 0) else (none)) else (none)) else (none))) (fun k => ?_) (Ev.bind hU (Ev.congr (fun k => ?_) (hE res (hg rfl))))
            · simp only [spec_BuddyinfoPrint.j1]
              rw [if_neg (by simp), if_pos (by rw [g1]; decide), e0, if_pos (by omega), ← hc5, if_pos (by rw [ByteArray.size_append]; omega), if_pos (by rw [g1]; decide), e1, ← hc7, ← hsp]
            · rw [if_pos (by simp only [ByteArray.size_append]; omega), if_pos (by simp only [ByteArray.size_append]; omega), if_pos (by simp only [ByteArray.size_append]; omega)]
              rfl
        · refine ⟨false, z, fun h => (by cases h), hz, fun res _ hb => ?_⟩
          exact Ev.congr (fun k => by rw [if_pos g1]) (Ev.bind hW (Ev.congr (fun k => by rw [if_pos rfl, if_pos (by rw [g1]; decide), e0]) (Ev.bind hW1 (Ev.congr (fun k => by rw [if_neg c1, if_pos (by rw [g1]; decide), e1]) (Ev.bind hW2 (Ev.congr (fun k => by rw [if_neg c2, if_neg (by omega), if_pos (by omega), if_neg c3]) (bad res (hb rfl))))))))
theorem print_go (l : List S48) (hl : l.length ≤ 100000) (hb : ∀ r ∈ l, RB r) (d : Nat) : ∀ (acc : ByteArray) (i : Nat), i ≤ l.length → l.length - i = d → acc.size ≤ 1000 + i * 200000000 →
    ∃ (s : ByteArray) (t : Int), Ev (fun k => spec_BuddyinfoPrint.l0 k l acc l (l.length : Int) (i : Int)) (s, t) ∧ (t = 1 → ∀ r ∈ l.drop i, r.f1.length = (rd_T48 l 0).f1.length ∧ ∀ v ∈ r.f1, v < 1099511627776) := by
  induction d with
  | zero =>
    intro acc i h1 hd ha
    refine ⟨acc, 1, Ev.step (f := fun _ => some (acc, 1)) (fun k => ?_) (Ev.now _), fun _ r hr => ?_⟩
    · simp only [spec_BuddyinfoPrint.l0]
      rw [if_neg (by omega)]
    · rw [List.drop_of_length_le (by omega)] at hr; cases hr
  | succ d ih =>
    intro acc i h1 hd ha
    have hi : i < l.length := by omega
    have hm : l.getD i z48 ∈ l := by
      rw [List.getD_eq_getElem?_getD, List.getElem?_eq_getElem hi]
      exact List.getElem_mem hi
    have hr : rd_T48 l (i : Int) = l.getD i z48 := by simp [rd_T48]
    have hi2 : i * 200000000 ≤ 100000 * 200000000 := Nat.mul_le_mul_right _ (by omega)
    have hdr : l.drop i = l.getD i z48 :: l.drop (i + 1) := drop_list l z48 i hi
    rw [hdr]
    obtain ⟨b, acc', hB, hsz, hE⟩ := row_go l l (l.length : Int) i (by omega) (by omega) (l.getD i z48) (hb _ hm) acc (by omega)
    generalize l.getD i z48 = r at hr hB hE
    cases b with
    | false =>
      refine ⟨⟨#[]⟩, 2, Ev.step (fun k => ?_) (hE ((⟨#[]⟩ : ByteArray), 2) (fun h => by cases h) (fun _ => rfl)), fun h => by omega⟩
      simp only [spec_BuddyinfoPrint.l0]
      rw [if_pos (by omega), if_pos (by omega), if_pos (by omega), hr]
    | true =>
      obtain ⟨s, t, hS, hT⟩ := ih acc' (i + 1) (by omega) (by omega) (by omega)
      refine ⟨s, t, Ev.step (fun k => ?_) (hE (s, t) (fun _ => hS) (fun h => by cases h)), fun h r' hr' => ?_⟩
      · simp only [spec_BuddyinfoPrint.l0]
        rw [if_pos (by omega), if_pos (by omega), if_pos (by omega), hr]
      · rcases List.mem_cons.1 hr' with rfl | hr'
        · exact hB rfl
        · exact hT h r' hr'
theorem print_is (l : List S48) (hl : l.length ≤ 100000) (hb : ∀ r ∈ l, RB r) : ∃ (s : ByteArray) (t : Int), Ev (fun k => spec_BuddyinfoPrint.f k l) (s, t) ∧ (t = 1 → ∀ r ∈ l, r.f1.length = (rd_T48 l 0).f1.length ∧ ∀ v ∈ r.f1, v < 1099511627776) := by
  obtain ⟨s, t, h1, h2⟩ := print_go l hl hb l.length (⟨#[]⟩ : ByteArray) 0 (by omega) (by omega) (by decide)
  exact ⟨s, t, h1, by simpa using h2⟩
def Told (a0 : ByteArray) (l : List S48) (ok : Bool) (told : Int) : Prop := told = 1 → ok = true ∧ Ev (fun k => spec_BuddyinfoPrint.f k l) (a0, 1) ∧ ∃ (n1 : ByteArray) (n2 : Int) (n3 : Bool) (n4 n5 : Int) (n6 : Nat) (n7 : ByteArray) (n8 : List S35), Ev (fun k => impl_Buddyinfo.f k a0) (n1, n2, n3, n4, n5, n6, n7, n8, 0) ∧ good 3 n8
theorem meant_is (a0 : ByteArray) (ha : a0.size ≤ 40000) (rows : List S48) (hl : rows.length ≤ 100000) (hb : ∀ r ∈ rows, RB r) (hall : all2 LineOk (linesL a0.data.toList) (rows.map fun r => r.f1)) : ∃ (l : List S48) (ok2 : Bool) (told : Int), Ev (fun k => spec_meant__BuddyinfoPrint.f k a0 rows true false) (l, ok2, told) ∧ Told a0 l ok2 told := by
  obtain ⟨s, t, hPr, ht⟩ := print_is rows hl hb
  obtain ⟨pb, hPl, hPb⟩ := plain_ev a0 (by omega)
  have no : Told a0 [] false 2 := fun h => by omega
  have h1 : ∀ res, Ev (fun k => spec_meant__BuddyinfoPrint.j0 k a0 rows false (!pb)) res → Ev (fun k => spec_meant__BuddyinfoPrint.f k a0 rows true false) res := fun res h =>
    Ev.congr (f := fun k => (spec_Plain.f k a0).bind fun t133 => (spec_meant__BuddyinfoPrint.j0 k a0 rows false (!t133))) (fun k => by unfold spec_meant__BuddyinfoPrint.f; rw [if_pos rfl]) (Ev.bind hPl h)
  cases pb with
  | false =>
    refine ⟨[], false, 2, h1 _ (Ev.step (f := fun _ => some ([], false, 2)) (fun k => ?_) (Ev.now _)), no⟩
    simp only [spec_meant__BuddyinfoPrint.j0]
    rw [if_pos (by rfl)]
  | true =>
    have hj : ∀ res, Ev (fun k => (spec_BuddyinfoPrint.f k rows).bind fun bt134 => (if bt134.2 = 1 then (if bt134.1.toList = a0.toList then (some (rows, true, 1)) else (some (([] : List (S48)), false, 2))) else (some (([] : List (S48)), false, 2)))) res → Ev (fun k => spec_meant__BuddyinfoPrint.f k a0 rows true false) res := by
      intro res h
      refine h1 _ (Ev.step (fun k => ?_) h)
      simp only [spec_meant__BuddyinfoPrint.j0]
      rw [if_neg (by simp)]
      simp
    by_cases c : t = 1
    · by_cases c2 : s.toList = a0.toList
      · have hs : s = a0 := (toList_eq_iff _ _).1 c2
        subst hs
        have hrow := ht c
        subst c
        refine ⟨rows, true, 1, hj _ (Ev.bind hPr (Ev.congr (f := fun _ => some (rows, true, 1)) (fun k => by dsimp only; rw [if_pos rfl, if_pos rfl]) (Ev.now _))), fun _ => ⟨rfl, hPr, door_ok s ha (hPb rfl) _ hall (rd_T48 rows 0).f1.length (fun ns hns => ?_) (fun ns hns => ?_)⟩⟩
        · obtain ⟨r, hr, rfl⟩ := List.mem_map.1 hns
          exact (hrow r hr).1
        · obtain ⟨r, hr, rfl⟩ := List.mem_map.1 hns
          exact (hrow r hr).2
      · exact ⟨[], false, 2, hj _ (Ev.bind hPr (Ev.congr (f := fun _ => some ([], false, 2)) (fun k => by dsimp only; rw [if_pos c, if_neg c2]) (Ev.now _))), no⟩
    · exact ⟨[], false, 2, hj _ (Ev.bind hPr (Ev.congr (f := fun _ => some ([], false, 2)) (fun k => by dsimp only; rw [if_neg c]) (Ev.now _))), no⟩
theorem ends_is (a c : ByteArray) (h : a.size ≤ 100000) (hc : c.size = 1) : ∃ b, spec_Ends.f a c = some b ∧ (b = true → 1 ≤ a.size) := by
  unfold spec_Ends.f
  by_cases k : (a.size : Int) ≥ (c.size : Int)
  · rw [if_pos k, wrap_in (by omega) (by omega), if_pos (by omega), if_pos (by omega)]
    exact ⟨_, rfl, fun _ => by omega⟩
  · rw [if_neg k]
    exact ⟨_, rfl, fun h => by cases h⟩
theorem read_go (a0 : ByteArray) (ha : a0.size ≤ 40000) (L : List ByteArray) (hL : L = (linesL a0.data.toList).map toB) (hl : L.length ≤ 40001) (hs : ∀ x ∈ linesL a0.data.toList, x.length ≤ 40000) (d : Nat) : ∀ (out : List S48) (i : Nat), i ≤ L.length → L.length - i = d → out.length = i → (∀ r ∈ out, RB r) → all2 LineOk ((linesL a0.data.toList).take i) (out.map fun r => r.f1) →
    ∃ (l : List S48) (ok : Bool) (told : Int), Ev (fun k => spec_BuddyinfoRead.l0 k a0 out L (L.length : Int) (i : Int)) (l, ok, told) ∧ Told a0 l ok told := by
  induction d with
  | zero =>
    intro out i h1 hd ho hb hall
    have hll : L.length = (linesL a0.data.toList).length := by rw [hL, List.length_map]
    rw [List.take_of_length_le (by omega)] at hall
    obtain ⟨l, ok2, told, hM, hT⟩ := meant_is a0 ha out (by omega) hb hall
    refine ⟨l, ok2, told, Ev.step (f := fun k => (spec_meant__BuddyinfoPrint.f k a0 out true false).bind fun bt124 => (some (bt124.1, bt124.2.1, bt124.2.2))) (fun k => ?_) (Ev.bind hM (Ev.now _)), hT⟩
    simp only [spec_BuddyinfoRead.l0]
    rw [if_neg (by omega)]
  | succ d ih =>
    intro out i h1 hd ho hb hall
    have hll : L.length = (linesL a0.data.toList).length := by rw [hL, List.length_map]
    have hi : i < (linesL a0.data.toList).length := by omega
    have hlast : (linesL a0.data.toList).take (i + 1) = (linesL a0.data.toList).take i ++ [(linesL a0.data.toList)[i]'hi] := by
      rw [List.take_add_one, List.getElem?_eq_getElem hi]
      rfl
    have hrd : rdOf ByteArray.empty L (i : Int) = toB ((linesL a0.data.toList)[i]'hi) := by
      rw [hL]
      unfold rdOf
      rw [Int.toNat_natCast, List.getD_eq_getElem?_getD, List.getElem?_map, List.getElem?_eq_getElem hi]
      rfl
    have hxs := hs _ (List.getElem_mem hi)
    generalize (linesL a0.data.toList)[i]'hi = x at hlast hrd hxs
    have hF := fields_ev (toB x) (by rw [toB_size]; omega)
    rw [toB_data] at hF
    have hfs : ∀ y ∈ (wordsL x).map toB, y.size ≤ 40000 := by
      intro y hy
      obtain ⟨w, hw, rfl⟩ := List.mem_map.1 hy
      have := (wordsGo_mem _ [] w hw).2.1
      rw [toB_size]
      simp at this
      omega
    have hfl : ((wordsL x).map toB).length = (wordsL x).length := List.length_map _
    have hws : (wordsL x).length ≤ 40001 := by
      have := wordsGo_size x []
      unfold wordsL
      omega
    have hline : ∀ ns, 5 ≤ ((wordsL x).map toB).length → allDec (((wordsL x).map toB).drop 4) ns → LineOk x ns := fun ns h1 h2 => ⟨by rw [← hfl]; exact h1, h2⟩
    generalize (wordsL x).map toB = f at hF hfs hfl hline
    have nob : Told a0 [] false 2 := fun h => by omega
    have bad : Ev (fun k => spec_BuddyinfoRead.j1 k a0 out f L (L.length : Int) (i : Int) true) ([], false, 2) := Ev.step (f := fun _ => some ([], false, 2)) (fun k => by simp only [spec_BuddyinfoRead.j1]; rw [if_pos trivial]) (Ev.now _)
    have hstep : ∀ res, Ev (fun k => (if (f.length : Int) < 5 then (spec_BuddyinfoRead.j1 k a0 out f L (L.length : Int) (i : Int) true) else (if 0 < (f.length : Int) then (if (rdOf ByteArray.empty f 0).toList = ([78, 111, 100, 101] : List UInt8) then (if 1 < (f.length : Int) then ((spec_Ends.f (rdOf ByteArray.empty f 1) (⟨#[44]⟩ : ByteArray)).bind fun t135 => (if t135 = true then (if 2 < (f.length : Int) then (spec_BuddyinfoRead.j1 k a0 out f L (L.length : Int) (i : Int) ((rdOf ByteArray.empty f 2).toList != ([122, 111, 110, 101] : List UInt8))) else (none)) else (spec_BuddyinfoRead.j1 k a0 out f L (L.length : Int) (i : Int) true))) else (none)) else (spec_BuddyinfoRead.j1 k a0 out f L (L.length : Int) (i : Int) true)) else (none)))) res → Ev (fun k => spec_BuddyinfoRead.l0 k a0 out L (L.length : Int) (i : Int)) res := fun res h => by
      refine Ev.step (f := fun k => (spec_Fields.f k (toB x)).bind fun t130 => (if (t130.length : Int) < 5 then (spec_BuddyinfoRead.j1 k a0 out t130 L (L.length : Int) (i : Int) true) else (if 0 < (t130.length : Int) then (if (rdOf ByteArray.empty t130 0).toList = ([78, 111, 100, 101] : List UInt8) then (if 1 < (t130.length : Int) then ((spec_Ends.f (rdOf ByteArray.empty t130 1) (⟨#[44]⟩ : ByteArray)).bind fun t135 => (if t135 = true then (if 2 < (t130.length : Int) then (spec_BuddyinfoRead.j1 k a0 out t130 L (L.length : Int) (i : Int) ((rdOf ByteArray.empty t130 2).toList != ([122, 111, 110, 101] : List UInt8))) else (none)) else (spec_BuddyinfoRead.j1 k a0 out t130 L (L.length : Int) (i : Int) true))) else (none)) else (spec_BuddyinfoRead.j1 k a0 out t130 L (L.length : Int) (i : Int) true)) else (none)))) (fun k => ?_) (Ev.bind hF h)
      simp only [spec_BuddyinfoRead.l0]
      rw [if_pos (by omega), if_pos (by omega), if_pos (by omega), hrd]
    by_cases c5 : (f.length : Int) < 5
    · exact ⟨[], false, 2, hstep _ (Ev.congr (fun k => by rw [if_pos c5]) bad), nob⟩
    · have hmem : ∀ j : Nat, j < f.length → (rdOf ByteArray.empty f (j : Int)).size ≤ 40000 := by
        intro j hj
        refine hfs _ ?_
        unfold rdOf
        rw [Int.toNat_natCast, List.getD_eq_getElem?_getD, List.getElem?_eq_getElem hj]
        exact List.getElem_mem hj
      have hm1 : (rdOf ByteArray.empty f 1).size ≤ 40000 := hmem 1 (by omega)
      have hm3 : (rdOf ByteArray.empty f 3).size ≤ 40000 := hmem 3 (by omega)
      by_cases c0 : (rdOf ByteArray.empty f 0).toList = ([78, 111, 100, 101] : List UInt8)
      · obtain ⟨eb, hEn, hE1⟩ := ends_is (rdOf ByteArray.empty f 1) (⟨#[44]⟩ : ByteArray) (by omega) rfl
        cases eb with
        | false => exact ⟨[], false, 2, hstep _ (Ev.congr (fun k => by rw [if_neg c5, if_pos (by omega), if_pos c0, if_pos (by omega), hEn]; simp only [Option.bind_some]; rw [if_neg (by simp)]) bad), nob⟩
        | true =>
          have h1s := hE1 rfl
          have hstep2 : ∀ (bb : Bool) res, bb = ((rdOf ByteArray.empty f 2).toList != ([122, 111, 110, 101] : List UInt8)) → Ev (fun k => spec_BuddyinfoRead.j1 k a0 out f L (L.length : Int) (i : Int) bb) res → Ev (fun k => spec_BuddyinfoRead.l0 k a0 out L (L.length : Int) (i : Int)) res := fun bb res e h => hstep res (Ev.congr (fun k => by rw [if_neg c5, if_pos (by omega), if_pos c0, if_pos (by omega), hEn]; simp only [Option.bind_some]; rw [if_pos trivial, if_pos (by omega), ← e]) h)
          cases hbb : ((rdOf ByteArray.empty f 2).toList != ([122, 111, 110, 101] : List UInt8)) with
          | true => exact ⟨[], false, 2, hstep2 true _ hbb.symm bad, nob⟩
          | false =>
            obtain ⟨ns, ok, hD, hok⟩ := decimals_ev (f.drop 4) (by rw [List.length_drop]; omega) (fun y hy => by have := hfs y (List.mem_of_mem_drop hy); omega)
            have hj : ∀ res, Ev (fun k => (spec_decimals.f k (f.drop 4)).bind fun bt141 => (if bt141.2 = true then (spec_BuddyinfoRead.l0 k a0 (out ++ [(⟨(⟨#[]⟩ : ByteArray), bt141.1, (([(rdOf ByteArray.empty f 1).extract 0 ((rdOf ByteArray.empty f 1).size - 1), rdOf ByteArray.empty f 3] : List ByteArray))⟩ : S48)]) L (L.length : Int) ((i + 1 : Nat) : Int)) else (some (([] : List (S48)), false, 2)))) res → Ev (fun k => spec_BuddyinfoRead.l0 k a0 out L (L.length : Int) (i : Int)) res := fun res h => by
              refine hstep2 false res hbb.symm (Ev.step (fun k => ?_) h)
              simp only [spec_BuddyinfoRead.j1]
              rw [if_neg (by simp), if_pos (by omega)]
              congr 1
              funext t
              by_cases ct : t.2 = true
              · rw [if_pos ct, if_pos ct, if_pos (by omega), wrap_in (by omega) (by omega), if_pos (by omega), if_pos (by omega), if_pos (by omega), if_pos (by omega), wrap_in (by omega) (by omega), show (((rdOf ByteArray.empty f 1).size : Int) - 1).toNat = (rdOf ByteArray.empty f 1).size - 1 by omega]
                rfl
              · rw [if_neg ct, if_neg ct]
            cases ok with
            | false => exact ⟨[], false, 2, hj _ (Ev.bind hD (Ev.congr (f := fun _ => some ([], false, 2)) (fun k => by rw [if_neg (by simp)]) (Ev.now _))), nob⟩
            | true =>
              have hall2 := hok rfl
              have hnl := allDec_len _ _ hall2
              rw [List.length_drop] at hnl
              obtain ⟨l, ok2, told, hE, hT⟩ := ih (out ++ [(⟨(⟨#[]⟩ : ByteArray), ns, (([(rdOf ByteArray.empty f 1).extract 0 ((rdOf ByteArray.empty f 1).size - 1), rdOf ByteArray.empty f 3] : List ByteArray))⟩ : S48)]) (i + 1) (by omega) (by omega) (by simp [ho]) (fun r hr => by
                rcases List.mem_append.1 hr with hr | hr
                · exact hb r hr
                · rw [List.mem_singleton.1 hr]
                  refine ⟨by show ns.length ≤ 100000; omega, by show 0 < ns.length; omega, fun v hv => ?_, ⟨_, _, rfl, by rw [ByteArray.size_extract]; omega, by omega⟩⟩
                  obtain ⟨j, hj2, rfl⟩ := List.getElem_of_mem hv
                  have hj3 : j < ns.length := hj2
                  have := allDec_get _ _ hall2 j (by rw [List.length_drop]; omega)
                  rw [List.getD_eq_getElem?_getD (l := ns), List.getElem?_eq_getElem hj2] at this
                  exact ⟨this.1, this.2.1⟩) (by
                rw [hlast, List.map_append]
                exact all2_snoc _ _ _ _ hall (hline ns (by omega) hall2))
              exact ⟨l, ok2, told, hj _ (Ev.bind hD (Ev.congr (fun k => by rw [if_pos rfl]) hE)), hT⟩
      · exact ⟨[], false, 2, hstep _ (Ev.congr (fun k => by rw [if_neg c5, if_pos (by omega), if_neg c0]) bad), nob⟩
theorem read_ev (a0 : ByteArray) (ha : a0.size ≤ 40000) : ∃ (l : List S48) (ok : Bool) (told : Int), Ev (fun k => spec_BuddyinfoRead.f k a0) (l, ok, told) ∧ Told a0 l ok told := by
  have hlen := len_data a0
  have hL := lines_ev a0 (by omega)
  have hc : ((linesL a0.data.toList).map toB).length ≤ 40001 := by
    have := lines_count a0.data.toList []
    rw [List.length_map]
    unfold linesL
    omega
  obtain ⟨l, ok, told, hE, hT⟩ := read_go a0 ha _ rfl hc (fun x hx => by
    have := linesGo_len _ [] x hx
    simp at this
    omega) _ [] 0 (by omega) rfl rfl (fun r h => by cases h) (by rw [List.take_zero]; trivial)
  exact ⟨l, ok, told, Ev.bind hL hE, hT⟩
theorem normal_ev (a0 : ByteArray) : Ev (fun k => laws_normal__Buddyinfo.f k a0) true := by
  by_cases c : (a0.size : Int) > 40000
  · exact Ev.congr (f := fun _ => some true) (fun k => by unfold laws_normal__Buddyinfo.f; rw [if_pos c]) (Ev.now _)
  · obtain ⟨l, ok, told, hR, hprop⟩ := read_ev a0 (by omega)
    have hpre : ∀ (h : Ev (fun k => if told = 1 then (laws_normal__Buddyinfo.j0 k a0 l (!ok)) else (laws_normal__Buddyinfo.j0 k a0 l true)) true), Ev (fun k => laws_normal__Buddyinfo.f k a0) true := fun h =>
      Ev.congr (fun k => by unfold laws_normal__Buddyinfo.f; rw [if_neg c]) (Ev.bind hR h)
    by_cases ct : told = 1
    · obtain ⟨rfl, hPr, n1, n2, n3, n4, n5, n6, n7, n8, hD, hg⟩ := hprop ct
      obtain ⟨l', g', hN⟩ := toNode_ev 3 n8 hg
      have hS := same_ev 3 l' g' n1 n2 n3 n4 n5 n6 n7
      refine hpre (Ev.congr (f := fun k => laws_normal__Buddyinfo.j0 k a0 l false) (fun k => by rw [if_pos ct]; rfl) (Ev.step (f := fun k => (spec_BuddyinfoPrint.f k l).bind fun bt218 => (if bt218.2 = 1 then (laws_normal__Buddyinfo.j1 k a0 bt218.1 (decide ((bt218.1.size : Int) > 40000))) else (laws_normal__Buddyinfo.j1 k a0 bt218.1 true))) (fun k => by simp only [laws_normal__Buddyinfo.j0]; rw [if_neg (by simp)]) (Ev.bind hPr ?_)))
      refine Ev.congr (f := fun k => laws_normal__Buddyinfo.j1 k a0 a0 false) (fun k => by dsimp only; rw [if_pos rfl, decide_eq_false c]) ?_
      refine Ev.step (f := fun k => (impl_Buddyinfo.f k a0).bind fun bt159 => ((impl_Buddyinfo.f k a0).bind fun bt171 => (if bt159.2.2.2.2.2.2.2.2 = 0 then (if bt171.2.2.2.2.2.2.2.2 = 0 then ((laws_toNode.f k bt159.1 bt159.2.1 bt159.2.2.1 bt159.2.2.2.1 bt159.2.2.2.2.1 bt159.2.2.2.2.2.1 bt159.2.2.2.2.2.2.1 bt159.2.2.2.2.2.2.2.1).bind fun bt183 => ((laws_toNode.f k bt171.1 bt171.2.1 bt171.2.2.1 bt171.2.2.2.1 bt171.2.2.2.2.1 bt171.2.2.2.2.2.1 bt171.2.2.2.2.2.2.1 bt171.2.2.2.2.2.2.2.1).bind fun bt193 => ((spec_SameNode.f k bt183.1 bt183.2.1 bt183.2.2.1 bt183.2.2.2.1 bt183.2.2.2.2.1 bt183.2.2.2.2.2.1 bt183.2.2.2.2.2.2.1 bt183.2.2.2.2.2.2.2 bt193.1 bt193.2.1 bt193.2.2.1 bt193.2.2.2.1 bt193.2.2.2.2.1 bt193.2.2.2.2.2.1 bt193.2.2.2.2.2.2.1 bt193.2.2.2.2.2.2.2).bind fun t203 => (if t203 = true then ((laws_lives.f).bind fun t204 => (some t204)) else (none))))) else (none)) else (none)))) (fun k => by simp only [laws_normal__Buddyinfo.j1]; rw [if_neg (by simp)]) ?_
      refine Ev.bind hD (Ev.bind hD ?_)
      refine Ev.congr (f := fun k => (laws_toNode.f k n1 n2 n3 n4 n5 n6 n7 n8).bind fun bt245 => ((laws_toNode.f k n1 n2 n3 n4 n5 n6 n7 n8).bind fun bt255 => ((spec_SameNode.f k bt245.1 bt245.2.1 bt245.2.2.1 bt245.2.2.2.1 bt245.2.2.2.2.1 bt245.2.2.2.2.2.1 bt245.2.2.2.2.2.2.1 bt245.2.2.2.2.2.2.2 bt255.1 bt255.2.1 bt255.2.2.1 bt255.2.2.2.1 bt255.2.2.2.2.1 bt255.2.2.2.2.2.1 bt255.2.2.2.2.2.2.1 bt255.2.2.2.2.2.2.2).bind fun t265 => (if t265 = true then ((laws_lives.f).bind fun t266 => (some t266)) else (none))))) (fun k => ?_) (Ev.bind (hN n1 n2 n3 n4 n5 n6 n7) (Ev.bind (hN n1 n2 n3 n4 n5 n6 n7) (Ev.bind hS (Ev.now _))))
      dsimp only
      rw [if_pos rfl, if_pos rfl]
    · refine hpre (Ev.congr (f := fun k => laws_normal__Buddyinfo.j0 k a0 l true) (fun k => by rw [if_neg ct]) (Ev.step (f := fun _ => some true) (fun k => ?_) (Ev.now _)))
      simp only [laws_normal__Buddyinfo.j0]
      rw [if_pos trivial]
      rfl
theorem FnBuddyinfoNormal : laws_FnBuddyinfoNormal.Pure := by
  intro a0 ha
  obtain ⟨K, hK⟩ := normal_ev a0
  refine ⟨K, ?_⟩
  unfold laws_FnBuddyinfoNormal.f
  by_cases c : (a0.size : Int) > 2147483647
  · rw [if_pos c]
  · rw [if_neg c, show laws_normal__Buddyinfo.f K a0 = some true from hK K (Nat.le_refl _)]
    rfl
end Go.Proofs.YtdmpbaanonafbaaGreatDoor.Pure
