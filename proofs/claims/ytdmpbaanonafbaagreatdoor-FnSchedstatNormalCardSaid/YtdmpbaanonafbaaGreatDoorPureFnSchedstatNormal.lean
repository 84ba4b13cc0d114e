import Derived.Test.YtdmpbaanonafbaaGreatDoorDoorSs
import Derived.Test.YtdmpbaanonafbaaGreatDoorTexts3
import Derived.Test.YtdmpbaanonafbaaGreatDoorTreesV
import Derived.Test.YtdmpbaanonafbaaGreatDoorD4
/- /proc/schedstat as text: a line is a processor's, or it is passed over. -/
set_option linter.unusedVariables false
set_option linter.unusedSimpArgs false
namespace Go.Proofs.YtdmpbaanonafbaaGreatDoor.SsText
open Go.RowKit Go.Proofs.YtdmpbaanonafbaaGreatDoorW.PrintWords Go.Proofs.YtdmpbaanonafbaaGreatDoorW.PrintLast Go.Proofs.YtdmpbaanonafbaaGreatDoor.GivZ Go.Proofs.YtdmpbaanonafbaaGreatDoor.GivDec Go.Proofs.YtdmpbaanonafbaaGreatDoor.GivPW Go.Proofs.YtdmpbaanonafbaaGreatDoorPt Go.Proofs.YtdmpbaanonafbaaGreatDoor.E Go.Proofs.YtdmpbaanonafbaaGreatDoor.Z Go.Proofs.YtdmpbaanonafbaaGreatDoor.X Go.Proofs.YtdmpbaanonafbaaGreatDoor.ScanL Go.Proofs.YtdmpbaanonafbaaGreatDoor.SsCpu Go.Proofs.YtdmpbaanonafbaaGreatDoor.SsFs Go.Proofs.YtdmpbaanonafbaaGreatDoor.DoorSs Go.Proofs.YtdmpbaanonafbaaGreatDoor.L Go.Proofs.YtdmpbaanonafbaaGreatDoor.Texts Go.Proofs.YtdmpbaanonafbaaGreatDoor.Trees
def hd3 : ByteArray := (⟨#[99, 112, 117]⟩ : ByteArray)
theorem hd3_list : hd3.toList = [99, 112, 117] := by rw [toList_data]; rfl
theorem bt_at (s : ByteArray) (q t : List UInt8) (c : UInt8) (h : s.data.toList = q ++ c :: t) : bt s (q.length : Int) = (c.toNat : Int) := by
  have hl := len_data s
  have hlt : q.length < s.size := by rw [← hl, h]; simp
  obtain ⟨c', hc, hb, _⟩ := drop_data s q.length hlt
  rw [h, List.drop_left] at hc
  injection hc with hc _
  rw [hb, hc]
theorem ext_list (s : ByteArray) (q d r : List UInt8) (h : s.data.toList = q ++ (d ++ r)) : s.extract q.length (q.length + d.length) = toB d := by
  apply ByteArray.ext
  apply Array.toList_inj.1
  rw [Lib.extract_data, h, List.drop_left]
  rw [show q.length + d.length - q.length = d.length by omega, List.take_left]
  rw [toB_data]
/-- The digits of a word, one by one. -/
theorem run2 (s : ByteArray) (hs : s.size ≤ 100000) (r : List UInt8) (hr : r = [] ∨ ∃ r', r = 32 :: r') (st : Nat) (out : List ByteArray) (ho : out.length ≤ 1000) (res : List ByteArray) : ∀ (d q : List UInt8), s.data.toList = q ++ (d ++ r) → (∀ c ∈ d, 48 ≤ c.toNat ∧ c.toNat ≤ 57) → st ≤ q.length → st < q.length + d.length →
    Ev (fun k => procfs_zzNumbers.l1 k s hd3 10 0 ((q.length + d.length : Nat) : Int) (out ++ [s.extract st (q.length + d.length)])) res → Ev (fun k => procfs_zzNumbers.l2 k s hd3 10 0 (q.length : Int) out (st : Int)) res := by
  have hl := len_data s
  intro d
  induction d with
  | nil =>
    intro q h _ h1 h2 hE
    simp only [List.length_nil, Nat.add_zero] at hE h2
    refine Ev.step (fun k => ?_) hE
    simp only [procfs_zzNumbers.l2]
    have hne : ¬ ((q.length : Int) = (st : Int)) := by omega
    have hsz : (q.length : Int) ≤ (s.size : Int) := by rw [← hl, h]; simp only [List.length_append, List.length_cons, List.length_nil]; omega
    rcases hr with rfl | ⟨r', rfl⟩
    · have he : ¬ ((q.length : Int) < (s.size : Int)) := by rw [← hl, h]; simp
      rw [if_neg he, if_neg hne, if_pos (by omega), if_pos (by omega), if_pos hsz, if_pos (by omega)]
      simp only [Int.toNat_natCast]
    · have he : (q.length : Int) < (s.size : Int) := by rw [← hl, h]; simp only [List.length_append, List.length_cons, List.length_nil]; omega
      have hb := bt_at s q r' 32 (by rw [h, List.nil_append])
      rw [if_pos he, if_pos (by omega), hb, if_neg (by decide), if_neg hne, if_pos (by omega), if_pos (by omega), if_pos hsz, if_pos (by omega)]
      simp only [Int.toNat_natCast]
  | cons c d ih =>
    intro q h hd h1 h2 hE
    have he : (q.length : Int) < (s.size : Int) := by rw [← hl, h]; simp only [List.length_append, List.length_cons, List.length_nil]; omega
    have hb := bt_at s q (d ++ r) c (by rw [h, List.cons_append])
    have hc := hd c List.mem_cons_self
    have hl2 : (q ++ [c]).length = q.length + 1 := by simp
    have := ih (q ++ [c]) (by rw [h]; simp) (fun x hx => hd x (List.mem_cons_of_mem _ hx)) (by omega) (by rw [hl2]; omega) (by
      rw [hl2]
      rw [List.length_cons] at hE
      rw [show q.length + 1 + d.length = q.length + (d.length + 1) by omega]
      exact hE)
    refine Ev.step (fun k => ?_) this
    simp only [procfs_zzNumbers.l2]
    rw [if_pos he, if_pos (by omega), hb, if_pos (by omega), if_pos (by omega), wrap_in (by omega) (by omega), hl2]
    rfl
def tail_ : List (List UInt8) → List UInt8
  | [] => []
  | w :: ws => 32 :: (w ++ tail_ ws)
def Dig (w : List UInt8) : Prop := w ≠ [] ∧ ∀ c ∈ w, 48 ≤ c.toNat ∧ c.toNat ≤ 57
theorem tail_form (ws : List (List UInt8)) : tail_ ws = [] ∨ ∃ r', tail_ ws = 32 :: r' := by
  cases ws with
  | nil => exact .inl rfl
  | cons w ws => exact .inr ⟨_, rfl⟩
/-- The words behind the first. -/
theorem run1 (s : ByteArray) (hs : s.size ≤ 100000) : ∀ (ws : List (List UInt8)) (q : List UInt8) (out : List ByteArray), s.data.toList = q ++ tail_ ws → (∀ w ∈ ws, Dig w) → 1 < out.length → out.length + ws.length = 11 →
    Ev (fun k => procfs_zzNumbers.l1 k s hd3 10 0 (q.length : Int) out) ((out ++ ws.map toB).set 0 (s.extract 0 s.size)) := by
  have hl := len_data s
  intro ws
  induction ws with
  | nil =>
    intro q out h _ h1 h2
    rw [List.length_nil, Nat.add_zero] at h2
    have hq : q.length = s.size := by rw [← hl, h]; simp [tail_]
    refine Ev.step (f := fun _ => some ((out ++ ([] : List (List UInt8)).map toB).set 0 (s.extract 0 s.size))) (fun k => ?_) (Ev.now _)
    simp only [procfs_zzNumbers.l1]
    rw [if_neg (by omega), if_pos (by omega), if_pos (by omega), if_pos (by omega), if_pos (by omega), if_pos (by omega), hq]
    simp
  | cons w ws ih =>
    intro q out h hw h1 h2
    rw [List.length_cons] at h2
    have hd := hw w List.mem_cons_self
    have ht : s.data.toList = q ++ 32 :: (w ++ tail_ ws) := h
    have hlt : q.length < s.size := by rw [← hl, ht]; simp
    have hb := bt_at s q _ 32 ht
    have hl2 : (q ++ [32]).length = q.length + 1 := by simp
    have hwl := List.length_pos_iff.2 hd.1
    have hx := ext_list s (q ++ [32]) w (tail_ ws) (by rw [ht]; simp)
    have h3 := ih (q ++ 32 :: w) (out ++ [toB w]) (by rw [ht]; simp) (fun x hx => hw x (List.mem_cons_of_mem _ hx)) (by simp; omega) (by simp; omega)
    have hlen : (q ++ 32 :: w).length = (q ++ [32]).length + w.length := by simp; omega
    rw [hlen] at h3
    have h4 := run2 s hs (tail_ ws) (tail_form ws) (q ++ [32]).length out (by omega) _ w (q ++ [32]) (by rw [ht]; simp) hd.2 (Nat.le_refl _) (by omega) (by rw [hx]; exact h3)
    refine Ev.step (f := fun k => procfs_zzNumbers.j2 k s hd3 10 0 ((q ++ [32]).length : Int) out) (fun k => ?_) (Ev.step (fun k => by simp only [procfs_zzNumbers.j2]; rfl) (by
      have e : (out ++ [toB w] ++ ws.map toB) = out ++ (w :: ws).map toB := by simp
      rw [← e]; exact h4))
    simp only [procfs_zzNumbers.l1]
    rw [if_pos (by omega), if_pos (by omega), if_neg (by omega), if_pos (by omega), if_pos (by omega), hb, if_pos (by decide), wrap_in (by omega) (by omega), hl2]
    rfl
/-- A processor's line. -/
theorem zz_row (w0 : List UInt8) (ws : List (List UInt8)) (h0 : Dig w0) (hw : ∀ w ∈ ws, Dig w) (hl9 : ws.length = 9) (hsz : (toB ([99, 112, 117] ++ (w0 ++ tail_ ws))).size ≤ 100000) :
    Ev (fun k => procfs_zzNumbers.f k (toB ([99, 112, 117] ++ (w0 ++ tail_ ws))) hd3 10) (toB ([99, 112, 117] ++ (w0 ++ tail_ ws)) :: toB w0 :: ws.map toB) := by
  have ht : (toB ([99, 112, 117] ++ (w0 ++ tail_ ws))).data.toList = [99, 112, 117] ++ (w0 ++ tail_ ws) := toB_data _
  generalize toB ([99, 112, 117] ++ (w0 ++ tail_ ws)) = s at ht hsz
  have hl := len_data s
  have hge : 3 ≤ s.size := by rw [← hl, ht]; simp
  have hwl := List.length_pos_iff.2 h0.1
  have hx := ext_list s [99, 112, 117] w0 (tail_ ws) ht
  have h3 := run1 s hsz ws ([99, 112, 117] ++ w0) [(⟨#[]⟩ : ByteArray), toB w0] (by rw [ht]; simp) hw (by simp) (by simp; omega)
  have hlen : ([99, 112, 117] ++ w0).length = 3 + w0.length := by simp; omega
  rw [hlen] at h3
  have h4 := run2 s hsz (tail_ ws) (tail_form ws) 3 [(⟨#[]⟩ : ByteArray)] (by simp) _ w0 [99, 112, 117] ht h0.2 (by simp) (by simp; omega) (by
    have hx' : s.extract 3 (3 + w0.length) = toB w0 := hx
    show Ev (fun k => procfs_zzNumbers.l1 k s hd3 10 0 ((3 + w0.length : Nat) : Int) ([(⟨#[]⟩ : ByteArray)] ++ [s.extract 3 (3 + w0.length)])) _
    rw [hx']
    exact h3)
  have hful : s.extract 0 s.size = s := by
    apply ByteArray.ext
    apply Array.toList_inj.1
    rw [Lib.extract_data, List.drop_zero, Nat.sub_zero, ← hl, List.take_length]
  have e : ([(⟨#[]⟩ : ByteArray), toB w0] ++ ws.map toB).set 0 (s.extract 0 s.size) = s :: toB w0 :: ws.map toB := by rw [hful]; rfl
  rw [e] at h4
  have hpre : (s.extract 0 3).toList = hd3.toList := by
    rw [toList_data, hd3_list, Lib.extract_data, ht]
    rfl
  have h3i : ((hd3.size : Nat) : Int) = 3 := rfl
  unfold procfs_zzNumbers.f
  refine Ev.step (f := fun k => procfs_zzNumbers.l1 k s hd3 10 0 3 [(⟨#[]⟩ : ByteArray)]) (fun k => ?_) (Ev.step (f := fun k => procfs_zzNumbers.j2 k s hd3 10 0 3 [(⟨#[]⟩ : ByteArray)]) (fun k => ?_) (Ev.step (fun k => by simp only [procfs_zzNumbers.j2]; rfl) h4))
  · simp only [procfs_zzNumbers.l0]
    rw [h3i, wrap_in (by omega) (by omega), if_pos (by omega), if_pos (by omega), if_pos (by omega)]
    rw [show ((0 : Int)).toNat = 0 from rfl, show ((0 : Int) + 3).toNat = 3 from rfl, if_pos hpre]
    rfl
  · simp only [procfs_zzNumbers.l1]
    rw [if_pos (by decide), if_neg (by decide)]
/-- A line without a 'c' is none. -/
theorem zz_none (s : ByteArray) (hs : s.size ≤ 100000) (hc : ∀ b ∈ s.data.toList, b ≠ 99) : Ev (fun k => procfs_zzNumbers.f k s hd3 10) [] := by
  have hl := len_data s
  have h3i : ((hd3.size : Nat) : Int) = 3 := rfl
  have go : ∀ (d i : Nat), i ≤ s.size → s.size - i = d → Ev (fun k => procfs_zzNumbers.l0 k s hd3 10 (i : Int)) [] := by
    intro d
    induction d with
    | zero =>
      intro i h1 h2
      refine Ev.step (f := fun _ => some []) (fun k => ?_) (Ev.now _)
      simp only [procfs_zzNumbers.l0]
      rw [h3i, wrap_in (by omega) (by omega), if_neg (by omega)]
    | succ d ih =>
      intro i h1 h2
      by_cases c : i + 3 ≤ s.size
      · have hne : ¬ ((s.extract i (i + 3)).toList = hd3.toList) := by
          intro e
          rw [toList_data, hd3_list, Lib.extract_data] at e
          have : (99 : UInt8) ∈ (s.data.toList.drop i).take (i + 3 - i) := by rw [e]; simp
          exact hc 99 (List.mem_of_mem_drop (List.mem_of_mem_take this)) rfl
        refine Ev.step (fun k => ?_) (ih (i + 1) (by omega) (by omega))
        simp only [procfs_zzNumbers.l0]
        rw [h3i, wrap_in (by omega) (by omega), if_pos (by omega), if_pos (by omega), if_pos (by omega), Int.toNat_natCast, show ((i : Int) + 3).toNat = i + 3 by omega, if_neg hne, wrap_in (by omega) (by omega)]
        rfl
      · refine Ev.step (f := fun _ => some []) (fun k => ?_) (Ev.now _)
        simp only [procfs_zzNumbers.l0]
        rw [h3i, wrap_in (by omega) (by omega), if_neg (by omega)]
  exact go s.size 0 (by omega) (by omega)
theorem mapO_ev {α β : Type} {f : Nat → α → Option β} : ∀ (xs : List α) (ys : List β), all2 (fun x y => Ev (fun k => f k x) y) xs ys → Ev (fun k => mapO (f k) xs) ys
  | [], [], _ => Ev.now _
  | x :: xs, y :: ys, h => Ev.bind h.1 (Ev.bind (mapO_ev xs ys h.2) (Ev.now _))
  | [], _ :: _, h => h.elim
  | _ :: _, [], h => h.elim
/-- A number as it is written. -/
structure Num (t : List UInt8) (v : Int) : Prop where
  dig : Dig t
  val : decv 0 t = some v.toNat
  lo : 0 ≤ v
  hi : v ≤ 18446744073709551615
  len : t.length ≤ 100
theorem num_read {t : List UInt8} {v : Int} (h : Num t v) : strconv_ParseU.f (toB t) 10 64 = some (v, none) := by
  have hl : (toB t).size = t.length := toB_size _
  have hd : (toB t).data.toList = t := toB_data _
  have hp := List.length_pos_iff.2 h.dig.1
  have hlo := h.lo
  have hhi := h.hi
  have hle := h.len
  unfold strconv_ParseU.f
  rw [if_pos ⟨by omega, by omega⟩, if_neg (by decide), if_pos rfl, hd, h.val]
  simp only [Option.bind_some]
  rw [if_neg (by decide), if_pos trivial]
  unfold lim
  rw [if_pos (by omega)]
  simp only [Int.toNat_of_nonneg hlo]
theorem ss_read (ps : List ByteArray) (x y z : Int) (h11 : ps.length = 11) (h8 : strconv_ParseU.f (rdOf ByteArray.empty ps 8) 10 64 = some (x, none)) (h9 : strconv_ParseU.f (rdOf ByteArray.empty ps 9) 10 64 = some (y, none)) (h10 : strconv_ParseU.f (rdOf ByteArray.empty ps 10) 10 64 = some (z, none)) :
    ssOf ps = some (some ⟨rdOf ByteArray.empty ps 1, x, y, z⟩) := by
  have hne : ¬ (ps = []) := by intro e; rw [e] at h11; cases h11
  unfold ssOf ssNum
  rw [if_neg hne, if_pos h11, h8, h9, h10]
  rfl
/-- The lines of the processors. -/
inductive Rows : List UInt8 → List (Option Cpu) → Prop
  | nil : Rows [] []
  | row {n : List UInt8} {ts : List (List UInt8)} {vs : List Int} {x y z : Int} {tl : List UInt8} {os : List (Option Cpu)} : Dig n → n.length ≤ 100 → all2 Num ts vs → ts.length = 9 → vs.drop 6 = [x, y, z] → Rows tl os → Rows ((([99, 112, 117] ++ (n ++ tail_ ts)) ++ [10]) ++ tl) (some ⟨toB n, x, y, z⟩ :: os)

theorem decv_digits : ∀ (l : List UInt8) (acc v : Nat), decv acc l = some v → ∀ c ∈ l, 48 ≤ c.toNat ∧ c.toNat ≤ 57
  | [], _, _, _, c, hc => by cases hc
  | a :: l, acc, v, h, c, hc => by
    rw [decv] at h
    by_cases k : 48 ≤ a.toNat ∧ a.toNat ≤ 57
    · rw [if_pos k] at h
      rcases List.mem_cons.1 hc with rfl | hc
      · exact k
      · exact decv_digits l _ v h c hc
    · rw [if_neg k] at h; cases h

theorem lines_count : ∀ (l cur : List UInt8), (linesGo cur l).length ≤ l.length + 1
  | [], cur => by unfold linesGo; split <;> simp
  | c :: cs, cur => by
    unfold linesGo
    have h1 := lines_count cs []
    have h2 := lines_count cs (cur ++ [c])
    split
    · simp; omega
    · simp; omega

theorem num_of {x : ByteArray} {v : Int} (h : SaysN x v.toNat ∧ x.size ≤ 20 ∧ (v < 10000000000 → x.size ≤ 10)) (h0 : 0 ≤ v) (h1 : v ≤ 18446744073709551615) : Num x.data.toList v := by
  have hl := len_data x
  have hp := h.1.1
  refine ⟨⟨?_, decv_digits _ _ _ h.1.2⟩, h.1.2, h0, h1, by have := h.2.1; omega⟩
  intro e
  rw [e] at hl
  simp at hl
  omega
theorem tail_mem : ∀ (ts : List (List UInt8)) (c : UInt8), c ∈ tail_ ts → c = 32 ∨ ∃ t ∈ ts, c ∈ t
  | [], c, h => by cases h
  | t :: ts, c, h => by
    rcases List.mem_cons.1 h with rfl | h
    · exact .inl rfl
    · rcases List.mem_append.1 h with h | h
      · exact .inr ⟨t, List.mem_cons_self, h⟩
      · rcases tail_mem ts c h with h | ⟨u, hu, hc⟩
        · exact .inl h
        · exact .inr ⟨u, List.mem_cons_of_mem _ hu, hc⟩
theorem tail_len : ∀ (ts : List (List UInt8)) (vs : List Int), all2 Num ts vs → (tail_ ts).length ≤ ts.length * 101
  | [], _, _ => Nat.le_refl _
  | t :: ts, v :: vs, h => by
    have h1 := h.1.len
    have h2 := tail_len ts vs h.2
    simp only [tail_, List.length_cons, List.length_append]
    omega
  | _ :: _, [], h => h.elim
theorem all2_mem {α β : Type} {P : α → β → Prop} : ∀ (xs : List α) (ys : List β), all2 P xs ys → ∀ x ∈ xs, ∃ y, P x y
  | [], _, _, x, h => by cases h
  | a :: xs, b :: ys, h, x, hx => by
    rcases List.mem_cons.1 hx with rfl | hx
    · exact ⟨b, h.1⟩
    · exact all2_mem xs ys h.2 x hx
  | _ :: _, [], h, _, _ => h.elim
/-- The line of a processor, without its line feed. -/
def line_ (n : List UInt8) (ts : List (List UInt8)) : List UInt8 := [99, 112, 117] ++ (n ++ tail_ ts)
theorem line_mem {n : List UInt8} {ts : List (List UInt8)} {vs : List Int} (hn : Dig n) (ht : all2 Num ts vs) : ∀ c ∈ line_ n ts, 32 ≤ c.toNat := by
  intro c hc
  rcases List.mem_append.1 hc with hc | hc
  · have : c = 99 ∨ c = 112 ∨ c = 117 := by simpa using hc
    rcases this with rfl | rfl | rfl <;> decide
  · rcases List.mem_append.1 hc with hc | hc
    · have := hn.2 c hc; omega
    · rcases tail_mem ts c hc with rfl | ⟨t, h1, h2⟩
      · decide
      · obtain ⟨v, hv⟩ := all2_mem ts vs ht t h1
        have := hv.dig.2 c h2
        omega
theorem line_len {n : List UInt8} {ts : List (List UInt8)} {vs : List Int} (hl : n.length ≤ 100) (ht : all2 Num ts vs) (h9 : ts.length = 9) : (line_ n ts).length ≤ 2000 := by
  have := tail_len ts vs ht
  unfold line_
  simp only [List.length_append, List.length_cons, List.length_nil]
  omega
theorem line_read {n : List UInt8} {ts : List (List UInt8)} {vs : List Int} {x y z : Int} (hn : Dig n) (hl : n.length ≤ 100) (ht : all2 Num ts vs) (h9 : ts.length = 9) (hv : vs.drop 6 = [x, y, z]) : Ev (fun k => ssRow k (line_ n ts)) (some ⟨toB n, x, y, z⟩) := by
  have hlen := line_len hl ht h9
  have hzz := zz_row n ts hn (fun w hw => by obtain ⟨v, h⟩ := all2_mem ts vs ht w hw; exact h.dig) h9 (by rw [toB_size]; exact Nat.le_trans hlen (by decide))
  have hvl : vs.length = 9 := by rw [← all2_len ts vs ht]; exact h9
  match ts, h9, vs, hvl, ht, hv, hzz with
  | [t0, t1, t2, t3, t4, t5, t6, t7, t8], _, [v0, v1, v2, v3, v4, v5, v6, v7, v8], _, ht, hv, hzz =>
    obtain ⟨_, _, _, _, _, _, p6, p7, p8, _⟩ := ht
    injection hv with e1 hv
    injection hv with e2 hv
    injection hv with e3 hv
    subst e1 e2 e3
    have h := ss_read (toB (line_ n [t0, t1, t2, t3, t4, t5, t6, t7, t8]) :: toB n :: [t0, t1, t2, t3, t4, t5, t6, t7, t8].map toB) v6 v7 v8 rfl (num_read p6) (num_read p7) (num_read p8)
    have h2 : ssOf (toB ([99, 112, 117] ++ (n ++ tail_ [t0, t1, t2, t3, t4, t5, t6, t7, t8])) :: toB n :: [t0, t1, t2, t3, t4, t5, t6, t7, t8].map toB) = some (some ⟨toB n, v6, v7, v8⟩) := h
    exact Ev.bind hzz (Ev.congr (f := fun _ => some (some (⟨toB n, v6, v7, v8⟩ : Cpu))) (fun k => h2) (Ev.now _))
def v15 : List UInt8 := [118, 101, 114, 115, 105, 111, 110, 32, 49, 53]
def stamp : List UInt8 := [116, 105, 109, 101, 115, 116, 97, 109, 112, 32, 52, 50, 57, 52, 56, 57, 50, 50, 57, 54]
theorem none_read (l : List UInt8) (hl : l.length ≤ 100) (h : ∀ b ∈ l, b ≠ 99) : Ev (fun k => ssRow k l) none :=
  Ev.bind (zz_none (toB l) (by rw [toB_size]; omega) (by rw [toB_data]; exact h)) (Ev.now _)
/-- What is read of the lines behind the head. -/
structure Lns (ls : List (List UInt8)) (os : List (Option Cpu)) : Prop where
  feed : ∀ x ∈ ls, ∀ b ∈ x, b ≠ 10
  fit : ∀ x ∈ ls, x.length < 65536 ∧ x.getLast? ≠ some 13
  read : all2 (fun x o => Ev (fun k => ssRow k x) o) ls os
theorem no13 {l : List UInt8} (h : ∀ c ∈ l, 32 ≤ c.toNat) : l.getLast? ≠ some 13 := by
  intro e
  have := h 13 (List.mem_of_getLast? e)
  exact absurd this (by decide)
theorem no10 {l : List UInt8} (h : ∀ c ∈ l, 32 ≤ c.toNat) : ∀ b ∈ l, b ≠ 10 := by
  rintro b hb rfl
  exact absurd (h 10 hb) (by decide)
theorem rows_lns : ∀ (tl : List UInt8) (os : List (Option Cpu)), Rows tl os → ∃ ls, tl = ls.flatMap (fun x => x ++ [10]) ∧ Lns ls os := by
  intro tl os h
  induction h with
  | nil => exact ⟨[], rfl, ⟨fun x hx => (by cases hx), fun x hx => (by cases hx), trivial⟩⟩
  | @row n ts vs x y z tl os hn hl ht h9 hv hr ih =>
    obtain ⟨ls, e, hL⟩ := ih
    have hm := line_mem (n := n) hn ht
    have hlen := line_len hl ht h9
    refine ⟨line_ n ts :: ls, by rw [e]; rfl, ⟨fun u hu => ?_, fun u hu => ?_, ⟨line_read hn hl ht h9 hv, hL.read⟩⟩⟩
    · rcases List.mem_cons.1 hu with rfl | hu
      · exact no10 hm
      · exact hL.feed u hu
    · rcases List.mem_cons.1 hu with rfl | hu
      · exact ⟨by omega, no13 hm⟩
      · exact hL.fit u hu
theorem head_lns {ls : List (List UInt8)} {os : List (Option Cpu)} (h : Lns ls os) : Lns (v15 :: stamp :: ls) (none :: none :: os) := by
  have a1 : ∀ c ∈ v15, 32 ≤ c.toNat := by decide
  have a2 : ∀ c ∈ stamp, 32 ≤ c.toNat := by decide
  refine ⟨fun u hu => ?_, fun u hu => ?_, ⟨none_read v15 (by decide) (by decide), none_read stamp (by decide) (by decide), h.read⟩⟩
  · rcases List.mem_cons.1 hu with rfl | hu
    · exact no10 a1
    · rcases List.mem_cons.1 hu with rfl | hu
      · exact no10 a2
      · exact h.feed u hu
  · rcases List.mem_cons.1 hu with rfl | hu
    · exact ⟨by decide, no13 a1⟩
    · rcases List.mem_cons.1 hu with rfl | hu
      · exact ⟨by decide, no13 a2⟩
      · exact h.fit u hu
theorem cpu_ok (x0 : ByteArray) (x1 x2 x3 : Int) : ∃ ks, impl_procfsSchedstat_1_1.f ByteArray.empty x0 x1 x2 x3 = some (ByteArray.empty, 8, false, 0, 0, 0, (⟨#[]⟩ : ByteArray), ks) ∧ good 1 ks := by
  refine ⟨_, rfl, ?_⟩
  refine ⟨by simp, ?_⟩
  intro x hx
  simp at hx
  rcases hx with rfl | rfl | rfl | rfl <;> rfl
theorem cpus_loop (zs : List Cpu) (hl : zs.length ≤ 200000) (d : Nat) : ∀ (out : List S35) (i : Nat), i ≤ zs.length → zs.length - i = d → out.length = i → (∀ x ∈ out, good 1 x.f7) →
    ∃ ks, Ev (fun k => procfs_SchedstatCPU___SchedstatCPU.l0 k zs (zs.length : Int) (i : Int) (⟨#[67, 80, 85, 115]⟩ : ByteArray) 6 false 0 0 0 (⟨#[]⟩ : ByteArray) out) ((⟨#[67, 80, 85, 115]⟩ : ByteArray), 6, false, 0, 0, 0, (⟨#[]⟩ : ByteArray), ks) ∧ ks.length ≤ zs.length ∧ ∀ x ∈ ks, good 1 x.f7 := by
  induction d with
  | zero =>
    intro out i h1 hd ho hg
    refine ⟨out, Ev.step (f := fun _ => some ((⟨#[67, 80, 85, 115]⟩ : ByteArray), 6, false, 0, 0, 0, (⟨#[]⟩ : ByteArray), out)) (fun k => ?_) (Ev.now _), by omega, hg⟩
    simp only [procfs_SchedstatCPU___SchedstatCPU.l0]
    rw [if_neg (by omega)]
  | succ d ih =>
    intro out i h1 hd ho hg
    obtain ⟨ks, hk, hgood⟩ := cpu_ok (rdOf zC zs (i : Int)).f0 (rdOf zC zs (i : Int)).f1 (rdOf zC zs (i : Int)).f2 (rdOf zC zs (i : Int)).f3
    obtain ⟨res, hE, hl2, hg2⟩ := ih (out ++ [(⟨ByteArray.empty, 8, false, 0, 0, 0, (⟨#[]⟩ : ByteArray), ks⟩ : S35)]) (i + 1) (by omega) (by omega) (by simp [ho]) (fun x hx => by
      rcases List.mem_append.1 hx with hx | hx
      · exact hg x hx
      · rw [List.mem_singleton.1 hx]; exact hgood)
    refine ⟨res, Ev.step (fun k => ?_) hE, hl2, hg2⟩
    have hk' : impl_procfsSchedstat_1.f (rdOf zC zs (i : Int)) = some (ByteArray.empty, 8, false, 0, 0, 0, (⟨#[]⟩ : ByteArray), ks) := hk
    simp only [procfs_SchedstatCPU___SchedstatCPU.l0]
    rw [if_pos (by omega), if_pos (by omega), if_pos (by omega), hk']
    simp only [Option.bind_some]
    rw [if_pos (by omega), wrap_in (by omega) (by omega)]
    rfl
theorem rec_ev (zs : List Cpu) (hl : zs.length ≤ 200000) : ∃ ks, Ev (fun k => impl_procfsSchedstat.f k ByteArray.empty zs) (ByteArray.empty, 8, false, 0, 0, 0, (⟨#[]⟩ : ByteArray), ks) ∧ good 3 ks := by
  obtain ⟨ks, hE, h1, h2⟩ := cpus_loop zs hl zs.length [] 0 (by omega) (by omega) rfl (fun x hx => by cases hx)
  refine ⟨_, Ev.bind (g := fun k => procfs_SchedstatCPU___SchedstatCPU.f k (⟨#[67, 80, 85, 115]⟩ : ByteArray) zs) hE (Ev.now _), ?_⟩
  refine ⟨by simp, ?_⟩
  intro x hx
  have : x = (⟨(⟨#[67, 80, 85, 115]⟩ : ByteArray), 6, false, 0, 0, 0, (⟨#[]⟩ : ByteArray), ks⟩ : S35) := by simpa using hx
  rw [this]
  exact ⟨by show ks.length ≤ 200000; omega, fun y hy => h2 y hy⟩
theorem door_ok (a0 : ByteArray) (ha : a0.size ≤ 40000) (tl : List UInt8) (os : List (Option Cpu)) (ht : a0.data.toList = (v15 ++ [10]) ++ ((stamp ++ [10]) ++ tl)) (h : Rows tl os) :
    ∃ (n1 : ByteArray) (n2 : Int) (n3 : Bool) (n4 n5 : Int) (n6 : Nat) (n7 : ByteArray) (n8 : List S35), Ev (fun k => impl_Schedstat.f k a0) (n1, n2, n3, n4, n5, n6, n7, n8, 0) ∧ good 3 n8 := by
  obtain ⟨ls, e, hL⟩ := rows_lns tl os h
  have hH := head_lns hL
  have hlen := len_data a0
  have hflat : a0.data.toList = (v15 :: stamp :: ls).flatMap (fun x => x ++ [10]) := by rw [ht, e]; rfl
  have hlines : linesL a0.data.toList = v15 :: stamp :: ls := by rw [hflat]; exact lines_flat _ hH.feed
  have hfit : fits a0.data.toList = true := fits_of (by omega) (by rw [hlines]; exact hH.fit)
  have hcnt := all2_len _ _ hH.read
  have hlc : (v15 :: stamp :: ls).length ≤ 40001 := by
    have := lines_count a0.data.toList []
    rw [← hlines]
    unfold linesL
    omega
  have hol : (none :: none :: os).length ≤ 40001 := by rw [← hcnt]; exact hlc
  have hsl := some_len (none :: none :: os)
  obtain ⟨ks, hR, hg⟩ := rec_ev (some_ (none :: none :: os)) (by omega)
  refine ⟨ByteArray.empty, 8, false, 0, 0, 0, (⟨#[]⟩ : ByteArray), ks, ?_, hg⟩
  unfold impl_Schedstat.f
  have hrun : Ev (fun k => runO (ssRow k) a0.data.toList) (none :: none :: os) := Ev.congr (f := fun k => mapO (ssRow k) (v15 :: stamp :: ls)) (fun k => by unfold runO; rw [if_pos hfit, hlines]) (mapO_ev _ _ hH.read)
  refine Ev.congr (fun k => if_pos (by omega)) (Ev.bind hrun (Ev.congr (fun k => if_pos (by omega)) (Ev.bind hR (Ev.now _))))
end Go.Proofs.YtdmpbaanonafbaaGreatDoor.SsText

/- Any text as /proc/schedstat that means something is read as that, written anew in the documented form, is: every text (the law itself lets texts of more than 40,000 bytes by). -/
set_option linter.unusedVariables false
set_option linter.unusedSimpArgs false
namespace Go.Proofs.YtdmpbaanonafbaaGreatDoor.Pure
open Go.RowKit Go.Proofs.YtdmpbaanonafbaaGreatDoorW.PrintWords Go.Proofs.YtdmpbaanonafbaaGreatDoorW.PrintLast Go.Proofs.YtdmpbaanonafbaaGreatDoor.GivZ Go.Proofs.YtdmpbaanonafbaaGreatDoorPt Go.Proofs.YtdmpbaanonafbaaGreatDoor.GivDec Go.Proofs.YtdmpbaanonafbaaGreatDoor.L Go.Proofs.YtdmpbaanonafbaaGreatDoor.V Go.Proofs.YtdmpbaanonafbaaGreatDoor.R Go.Proofs.YtdmpbaanonafbaaGreatDoor.D Go.Proofs.YtdmpbaanonafbaaGreatDoor.E Go.Proofs.YtdmpbaanonafbaaGreatDoor.ScanL Go.Proofs.YtdmpbaanonafbaaGreatDoor.SsCpu Go.Proofs.YtdmpbaanonafbaaGreatDoor.SsFs Go.Proofs.YtdmpbaanonafbaaGreatDoor.DoorSs Go.Proofs.YtdmpbaanonafbaaGreatDoor.Lives Go.Proofs.YtdmpbaanonafbaaGreatDoor.Texts Go.Proofs.YtdmpbaanonafbaaGreatDoor.Trees Go.Proofs.YtdmpbaanonafbaaGreatDoor.SsText
/-- A row that the table may hold. -/
def RB (r : S48) : Prop := r.f0.size ≤ 100000 ∧ r.f1.length ≤ 200000 ∧ ∀ v ∈ r.f1, 0 ≤ v ∧ v ≤ 18446744073709551615
theorem join_tail (bb : ByteArray) (hb : bb.data.toList = [32]) : ∀ (xs : List ByteArray) (acc : ByteArray), (joinGo bb acc xs).data.toList = acc.data.toList ++ tail_ (xs.map fun x => x.data.toList)
  | [], acc => by simp [joinGo, tail_]
  | x :: xs, acc => by
    rw [joinGo, join_tail bb hb xs, app_data, app_data, hb]
    simp [tail_]
theorem all2_says : ∀ (xs : List ByteArray) (vs : List Int), allSays xs vs → (∀ v ∈ vs, 0 ≤ v ∧ v ≤ 18446744073709551615) → all2 Num (xs.map fun x => x.data.toList) vs
  | [], [], _, _ => trivial
  | x :: xs, v :: vs, h, hv => ⟨num_of h.1 (hv v List.mem_cons_self).1 (hv v List.mem_cons_self).2, all2_says xs vs h.2 (fun u hu => hv u (List.mem_cons_of_mem _ hu))⟩
  | [], _ :: _, h, _ => h.elim
  | _ :: _, [], h, _ => h.elim
/-- One row, written. -/
theorem row_is (r : S48) (hr : RB r) : ∃ (b : Bool) (line : ByteArray), (b = true → ∃ (n : List UInt8) (ts : List (List UInt8)) (vs : List Int) (x y z : Int), line.data.toList = ([99, 112, 117] ++ (n ++ tail_ ts)) ++ [10] ∧ Dig n ∧ n.length ≤ 100 ∧ all2 Num ts vs ∧ ts.length = 9 ∧ vs.drop 6 = [x, y, z]) ∧ line.size ≤ 200000 ∧
    ∀ (g : Nat → ByteArray → Option (ByteArray × Int)) (acc : ByteArray) (res : ByteArray × Int), acc.size ≤ 1000000000000 → (b = true → Ev (fun k => g k (acc ++ line)) res) → (b = false → res = ((⟨#[]⟩ : ByteArray), 2)) →
      Ev (fun k => (spec_Dec.f k r.f0).bind fun bt103 => (if bt103.2 = true then ((spec_Text.f k bt103.1).bind fun t105 => (if t105.toList = (r.f0).toList then ((spec_sized.f r.f0 r.f1 r.f2 9 0).bind fun t106 => (if t106 = true then (if 3 + (r.f0).size ≤ 9223372036854775807 then (if ((⟨#[99, 112, 117]⟩ : ByteArray) ++ r.f0).size + 1 ≤ 9223372036854775807 then ((spec_numbers.f k r.f1 (⟨#[32]⟩ : ByteArray)).bind fun t107 => (if (((⟨#[99, 112, 117]⟩ : ByteArray) ++ r.f0) ++ (⟨#[32]⟩ : ByteArray)).size + t107.size ≤ 9223372036854775807 then (if ((((⟨#[99, 112, 117]⟩ : ByteArray) ++ r.f0) ++ (⟨#[32]⟩ : ByteArray)) ++ t107).size + 1 ≤ 9223372036854775807 then (if acc.size + (((((⟨#[99, 112, 117]⟩ : ByteArray) ++ r.f0) ++ (⟨#[32]⟩ : ByteArray)) ++ t107) ++ (⟨#[10]⟩ : ByteArray)).size ≤ 9223372036854775807 then g k (acc ++ (((((⟨#[99, 112, 117]⟩ : ByteArray) ++ r.f0) ++ (⟨#[32]⟩ : ByteArray)) ++ t107) ++ (⟨#[10]⟩ : ByteArray))) else (none)) else (none)) else (none))) else (none)) else (none)) else (some ((⟨#[]⟩ : ByteArray), 2)))) else (some ((⟨#[]⟩ : ByteArray), 2)))) else (some ((⟨#[]⟩ : ByteArray), 2)))) res := by
  obtain ⟨h1, h2, h3⟩ := hr
  obtain ⟨v, ok, hD, hv0, hv1, hdec⟩ := dec_ev r.f0 h1
  obtain ⟨x, hX, hxs, hxn, hxl⟩ := text_is v hv0 hv1
  obtain ⟨ts, hN, hNp⟩ := numbers_is r.f1 (⟨#[32]⟩ : ByteArray) h2 (by decide) h3
  have no : ∃ line : ByteArray, line.size ≤ 200000 := ⟨ByteArray.empty, by decide⟩
  cases ok with
  | false =>
    refine ⟨false, ByteArray.empty, (fun h => by cases h), by decide, fun g acc res ha hg hb => ?_⟩
    rw [hb rfl]
    exact Ev.bind hD (Ev.congr (f := fun _ => some ((⟨#[]⟩ : ByteArray), 2)) (fun k => by rw [if_neg (by simp)]) (Ev.now _))
  | true =>
    by_cases c1 : x.toList = r.f0.toList
    · have hxe : x = r.f0 := (toList_eq_iff _ _).1 c1
      by_cases c2 : (r.f1.length : Int) = 9
      · by_cases c3 : ((r.f2.length : Int) == 0) = true
        · have hz : spec_sized.f r.f0 r.f1 r.f2 9 0 = some true := by unfold spec_sized.f; rw [if_pos c2, c3]
          have h9 : r.f1.length = 9 := by omega
          generalize r.f1 = vs at hN hNp h3 h9 hz c2 h2 ⊢
          have hal := all2_says ts vs hNp h3
          have hl9 : ts.length = 9 := by have := all2_len _ _ hal; rw [List.length_map] at this; omega
          match ts, hl9, hN, hNp, hal with
          | t0 :: us, hl9, hN, hNp, hal =>
            have hj : (joinL (⟨#[32]⟩ : ByteArray) (t0 :: us)).data.toList = t0.data.toList ++ tail_ (us.map fun x => x.data.toList) := by
              show (joinGo (⟨#[32]⟩ : ByteArray) ((⟨#[]⟩ : ByteArray) ++ t0) us).data.toList = _
              rw [join_tail _ rfl, app_data]
              rfl
            have hjs : (joinL (⟨#[32]⟩ : ByteArray) (t0 :: us)).size ≤ 1000 := by
              have := tail_len _ _ hal
              rw [Lib.size_eq, hj]
              simp only [List.map_cons, tail_, List.length_cons, List.length_append, List.length_map] at this ⊢
              simp only [List.length_cons] at hl9
              omega
            generalize joinL (⟨#[32]⟩ : ByteArray) (t0 :: us) = jn at hN hj hjs
            have hs3 : (⟨#[99, 112, 117]⟩ : ByteArray).size = 3 := rfl
            have hs32 : (⟨#[32]⟩ : ByteArray).size = 1 := rfl
            have hs10 : (⟨#[10]⟩ : ByteArray).size = 1 := rfl
            have hfs : r.f0.size ≤ 20 := by rw [← hxe]; exact hxs
            have hn := num_of (x := x) (v := v) ⟨hxn, hxs, hxl⟩ hv0 hv1
            match vs, h9, hal with
            | [v0, v1, v2, v3, v4, v5, v6, v7, v8], _, hal =>
              refine ⟨true, ((((⟨#[99, 112, 117]⟩ : ByteArray) ++ r.f0) ++ (⟨#[32]⟩ : ByteArray)) ++ jn) ++ (⟨#[10]⟩ : ByteArray), fun _ => ⟨r.f0.data.toList, _, _, v6, v7, v8, ?_, by rw [← hxe]; exact hn.dig, by rw [← hxe]; exact hn.len, hal, by rw [List.length_map]; exact hl9, rfl⟩, ?_, fun g acc res ha hg hb => ?_⟩
              · simp only [app_data, hj]
                simp [tail_]
              · simp only [ByteArray.size_append, hs3, hs32, hs10]
                omega
              · refine Ev.bind hD (Ev.congr (fun k => by rw [if_pos rfl]) (Ev.bind hX (Ev.congr (fun k => by rw [if_pos c1, hz]; simp only [Option.bind_some]; rw [if_pos trivial, if_pos (by omega), if_pos (by simp only [ByteArray.size_append, hs3]; omega)]) (Ev.bind hN (Ev.congr (fun k => ?_) (hg rfl))))))
                rw [if_pos (by simp only [ByteArray.size_append, hs3, hs32]; omega), if_pos (by simp only [ByteArray.size_append, hs3, hs32]; omega), if_pos (by simp only [ByteArray.size_append, hs3, hs32, hs10]; omega)]
            | [], h, _ => simp at h
            | [_], h, _ => simp at h
            | [_, _], h, _ => simp at h
            | [_, _, _], h, _ => simp at h
            | [_, _, _, _], h, _ => simp at h
            | [_, _, _, _, _], h, _ => simp at h
            | [_, _, _, _, _, _], h, _ => simp at h
            | [_, _, _, _, _, _, _], h, _ => simp at h
            | [_, _, _, _, _, _, _, _], h, _ => simp at h
            | _ :: _ :: _ :: _ :: _ :: _ :: _ :: _ :: _ :: _ :: _, h, _ => simp at h
        · refine ⟨false, ByteArray.empty, (fun h => by cases h), by decide, fun g acc res ha hg hb => ?_⟩
          rw [hb rfl]
          have hz : spec_sized.f r.f0 r.f1 r.f2 9 0 = some false := by unfold spec_sized.f; rw [if_pos c2]; congr 1; simpa using c3
          exact Ev.bind hD (Ev.congr (fun k => by rw [if_pos rfl]) (Ev.bind hX (Ev.congr (f := fun _ => some ((⟨#[]⟩ : ByteArray), 2)) (fun k => by rw [if_pos c1, hz]; rfl) (Ev.now _))))
      · refine ⟨false, ByteArray.empty, (fun h => by cases h), by decide, fun g acc res ha hg hb => ?_⟩
        rw [hb rfl]
        have hz : spec_sized.f r.f0 r.f1 r.f2 9 0 = some false := by unfold spec_sized.f; rw [if_neg c2]
        exact Ev.bind hD (Ev.congr (fun k => by rw [if_pos rfl]) (Ev.bind hX (Ev.congr (f := fun _ => some ((⟨#[]⟩ : ByteArray), 2)) (fun k => by rw [if_pos c1, hz]; rfl) (Ev.now _))))
    · refine ⟨false, ByteArray.empty, (fun h => by cases h), by decide, fun g acc res ha hg hb => ?_⟩
      rw [hb rfl]
      exact Ev.bind hD (Ev.congr (fun k => by rw [if_pos rfl]) (Ev.bind hX (Ev.congr (f := fun _ => some ((⟨#[]⟩ : ByteArray), 2)) (fun k => by rw [if_neg c1]) (Ev.now _))))
theorem print_go (l : List S48) (hl : l.length ≤ 200000) (hb : ∀ r ∈ l, RB r) (d : Nat) : ∀ (acc : ByteArray) (i : Nat), i ≤ l.length → l.length - i = d → acc.size ≤ 1000 + i * 200000 →
    ∃ (s : ByteArray) (t : Int), Ev (fun k => spec_SchedstatPrint.l0 k acc l (l.length : Int) (i : Int)) (s, t) ∧ (t = 1 → ∃ (tl : List UInt8) (os : List (Option Cpu)), s.data.toList = acc.data.toList ++ tl ∧ SsText.Rows tl os) := by
  induction d with
  | zero =>
    intro acc i h1 hd ha
    refine ⟨acc, 1, Ev.step (f := fun _ => some (acc, 1)) (fun k => ?_) (Ev.now _), fun _ => ⟨[], [], by simp, .nil⟩⟩
    simp only [spec_SchedstatPrint.l0]
    rw [if_neg (by omega)]
  | succ d ih =>
    intro acc i h1 hd ha
    have hi : i < l.length := by omega
    have hm : l.getD i z48 ∈ l := by
      rw [List.getD_eq_getElem?_getD, List.getElem?_eq_getElem hi]
      exact List.getElem_mem hi
    have hr : rd_T48 l (i : Int) = l.getD i z48 := by simp [rd_T48]
    have hi2 : i * 200000 ≤ 200000 * 200000 := Nat.mul_le_mul_right _ (by omega)
    obtain ⟨b, line, hB, hsz, hE⟩ := row_is (l.getD i z48) (hb _ hm)
    have hstep : ∀ res, Ev (fun k => (spec_Dec.f k (l.getD i z48).f0).bind fun bt103 => (if bt103.2 = true then ((spec_Text.f k bt103.1).bind fun t105 => (if t105.toList = ((l.getD i z48).f0).toList then ((spec_sized.f (l.getD i z48).f0 (l.getD i z48).f1 (l.getD i z48).f2 9 0).bind fun t106 => (if t106 = true then (if 3 + ((l.getD i z48).f0).size ≤ 9223372036854775807 then (if ((⟨#[99, 112, 117]⟩ : ByteArray) ++ (l.getD i z48).f0).size + 1 ≤ 9223372036854775807 then ((spec_numbers.f k (l.getD i z48).f1 (⟨#[32]⟩ : ByteArray)).bind fun t107 => (if (((⟨#[99, 112, 117]⟩ : ByteArray) ++ (l.getD i z48).f0) ++ (⟨#[32]⟩ : ByteArray)).size + t107.size ≤ 9223372036854775807 then (if ((((⟨#[99, 112, 117]⟩ : ByteArray) ++ (l.getD i z48).f0) ++ (⟨#[32]⟩ : ByteArray)) ++ t107).size + 1 ≤ 9223372036854775807 then (if acc.size + (((((⟨#[99, 112, 117]⟩ : ByteArray) ++ (l.getD i z48).f0) ++ (⟨#[32]⟩ : ByteArray)) ++ t107) ++ (⟨#[10]⟩ : ByteArray)).size ≤ 9223372036854775807 then spec_SchedstatPrint.l0 k (acc ++ (((((⟨#[99, 112, 117]⟩ : ByteArray) ++ (l.getD i z48).f0) ++ (⟨#[32]⟩ : ByteArray)) ++ t107) ++ (⟨#[10]⟩ : ByteArray))) l (l.length : Int) ((i + 1 : Nat) : Int) else (none)) else (none)) else (none))) else (none)) else (none)) else (some ((⟨#[]⟩ : ByteArray), 2)))) else (some ((⟨#[]⟩ : ByteArray), 2)))) else (some ((⟨#[]⟩ : ByteArray), 2)))) res → Ev (fun k => spec_SchedstatPrint.l0 k acc l (l.length : Int) (i : Int)) res := by
      intro res h
      refine Ev.step (fun k => ?_) h
      simp only [spec_SchedstatPrint.l0]
      rw [if_pos (by omega), if_pos (by omega), if_pos (by omega), hr, wrap_in (by omega) (by omega)]
      rfl
    cases b with
    | false =>
      exact ⟨⟨#[]⟩, 2, hstep _ (hE (fun k a => spec_SchedstatPrint.l0 k a l (l.length : Int) ((i + 1 : Nat) : Int)) acc ((⟨#[]⟩ : ByteArray), 2) (by omega) (fun h => by cases h) (fun _ => rfl)), fun h => by omega⟩
    | true =>
      obtain ⟨s, t, hS, hT⟩ := ih (acc ++ line) (i + 1) (by omega) (by omega) (by rw [ByteArray.size_append]; omega)
      refine ⟨s, t, hstep (s, t) (hE (fun k a => spec_SchedstatPrint.l0 k a l (l.length : Int) ((i + 1 : Nat) : Int)) acc (s, t) (by omega) (fun _ => hS) (fun h => by cases h)), fun h => ?_⟩
      obtain ⟨tl, os, e, hR⟩ := hT h
      obtain ⟨n, ts, vs, x, y, z, el, hn, hnl, ha2, h9, hv⟩ := hB rfl
      refine ⟨_, _, ?_, SsText.Rows.row hn hnl ha2 h9 hv hR⟩
      rw [e, app_data, el]
      simp
theorem print_is (l : List S48) (hl : l.length ≤ 200000) (hb : ∀ r ∈ l, RB r) : ∃ (s : ByteArray) (t : Int), Ev (fun k => spec_SchedstatPrint.f k l) (s, t) ∧ (t = 1 → ∃ (tl : List UInt8) (os : List (Option Cpu)), s.data.toList = (v15 ++ [10]) ++ ((stamp ++ [10]) ++ tl) ∧ SsText.Rows tl os) := by
  obtain ⟨s, t, h1, h2⟩ := print_go l hl hb l.length (⟨#[118, 101, 114, 115, 105, 111, 110, 32, 49, 53, 10, 116, 105, 109, 101, 115, 116, 97, 109, 112, 32, 52, 50, 57, 52, 56, 57, 50, 50, 57, 54, 10]⟩ : ByteArray) 0 (by omega) (by omega) (by decide)
  refine ⟨s, t, h1, fun h => ?_⟩
  obtain ⟨tl, os, e, hR⟩ := h2 h
  exact ⟨tl, os, by rw [e]; rfl, hR⟩
theorem ends_some (a b : ByteArray) (h : a.size ≤ 100000) (hb : b.size = 0) : ∃ eb, spec_Ends.f a b = some eb := by
  unfold spec_Ends.f
  rw [hb]
  rw [if_pos (by omega), wrap_in (by omega) (by omega), if_pos (by omega), if_pos (by omega)]
  exact ⟨_, rfl⟩
theorem rb_mk (x : ByteArray) (ns : List Int) (h : x.size ≤ 90000) (hn : ns.length ≤ 200000) (hv : ∀ v ∈ ns, 0 ≤ v ∧ v ≤ 18446744073709551615) : RB (⟨x.extract 0 x.size, ns, ([] : List ByteArray)⟩ : S48) := by
  refine ⟨?_, hn, hv⟩
  show (x.extract 0 x.size).size ≤ 100000
  rw [ByteArray.size_extract]
  omega
theorem j1_is (k : Nat) (e : ByteArray) (he : e.size = 0) (out : List S48) (f L : List ByteArray) (n i : Int) (hf : 1 ≤ (f.length : Int)) (hy : (rdOf ByteArray.empty f 0).size ≤ 90000) (ho : out.length ≤ 100000) :
    spec_table.j1 (k + 1) e out f L n i false = (spec_decimals.f k (f.drop 1)).bind fun t => if t.2 = true then spec_table.l0 k e (out ++ [(⟨(rdOf ByteArray.empty f 0).extract 0 (rdOf ByteArray.empty f 0).size, t.1, ([] : List ByteArray)⟩ : S48)]) L n (wrap64 (i + 1)) else some (([] : List (S48)), false) := by
  simp only [spec_table.j1]
  rw [if_neg (by simp), if_pos hf, he]
  generalize rdOf ByteArray.empty f 0 = y at hy ⊢
  have hw : wrap64 ((y.size : Int) - ((0 : Nat) : Int)) = (y.size : Int) := by
    rw [wrap_in (by omega) (by omega)]
    omega
  rw [hw]
  congr 1
  funext t
  by_cases ct : t.2 = true
  · rw [if_pos ct, if_pos ct, if_pos (by omega), if_pos (by omega), if_pos (by omega), if_pos (by omega), Int.toNat_natCast]
  · rw [if_neg ct, if_neg ct]
theorem table_go (L : List ByteArray) (hl : L.length ≤ 100000) (hs : ∀ x ∈ L, x.size ≤ 90000) (d : Nat) : ∀ (out : List S48) (i : Nat), i ≤ L.length → L.length - i = d → out.length ≤ i → (∀ r ∈ out, RB r) →
    ∃ (rows : List S48) (ok : Bool), Ev (fun k => spec_table.l0 k (⟨#[]⟩ : ByteArray) out L (L.length : Int) (i : Int)) (rows, ok) ∧ rows.length ≤ L.length ∧ ∀ r ∈ rows, RB r := by
  induction d with
  | zero =>
    intro out i h1 hd ho hb
    refine ⟨out, true, Ev.step (f := fun _ => some (out, true)) (fun k => ?_) (Ev.now _), by omega, hb⟩
    simp only [spec_table.l0]
    rw [if_neg (by omega)]
  | succ d ih =>
    intro out i h1 hd ho hb
    have hi : i < L.length := by omega
    have hm : L.getD i ByteArray.empty ∈ L := by
      rw [List.getD_eq_getElem?_getD, List.getElem?_eq_getElem hi]
      exact List.getElem_mem hi
    have hxs := hs _ hm
    have hrd : rdOf ByteArray.empty L (i : Int) = L.getD i ByteArray.empty := by simp [rdOf]
    generalize L.getD i ByteArray.empty = x at hm hxs hrd
    have hlx := len_data x
    have hF := fields_ev x (by omega)
    have hws : (wordsL x.data.toList).length ≤ 90001 := by
      have := wordsGo_size x.data.toList []
      unfold wordsL
      omega
    have hwm : ∀ y ∈ (wordsL x.data.toList).map toB, y.size ≤ 90000 := by
      intro y hy
      obtain ⟨w, hw, rfl⟩ := List.mem_map.1 hy
      have := (wordsGo_mem _ [] w hw).2.1
      rw [toB_size]
      simp at this
      omega
    have hwl : ((wordsL x.data.toList).map toB).length ≤ 90001 := by rw [List.length_map]; exact hws
    generalize (wordsL x.data.toList).map toB = f at hF hwm hwl
    have bad : ∀ k, spec_table.j1 (k + 1) (⟨#[]⟩ : ByteArray) out f L (L.length : Int) (i : Int) true = some ([], false) := by
      intro k
      simp only [spec_table.j1]
      rw [if_pos trivial]
    have nob : ∀ r ∈ ([] : List S48), RB r := fun r h => by cases h
    by_cases c0 : (f.length : Int) = 0
    · refine ⟨[], false, Ev.step (f := fun k => (spec_Fields.f k x).bind fun t115 => (if (t115.length : Int) = 0 then (spec_table.j1 k (⟨#[]⟩ : ByteArray) out t115 L (L.length : Int) (i : Int) true) else (if 0 < (t115.length : Int) then ((spec_Ends.f (rdOf ByteArray.empty t115 0) (⟨#[]⟩ : ByteArray)).bind fun t119 => (spec_table.j1 k (⟨#[]⟩ : ByteArray) out t115 L (L.length : Int) (i : Int) (!t119))) else (none)))) (fun k => ?_) (Ev.bind hF (Ev.congr (fun k => by rw [if_pos c0]) (Ev.step (f := fun _ => some ([], false)) bad (Ev.now _)))), by simp, nob⟩
      simp only [spec_table.l0]
      rw [if_pos (by omega), if_pos (by omega), if_pos (by omega), hrd]
    · have hm0 : rdOf ByteArray.empty f 0 ∈ f := by
        have hf0 : 0 < f.length := by omega
        rw [show rdOf ByteArray.empty f 0 = f.getD 0 ByteArray.empty by simp [rdOf], List.getD_eq_getElem?_getD, List.getElem?_eq_getElem hf0]
        exact List.getElem_mem hf0
      have hs0 := hwm _ hm0
      have hz0 : ((⟨#[]⟩ : ByteArray).size : Int) = 0 := rfl
      have hw0 : wrap64 (((rdOf ByteArray.empty f 0).size : Int) - ((⟨#[]⟩ : ByteArray).size : Int)) = ((rdOf ByteArray.empty f 0).size : Int) := by
        rw [hz0, wrap_in (by omega) (by omega)]
        omega
      obtain ⟨eb, hEnds⟩ := ends_some (rdOf ByteArray.empty f 0) (⟨#[]⟩ : ByteArray) (Nat.le_trans hs0 (by omega)) (by rfl)
      have hgo : ∀ res, Ev (fun k => spec_table.j1 k (⟨#[]⟩ : ByteArray) out f L (L.length : Int) (i : Int) (!eb)) res → Ev (fun k => spec_table.l0 k (⟨#[]⟩ : ByteArray) out L (L.length : Int) (i : Int)) res := by
        intro res h
        refine Ev.step (f := fun k => (spec_Fields.f k x).bind fun t115 => (if (t115.length : Int) = 0 then (spec_table.j1 k (⟨#[]⟩ : ByteArray) out t115 L (L.length : Int) (i : Int) true) else (if 0 < (t115.length : Int) then ((spec_Ends.f (rdOf ByteArray.empty t115 0) (⟨#[]⟩ : ByteArray)).bind fun t119 => (spec_table.j1 k (⟨#[]⟩ : ByteArray) out t115 L (L.length : Int) (i : Int) (!t119))) else (none)))) (fun k => ?_) (Ev.bind hF (Ev.congr (fun k => by rw [if_neg c0, if_pos (by omega), hEnds, Option.bind_some]) h))
        simp only [spec_table.l0]
        rw [if_pos (by omega), if_pos (by omega), if_pos (by omega), hrd]
      cases eb with
      | false =>
        simp only [Bool.not_false] at hgo
        exact ⟨[], false, hgo ([], false) (Ev.step (f := fun _ => some ([], false)) bad (Ev.now _)), by simp, nob⟩
      | true =>
        obtain ⟨ns, ok, hD, hok⟩ := decimals_ev (f.drop 1) (by rw [List.length_drop]; omega) (fun y hy => by have := hwm y (List.mem_of_mem_drop hy); omega)
        have hii : ((i + 1 : Nat) : Int) = (i : Int) + 1 := by omega
        have hj : ∀ res, Ev (fun k => (spec_decimals.f k (f.drop 1)).bind fun bt124 => (if bt124.2 = true then (spec_table.l0 k (⟨#[]⟩ : ByteArray) (out ++ [(⟨(rdOf ByteArray.empty f 0).extract 0 (rdOf ByteArray.empty f 0).size, bt124.1, ([] : List ByteArray)⟩ : S48)]) L (L.length : Int) ((i + 1 : Nat) : Int)) else (some (([] : List (S48)), false)))) res → Ev (fun k => spec_table.j1 k (⟨#[]⟩ : ByteArray) out f L (L.length : Int) (i : Int) (!true)) res := by
          intro res h
          refine Ev.step (fun k => ?_) h
          rw [Bool.not_true, j1_is k _ (by rfl) out f L _ _ (by omega) hs0 (by omega), wrap_in (by omega) (by omega), hii]
        cases ok with
        | false => exact ⟨[], false, hgo _ (hj _ (Ev.bind hD (Ev.congr (f := fun _ => some ([], false)) (fun k => by rw [if_neg (by simp)]) (Ev.now _)))), by simp, nob⟩
        | true =>
          have hall := hok rfl
          have hnl := allDec_len _ _ hall
          have hRB : RB (⟨(rdOf ByteArray.empty f 0).extract 0 (rdOf ByteArray.empty f 0).size, ns, ([] : List ByteArray)⟩ : S48) := by
            refine rb_mk _ _ hs0 (by rw [← hnl, List.length_drop]; omega) (fun v hv => ?_)
            obtain ⟨j, hj2, rfl⟩ := List.getElem_of_mem hv
            have := allDec_get _ _ hall j (by omega)
            rw [List.getD_eq_getElem?_getD (l := ns), List.getElem?_eq_getElem hj2] at this
            exact ⟨this.1, this.2.1⟩
          obtain ⟨rows, ok2, hE, hR1, hR2⟩ := ih (out ++ [(⟨(rdOf ByteArray.empty f 0).extract 0 (rdOf ByteArray.empty f 0).size, ns, ([] : List ByteArray)⟩ : S48)]) (i + 1) (by omega) (by omega) (by simp; omega) (fun r h => by
            rcases List.mem_append.1 h with h | h
            · exact hb r h
            · rw [List.mem_singleton.1 h]; exact hRB)
          exact ⟨rows, ok2, hgo _ (hj _ (Ev.bind hD (Ev.congr (fun k => by rw [if_pos rfl]) hE))), hR1, hR2⟩
def Told (a0 : ByteArray) (l : List S48) (ok : Bool) (told : Int) : Prop := told = 1 → ok = true ∧ Ev (fun k => spec_SchedstatPrint.f k l) (a0, 1) ∧ ∃ (n1 : ByteArray) (n2 : Int) (n3 : Bool) (n4 n5 : Int) (n6 : Nat) (n7 : ByteArray) (n8 : List S35), Ev (fun k => impl_Schedstat.f k a0) (n1, n2, n3, n4, n5, n6, n7, n8, 0) ∧ good 3 n8
theorem meant_is (a0 : ByteArray) (ha : a0.size ≤ 40000) (rows : List S48) (ok : Bool) (hl : rows.length ≤ 200000) (hb : ∀ r ∈ rows, RB r) : ∃ (l : List S48) (ok2 : Bool) (told : Int), Ev (fun k => spec_meant__SchedstatPrint.f k a0 rows ok false) (l, ok2, told) ∧ Told a0 l ok2 told := by
  obtain ⟨s, t, hPr, ht⟩ := print_is rows hl hb
  obtain ⟨pb, hPl, _⟩ := plain_ev a0 (by omega)
  have no : Told a0 [] false 2 := fun h => by omega
  cases ok with
  | false =>
    refine ⟨[], false, 2, Ev.step (f := fun _ => some ([], false, 2)) (fun k => ?_) (Ev.now _), no⟩
    unfold spec_meant__SchedstatPrint.f
    rw [if_neg (by simp)]
    simp only [spec_meant__SchedstatPrint.j0]
    rw [if_pos trivial]
  | true =>
    have h1 : ∀ res, Ev (fun k => spec_meant__SchedstatPrint.j0 k a0 rows false (!pb)) res → Ev (fun k => spec_meant__SchedstatPrint.f k a0 rows true false) res := fun res h =>
      Ev.congr (f := fun k => (spec_Plain.f k a0).bind fun t133 => (spec_meant__SchedstatPrint.j0 k a0 rows false (!t133))) (fun k => by unfold spec_meant__SchedstatPrint.f; rw [if_pos rfl]) (Ev.bind hPl h)
    cases pb with
    | false =>
      refine ⟨[], false, 2, h1 _ (Ev.step (f := fun _ => some ([], false, 2)) (fun k => ?_) (Ev.now _)), no⟩
      simp only [spec_meant__SchedstatPrint.j0]
      rw [if_pos (by rfl)]
    | true =>
      have hj : ∀ res, Ev (fun k => (spec_SchedstatPrint.f k rows).bind fun bt134 => (if bt134.2 = 1 then (if bt134.1.toList = a0.toList then (some (rows, true, 1)) else (some (([] : List (S48)), false, 2))) else (some (([] : List (S48)), false, 2)))) res → Ev (fun k => spec_meant__SchedstatPrint.f k a0 rows true false) res := by
        intro res h
        refine h1 _ (Ev.step (fun k => ?_) h)
        simp only [spec_meant__SchedstatPrint.j0]
        rw [if_neg (by simp)]
        simp
      by_cases c : t = 1
      · by_cases c2 : s.toList = a0.toList
        · have hs : s = a0 := (toList_eq_iff _ _).1 c2
          subst hs
          obtain ⟨tl, zs, e, hR⟩ := ht c
          subst c
          refine ⟨rows, true, 1, hj _ (Ev.bind hPr (Ev.congr (f := fun _ => some (rows, true, 1)) (fun k => by dsimp only; rw [if_pos rfl, if_pos rfl]) (Ev.now _))), fun _ => ⟨rfl, hPr, door_ok s ha tl zs e hR⟩⟩
        · exact ⟨[], false, 2, hj _ (Ev.bind hPr (Ev.congr (f := fun _ => some ([], false, 2)) (fun k => by dsimp only; rw [if_pos c, if_neg c2]) (Ev.now _))), no⟩
      · exact ⟨[], false, 2, hj _ (Ev.bind hPr (Ev.congr (f := fun _ => some ([], false, 2)) (fun k => by dsimp only; rw [if_neg c]) (Ev.now _))), no⟩
theorem begins_is (a : ByteArray) (h : a.size ≤ 100000) : ∃ b, spec_Begins.f a (⟨#[99, 112, 117]⟩ : ByteArray) = some b ∧ (b = true → 3 ≤ a.size) := by
  obtain ⟨c, hc⟩ : ∃ c : ByteArray, c = (⟨#[99, 112, 117]⟩ : ByteArray) := ⟨_, rfl⟩
  have hs : c.size = 3 := by rw [hc]; rfl
  rw [← hc]
  unfold spec_Begins.f
  by_cases k : (a.size : Int) ≥ (c.size : Int)
  · rw [if_pos k, if_pos (by omega), if_pos (by omega)]
    exact ⟨_, rfl, fun _ => by omega⟩
  · rw [if_neg k]
    exact ⟨_, rfl, fun h => by cases h⟩
theorem set_mem {α : Type} : ∀ (l : List α) (i : Nat) (a x : α), x ∈ l.set i a → x = a ∨ x ∈ l
  | [], _, _, _, h => .inr h
  | b :: l, 0, a, x, h => by
    rcases List.mem_cons.1 h with h | h
    · exact .inl h
    · exact .inr (List.mem_cons_of_mem _ h)
  | b :: l, i + 1, a, x, h => by
    rcases List.mem_cons.1 h with h | h
    · exact .inr (by rw [h]; exact List.mem_cons_self)
    · rcases set_mem l i a x h with h | h
      · exact .inl h
      · exact .inr (List.mem_cons_of_mem _ h)
theorem names_go (a0 : ByteArray) (ha : a0.size ≤ 40000) (ok : Bool) (n : Nat) (hn : n ≤ 200000) (d : Nat) : ∀ (rows : List S48) (i : Nat), rows.length = n → i ≤ n → n - i = d → (∀ r ∈ rows, RB r) →
    ∃ (l : List S48) (ok2 : Bool) (told : Int), Ev (fun k => spec_SchedstatRead.l0 k a0 rows ok (n : Int) (i : Int)) (l, ok2, told) ∧ Told a0 l ok2 told := by
  induction d with
  | zero =>
    intro rows i hl h1 hd hb
    obtain ⟨l, ok2, told, hM, hT⟩ := meant_is a0 ha rows ok (by omega) hb
    refine ⟨l, ok2, told, Ev.step (f := fun k => (spec_meant__SchedstatPrint.f k a0 rows ok false).bind fun bt145 => (some (bt145.1, bt145.2.1, bt145.2.2))) (fun k => ?_) (Ev.bind hM (Ev.now _)), hT⟩
    simp only [spec_SchedstatRead.l0]
    rw [if_neg (by omega)]
  | succ d ih =>
    intro rows i hl h1 hd hb
    have hi : i < rows.length := by omega
    have hm : rows.getD i z48 ∈ rows := by
      rw [List.getD_eq_getElem?_getD, List.getElem?_eq_getElem hi]
      exact List.getElem_mem hi
    have hr : rd_T48 rows (i : Int) = rows.getD i z48 := by simp [rd_T48]
    have hR := hb _ hm
    generalize rows.getD i z48 = r at hr hR
    obtain ⟨b, hB, hB2⟩ := begins_is r.f0 hR.1
    cases b with
    | false =>
      refine ⟨[], false, 2, Ev.step (f := fun _ => some ([], false, 2)) (fun k => ?_) (Ev.now _), fun h => by omega⟩
      simp only [spec_SchedstatRead.l0]
      rw [if_pos (by omega), if_pos (by omega), if_pos (by omega), hr, hB]
      rfl
    | true =>
      have h3 := hB2 rfl
      obtain ⟨l, ok2, told, hE, hT⟩ := ih (rows.set i ⟨r.f0.extract 3 r.f0.size, r.f1, r.f2⟩) (i + 1) (by rw [List.length_set]; exact hl) (by omega) (by omega) (fun x hx => by
        rcases set_mem _ _ _ _ hx with rfl | hx
        · refine ⟨?_, hR.2.1, hR.2.2⟩
          show (r.f0.extract 3 r.f0.size).size ≤ 100000
          have := hR.1
          rw [ByteArray.size_extract]
          omega
        · exact hb x hx)
      refine ⟨l, ok2, told, Ev.step (fun k => ?_) hE, hT⟩
      simp only [spec_SchedstatRead.l0]
      rw [if_pos (by omega), if_pos (by omega), if_pos (by omega), hr, hB]
      simp only [Option.bind_some]
      rw [if_pos trivial, if_pos (by omega), wrap_in (by omega) (by omega), Int.toNat_natCast]
      rfl
theorem read_ev (a0 : ByteArray) (ha : a0.size ≤ 40000) : ∃ (l : List S48) (ok : Bool) (told : Int), Ev (fun k => spec_SchedstatRead.f k a0) (l, ok, told) ∧ Told a0 l ok told := by
  have hlen := len_data a0
  have hL := lines_ev a0 (by omega)
  have hc : ((linesL a0.data.toList).map toB).length ≤ 40001 := by
    have := lines_count a0.data.toList []
    rw [List.length_map]
    unfold linesL
    omega
  have hm : ∀ x ∈ (linesL a0.data.toList).map toB, x.size ≤ 90000 := by
    intro x hx
    obtain ⟨w, hw, rfl⟩ := List.mem_map.1 hx
    have := linesGo_len _ [] w hw
    rw [toB_size]
    simp at this
    omega
  generalize (linesL a0.data.toList).map toB = L at hL hc hm
  by_cases c : (L.length : Int) < 2
  · exact ⟨[], false, 2, Ev.bind hL (Ev.congr (f := fun _ => some ([], false, 2)) (fun k => by rw [if_pos c]) (Ev.now _)), fun h => by omega⟩
  · obtain ⟨rows, ok, hT, hr1, hr2⟩ := table_go (L.drop 2) (by rw [List.length_drop]; omega) (fun x hx => hm x (List.mem_of_mem_drop hx)) (L.drop 2).length [] 0 (by omega) (by omega) (by simp) (fun r h => by cases h)
    obtain ⟨l, ok2, told, hM, hTold⟩ := names_go a0 ha ok rows.length (by rw [List.length_drop] at hr1; omega) rows.length rows 0 rfl (by omega) (by omega) hr2
    refine ⟨l, ok2, told, Ev.bind hL (Ev.congr (fun k => by rw [if_neg c, if_pos (by omega)]) (Ev.bind (g := fun k => spec_table.f k (L.drop 2) (⟨#[]⟩ : ByteArray)) hT hM)), hTold⟩
theorem normal_ev (a0 : ByteArray) : Ev (fun k => laws_normal__Schedstat.f k a0) true := by
  by_cases c : (a0.size : Int) > 40000
  · exact Ev.congr (f := fun _ => some true) (fun k => by unfold laws_normal__Schedstat.f; rw [if_pos c]) (Ev.now _)
  · obtain ⟨l, ok, told, hR, hprop⟩ := read_ev a0 (by omega)
    have hpre : ∀ (h : Ev (fun k => if told = 1 then (laws_normal__Schedstat.j0 k a0 l (!ok)) else (laws_normal__Schedstat.j0 k a0 l true)) true), Ev (fun k => laws_normal__Schedstat.f k a0) true := fun h =>
      Ev.congr (fun k => by unfold laws_normal__Schedstat.f; rw [if_neg c]) (Ev.bind hR h)
    by_cases ct : told = 1
    · obtain ⟨rfl, hPr, n1, n2, n3, n4, n5, n6, n7, n8, hD, hg⟩ := hprop ct
      obtain ⟨l', g', hN⟩ := toNode_ev 3 n8 hg
      have hS := same_ev 3 l' g' n1 n2 n3 n4 n5 n6 n7
      refine hpre (Ev.congr (f := fun k => laws_normal__Schedstat.j0 k a0 l false) (fun k => by rw [if_pos ct]; rfl) (Ev.step (f := fun k => (spec_SchedstatPrint.f k l).bind fun bt218 => (if bt218.2 = 1 then (laws_normal__Schedstat.j1 k a0 bt218.1 (decide ((bt218.1.size : Int) > 40000))) else (laws_normal__Schedstat.j1 k a0 bt218.1 true))) (fun k => by simp only [laws_normal__Schedstat.j0]; rw [if_neg (by simp)]) (Ev.bind hPr ?_)))
      refine Ev.congr (f := fun k => laws_normal__Schedstat.j1 k a0 a0 false) (fun k => by dsimp only; rw [if_pos rfl, decide_eq_false c]) ?_
      refine Ev.step (f := fun k => (impl_Schedstat.f k a0).bind fun bt159 => ((impl_Schedstat.f k a0).bind fun bt171 => (if bt159.2.2.2.2.2.2.2.2 = 0 then (if bt171.2.2.2.2.2.2.2.2 = 0 then ((laws_toNode.f k bt159.1 bt159.2.1 bt159.2.2.1 bt159.2.2.2.1 bt159.2.2.2.2.1 bt159.2.2.2.2.2.1 bt159.2.2.2.2.2.2.1 bt159.2.2.2.2.2.2.2.1).bind fun bt183 => ((laws_toNode.f k bt171.1 bt171.2.1 bt171.2.2.1 bt171.2.2.2.1 bt171.2.2.2.2.1 bt171.2.2.2.2.2.1 bt171.2.2.2.2.2.2.1 bt171.2.2.2.2.2.2.2.1).bind fun bt193 => ((spec_SameNode.f k bt183.1 bt183.2.1 bt183.2.2.1 bt183.2.2.2.1 bt183.2.2.2.2.1 bt183.2.2.2.2.2.1 bt183.2.2.2.2.2.2.1 bt183.2.2.2.2.2.2.2 bt193.1 bt193.2.1 bt193.2.2.1 bt193.2.2.2.1 bt193.2.2.2.2.1 bt193.2.2.2.2.2.1 bt193.2.2.2.2.2.2.1 bt193.2.2.2.2.2.2.2).bind fun t203 => (if t203 = true then ((laws_lives.f).bind fun t204 => (some t204)) else (none))))) else (none)) else (none)))) (fun k => by simp only [laws_normal__Schedstat.j1]; rw [if_neg (by simp)]) ?_
      refine Ev.bind hD (Ev.bind hD ?_)
      refine Ev.congr (f := fun k => (laws_toNode.f k n1 n2 n3 n4 n5 n6 n7 n8).bind fun bt245 => ((laws_toNode.f k n1 n2 n3 n4 n5 n6 n7 n8).bind fun bt255 => ((spec_SameNode.f k bt245.1 bt245.2.1 bt245.2.2.1 bt245.2.2.2.1 bt245.2.2.2.2.1 bt245.2.2.2.2.2.1 bt245.2.2.2.2.2.2.1 bt245.2.2.2.2.2.2.2 bt255.1 bt255.2.1 bt255.2.2.1 bt255.2.2.2.1 bt255.2.2.2.2.1 bt255.2.2.2.2.2.1 bt255.2.2.2.2.2.2.1 bt255.2.2.2.2.2.2.2).bind fun t265 => (if t265 = true then ((laws_lives.f).bind fun t266 => (some t266)) else (none))))) (fun k => ?_) (Ev.bind (hN n1 n2 n3 n4 n5 n6 n7) (Ev.bind (hN n1 n2 n3 n4 n5 n6 n7) (Ev.bind hS (Ev.now _))))
      dsimp only
      rw [if_pos rfl, if_pos rfl]
    · refine hpre (Ev.congr (f := fun k => laws_normal__Schedstat.j0 k a0 l true) (fun k => by rw [if_neg ct]) (Ev.step (f := fun _ => some true) (fun k => ?_) (Ev.now _)))
      simp only [laws_normal__Schedstat.j0]
      rw [if_pos trivial]
      rfl
theorem FnSchedstatNormal : laws_FnSchedstatNormal.Pure := by
  intro a0 ha
  obtain ⟨K, hK⟩ := normal_ev a0
  refine ⟨K, ?_⟩
  unfold laws_FnSchedstatNormal.f
  by_cases c : (a0.size : Int) > 2147483647
  · rw [if_pos c]
  · rw [if_neg c, show laws_normal__Schedstat.f K a0 = some true from hK K (Nat.le_refl _)]
    rfl
end Go.Proofs.YtdmpbaanonafbaaGreatDoor.Pure
