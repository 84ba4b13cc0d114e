/- mountinfo.GetMountsFromReader without a filter, of any text of moderate size: the rows, or an error at the first line that is refused. -/
import Derived.Test.YtokojamaigebaaaDoorMtLoop
import Derived.Test.YtokojamaigebaaaDoorMtScan
set_option linter.unusedVariables false
set_option linter.unusedSimpArgs false
namespace Go.Proofs.YtokojamaigebaaaDoor.MtLoopE
open Go.RowKit Go.Proofs.YtokojamaigebaaaDoorW.PrintWords Go.Proofs.YtokojamaigebaaaDoorW.PrintLast Go.Proofs.YtokojamaigebaaaDoorW.PrintMore Go.Proofs.YtokojamaigebaaaDoor.Scan Go.Proofs.YtokojamaigebaaaDoor.ScanL Go.Proofs.YtokojamaigebaaaDoor.MtScan Go.Proofs.YtokojamaigebaaaDoor.GivM Go.Proofs.YtokojamaigebaaaDoor.M Go.Proofs.YtokojamaigebaaaDoor.U Go.Proofs.YtokojamaigebaaaDoor.MtLoop Go.Proofs.YtokojamaigebaaaDoorPt
/-- A line that is refused: too few fields, no dash behind the sixth, no colon in the third. -/
def BadL (l : ByteArray) : Prop := ∃ (ku : Nat) (ps : List ByteArray), mountinfo_zzSplit.f ku l (⟨#[32]⟩ : ByteArray) = some ps ∧ ps.length ≤ 1000000 ∧
  (ps.length < 10 ∨ (10 ≤ ps.length ∧ ∀ j : Int, 6 ≤ j → j + 4 ≤ ps.length → ¬ (rdOf ByteArray.empty ps j).toList = [45]) ∨ ∃ (a1 : Int) (a2 a3 : ByteArray), SepAt ps a1 ∧ mountinfo_zzCut.f ku (rdOf ByteArray.empty ps 2) (⟨#[58]⟩ : ByteArray) = some (a2, a3, false))
/-- What comes back: the rows and no error, or nothing and an error. -/
def ResE (w w' : World) (o : Option (List S23)) (v er : Value) : Prop :=
  (∃ zs, o = some zs ∧ er = .nilIface ∧ Kd.R pmnt 58 w' w.heap.size (fun _ => True) v zs) ∨ (o = none ∧ v = .slice none 0 0 ∧ ∃ T x, er = .iface T x)
set_option maxHeartbeats 4000000 in
set_option maxRecDepth 100000 in
theorem newErr_is (t : ByteArray) (w : World) : Calls Tryd.prog 43 #[.string t] w fun e w' => ∃ g, e = .returned (.iface 89 (.pointer (some ⟨g, 0, none⟩))) ∧ Below w.heap.size w w' := by
  have hu := Tryd.underlying91
  go_enter Tryd.func43, Tryd.ntmps43
  go_wp2
  go_ret
  exact ⟨_, rfl, below_alloc (Below.refl _ _) _⟩
set_option maxHeartbeats 16000000 in
set_option maxRecDepth 100000 in
theorem mtLoopE_is (t : ByteArray) (o : Option (List S23)) (w : World) (hr : ScanE MtL BadL t o) (hl : t.size ≤ 1000000) (hTabs : MTabs w) :
    Calls Tryd.prog 25 #[.string t, .nilFunc] w fun e w' => ∃ v er, e = .returned (.tuple #[v, er]) ∧ ResE w w' o v er ∧ Below w.heap.size w w' := by
  have hu59 := Tryd.underlying59
  have HR := Lib.hid hr
  have HT := Lib.hid hTabs
  have HLZ := Lib.hid hl
  clear hr hTabs hl
  have HB0 := Aside0.mk (Below.refl w.heap.size w)
  go_enter Tryd.func25, Tryd.ntmps25
  go_wp2_with (first
    | (go_at_call 39; refine (newLines_is _ _).mono ?_; rintro e w2 ⟨g, rfl, hg, hblk, hb⟩
       have BK := Aside0.mk hblk
       have HG := Aside0.mk (show w.heap.size ≤ g by rw [hg]; exact below_size HB0.out)
       have n0' := Aside0.mk (below_step HB0.out hb); clear HB0; have HB0 := n0'; clear n0' hb hblk hg)
    | ((with_reducible refine gate_dst (N := 21) rfl ?_); refine Kd.R_lit pmnt (w0 := w) w.heap.size 58 ?hg (N := 21) ?hd (xs := []) (inner := []) (ok := fun k => k ≠ g) (okp := fun _ => False) ?hr ?hp (fun _ hk => hk.elim) ?hf HB0.out (below_size HB0.out) (by simp) ?_; (case hd => rfl); (case hg => rfl); (case hr => first | (go_simp; done) | (go_simp; rfl)); (case hp => exact ⟨rfl, fun j p hj => by simp at hj⟩); (case hf => intro he; have := blk_lt BK.out; omega)
       intro v21 w1 ho hb3 hg3 hat
       have n1 := Aside0.mk (blk_grown BK.out hg3 (by simp)); clear BK; have BK := n1; clear n1
       have HO := Aside0.mk ho
       have n0 := Aside0.mk hb3; clear HB0; have HB0 := n0; clear n0 ho hb3 hg3 hat))
  go_loopg [7] t.size (fun kq v7 w' => ∃ (t1 line : ByteArray) (xs : List S23) (o1 : Option (List S23)), Aside0 (o1.map (xs ++ ·) = o) ∧ Aside0 (xs.length + t1.size ≤ 1000000) ∧ Aside0 (ScanE MtL BadL t1 o1) ∧ Aside0 (t1.size ≤ kq) ∧ Aside0 (w'.heap[g]? = some (scn t1 line)) ∧ Aside0 (Kd.R pmnt 58 w' w.heap.size (fun k_ => k_ ≠ g) v7 xs) ∧ Aside0 (Below w.heap.size w w'))
  case atStart => exact ⟨_, _, [], o, ⟨by cases o <;> rfl⟩, ⟨by have := HLZ.out; rw [List.length_nil]; omega⟩, ⟨HR.out⟩, ⟨Nat.le_refl _⟩, BK, HO, HB0⟩
  case round =>
    obtain ⟨t1, line, xs, o1, hz, hyl, hrun, hk0, hblk, hro, hbw⟩ := hrel
    clear HB0 BK HR HO
    have hrun := hrun.out
    cases hrun with
    | done =>
      go_wp2_with (first
        | (go_at_call 40; refine (scan_no g line _ hblk.out).mono ?_; rintro e w4 ⟨rfl, hb2, hkb, hbl⟩
           have n0 := Aside0.mk (Kd.R_keep hro.out hkb (fun _ h => h)); clear hro; have hro := n0; clear n0
           have n0 := Aside0.mk hb2; clear hblk; have hblk := n0; clear n0
           have n0 := Aside0.mk (hbl _ hbw.out HG.out); clear hbw; have hbw := n0; clear n0 hb2 hkb hbl)
        | (go_at_call 48; refine (err_is g _ _ _ hblk.out).mono ?_; rintro e w5 ⟨rfl, rfl⟩))
      go_ret2
      refine ⟨_, _, rfl, .inl ⟨xs, by have := hz.out; rw [Option.map_some, List.append_nil] at this; exact this.symm, rfl, Kd.R_mono hro.out (fun _ _ => trivial)⟩, hbw.out⟩
    | @bad _ n hL0 hB0 =>
      obtain ⟨ku, ps, f1, few, hcase⟩ := hB0
      have hL := Lib.hid hL0
      have hS := Lib.hid f1
      have hFW := Lib.hid few
      have hw4 : IntKind.i64.wrap ((ps.length : Int) - 4) = (ps.length : Int) - 4 := by rw [IntKind.wrap_i64]; omega
      clear hL0 f1
      rcases hcase with hlt | ⟨hge, hno⟩ | ⟨a1, a2, a3, hSep0, hCut0⟩
      · have c10 : decide ((ps.length : Int) < 10) = true := decide_eq_true (by omega)
        clear hlt few hw4
        go_wp2_with (first
          | (go_at_call 40; refine (scan_any g t1 line n _ hblk.out hL.out).mono ?_; rintro e w4 ⟨rfl, hb2, hkb, hbl⟩
             have n0 := Aside0.mk (Kd.R_keep hro.out hkb (fun _ h => h)); clear hro; have hro := n0; clear n0
             have n0 := Aside0.mk hb2; clear hblk; have hblk := n0; clear n0
             have n0 := Aside0.mk (hbl _ hbw.out HG.out); clear hbw; have hbw := n0; clear n0 hb2 hkb hbl)
          | (go_at_call 41; refine (text_is g _ _ _ hblk.out).mono ?_; rintro e w5 ⟨rfl, rfl⟩)
          | (go_at_call 42; refine (mountinfo_zzSplit.calls ku _ _ ps _ hS.out).mono ?_; rintro e w6 ⟨v, rfl, ho, hb⟩; obtain ⟨AF, cp, rfl, hcp, hC⟩ := Kd.R_reads ho
             have CO := Aside0.mk hC
             have HC0 := Aside0.mk hcp
             have n0 := Aside0.mk (Kd.R_below hro.out hb); clear hro; have hro := n0; clear n0
             have n0 := Aside0.mk (blk_below hblk.out hb); clear hblk; have hblk := n0; clear n0
             have n0 := Aside0.mk (below_step hbw.out hb); clear hbw; have hbw := n0; clear n0 hb ho hC hcp)
          | (go_at_call 43; refine (newErr_is _ _).mono ?_; rintro e w9 ⟨g9, rfl, hb9⟩; have n0 := Aside0.mk (below_step hbw.out hb9); clear hbw; have hbw := n0; clear n0 hb9))
        go_ret2
        refine ⟨_, _, rfl, .inr ⟨hz.out.symm, rfl, _, _, rfl⟩, hbw.out⟩
      · have c10 : decide ((ps.length : Int) < 10) = false := decide_eq_false (by omega)
        have HN := Lib.hid (show 10 ≤ (ps.length : Int) ∧ ps.length ≤ 1000000 from ⟨by omega, few⟩)
        have HNO := Lib.hid hno
        clear hge hno few
        go_wp2_with (first
          | (go_at_call 40; refine (scan_any g t1 line n _ hblk.out hL.out).mono ?_; rintro e w4 ⟨rfl, hb2, hkb, hbl⟩
             have n0 := Aside0.mk (Kd.R_keep hro.out hkb (fun _ h => h)); clear hro; have hro := n0; clear n0
             have n0 := Aside0.mk hb2; clear hblk; have hblk := n0; clear n0
             have n0 := Aside0.mk (hbl _ hbw.out HG.out); clear hbw; have hbw := n0; clear n0 hb2 hkb hbl)
          | (go_at_call 41; refine (text_is g _ _ _ hblk.out).mono ?_; rintro e w5 ⟨rfl, rfl⟩)
          | (go_at_call 42; refine (mountinfo_zzSplit.calls ku _ _ ps _ hS.out).mono ?_; rintro e w6 ⟨v, rfl, ho, hb⟩; obtain ⟨AF, cp, rfl, hcp, hC⟩ := Kd.R_reads ho
             have CO := Aside0.mk hC
             have HC0 := Aside0.mk hcp
             have n0 := Aside0.mk (Kd.R_below hro.out hb); clear hro; have hro := n0; clear n0
             have n0 := Aside0.mk (blk_below hblk.out hb); clear hblk; have hblk := n0; clear n0
             have n0 := Aside0.mk (below_step hbw.out hb); clear hbw; have hbw := n0; clear n0 hb ho hC hcp))
        obtain ⟨adF, eF, _⟩ := Kd.at_string CO.out 0 (by decide) (by have := HN.out; omega)
        subst eF
        go_loopg [11] ps.length (fun kq v11 w' => w' = w6 ∧ ∃ j : Int, v11 = .int .i64 j ∧ Aside0 (6 ≤ j ∧ j + 4 ≤ ps.length) ∧ Aside0 ((j - 6).toNat ≤ kq))
        case atStart => exact ⟨rfl, (ps.length : Int) - 4, rfl, ⟨by have := HN.out; omega⟩, ⟨by have := HN.out; omega⟩⟩
        case round =>
          obtain ⟨rfl, j, rfl, hj, hkj⟩ := hrel
          have hj1 := hj.out.1
          have hj2 := hj.out.2
          have HNo := HN.out
          obtain ⟨ad', e', hxj⟩ := Kd.at_string CO.out j (by omega) (by omega)
          obtain rfl : adF = ad' := by injection e'
          have p0 : (0 : Int) ≤ j := by omega
          have p1 : j < (ps.length : Int) := by omega
          have hne : ((rdOf ByteArray.empty ps j).toList == [45]) = false := beq_eq_false_iff_ne.2 (HNO.out j (by omega) hj2)
          have hw1 : IntKind.i64.wrap (j - 1) = j - 1 := by rw [IntKind.wrap_i64]; omega
          have hlk := hkj.out
          clear HNo e'
          by_cases c : j = 6
          · have h5 : (j - 1 == 5) = true := beq_iff_eq.2 (by omega)
            clear c
            go_wp2_with (first
              | (go_at_call 43; refine (newErr_is _ _).mono ?_; rintro e w9 ⟨g9, rfl, hb9⟩; have n0 := Aside0.mk (below_step hbw.out hb9); clear hbw; have hbw := n0; clear n0 hb9))
            go_ret2
            refine ⟨_, _, rfl, .inr ⟨hz.out.symm, rfl, _, _, rfl⟩, hbw.out⟩
          · have h5 : (j - 1 == 5) = false := beq_eq_false_iff_ne.2 (by omega)
            go_wp2
            go_roundg ((j - 1 - 6).toNat)
            case measure => omega
            case rel => exact ⟨rfl, j - 1, rfl, ⟨by omega⟩, ⟨Nat.le_refl _⟩⟩
      · have hlo := hSep0.lo
        have hhi := hSep0.hi
        have hSep := Lib.hid hSep0
        have hCut := Lib.hid hCut0
        have HN := Lib.hid (show 10 ≤ (ps.length : Int) ∧ ps.length ≤ 1000000 from ⟨by omega, few⟩)
        have HA1 := Lib.hid (show 6 ≤ a1 ∧ a1 + 4 ≤ (ps.length : Int) from ⟨hlo, hhi⟩)
        have c10 : decide ((ps.length : Int) < 10) = false := decide_eq_false (by omega)
        clear hSep0 hCut0 hlo hhi few
        go_wp2_with (first
          | (go_at_call 40; refine (scan_any g t1 line n _ hblk.out hL.out).mono ?_; rintro e w4 ⟨rfl, hb2, hkb, hbl⟩
             have n0 := Aside0.mk (Kd.R_keep hro.out hkb (fun _ h => h)); clear hro; have hro := n0; clear n0
             have n0 := Aside0.mk hb2; clear hblk; have hblk := n0; clear n0
             have n0 := Aside0.mk (hbl _ hbw.out HG.out); clear hbw; have hbw := n0; clear n0 hb2 hkb hbl)
          | (go_at_call 41; refine (text_is g _ _ _ hblk.out).mono ?_; rintro e w5 ⟨rfl, rfl⟩)
          | (go_at_call 42; refine (mountinfo_zzSplit.calls ku _ _ ps _ hS.out).mono ?_; rintro e w6 ⟨v, rfl, ho, hb⟩; obtain ⟨AF, cp, rfl, hcp, hC⟩ := Kd.R_reads ho
             have CO := Aside0.mk hC
             have HC0 := Aside0.mk hcp
             have n0 := Aside0.mk (Kd.R_below hro.out hb); clear hro; have hro := n0; clear n0
             have n0 := Aside0.mk (blk_below hblk.out hb); clear hblk; have hblk := n0; clear n0
             have n0 := Aside0.mk (below_step hbw.out hb); clear hbw; have hbw := n0; clear n0 hb ho hC hcp))
        obtain ⟨adF, eF, _⟩ := Kd.at_string CO.out 0 (by decide) (by have := HN.out; omega)
        subst eF
        go_loopg [11] ps.length (fun kq v11 w' => w' = w6 ∧ ∃ j : Int, v11 = .int .i64 j ∧ Aside0 (a1 ≤ j ∧ j + 4 ≤ ps.length) ∧ Aside0 ((j - a1).toNat ≤ kq))
        case atStart => exact ⟨rfl, (ps.length : Int) - 4, rfl, ⟨by have := HA1.out; omega⟩, ⟨by have := HA1.out; omega⟩⟩
        case round =>
          obtain ⟨rfl, j, rfl, hj, hkj⟩ := hrel
          have hj1 := hj.out.1
          have hj2 := hj.out.2
          have HNo := HN.out
          have HAo := HA1.out
          obtain ⟨ad', e', hxj⟩ := Kd.at_string CO.out j (by omega) (by omega)
          obtain rfl : adF = ad' := by injection e'
          have p0 : (0 : Int) ≤ j := by omega
          have p1 : j < (ps.length : Int) := by omega
          by_cases c : j = a1
          · have heq : ((rdOf ByteArray.empty ps j).toList == [45]) = true := by rw [c]; exact beq_iff_eq.2 hSep.out.is
            subst c
            obtain ⟨ad2, e2, hx2⟩ := Kd.at_string CO.out 2 (by decide) (by omega)
            obtain rfl : adF = ad2 := by injection e2
            rw [show adF.add ((2 : Int)).toNat = (⟨adF.block, adF.off + 2, none⟩ : Addr) from by simp [Addr.add]] at hx2
            have p2 : (2 : Int) < (ps.length : Int) := by omega
            clear hj1 hj2 HNo HAo e' e2
            go_wp2_with fail
            refine (mountinfo_zzCut.calls ku (rdOf ByteArray.empty ps 2) (⟨#[58]⟩ : ByteArray) a2 a3 false _ hCut.out).mono ?_
            rintro e wz ⟨rfl, ⟨nd, hnd⟩⟩
            have hb := (show Below wr.heap.size wr wz by rw [hnd]; exact pw_below_drewN (Below.refl _ _) nd)
            have n0 := Aside0.mk (below_step hbw.out hb); clear hbw; have hbw := n0; clear n0 hb hnd hxj hx2 heq p0 p1 p2
            go_wp2_with (first
              | (go_at_call 43; refine (newErr_is _ _).mono ?_; rintro e w9 ⟨g9, rfl, hb9⟩; have n0 := Aside0.mk (below_step hbw.out hb9); clear hbw; have hbw := n0; clear n0 hb9))
            go_ret2
            refine ⟨_, _, rfl, .inr ⟨hz.out.symm, rfl, _, _, rfl⟩, hbw.out⟩
          · have hne : ((rdOf ByteArray.empty ps j).toList == [45]) = false := beq_eq_false_iff_ne.2 (hSep.out.no j (by omega) hj2)
            have hw1 : IntKind.i64.wrap (j - 1) = j - 1 := by rw [IntKind.wrap_i64]; omega
            have h5 : (j - 1 == 5) = false := beq_eq_false_iff_ne.2 (by omega)
            have hlk := hkj.out
            clear HNo HAo e'
            go_wp2
            go_roundg ((j - 1 - a1).toNat)
            case measure => omega
            case rel => exact ⟨rfl, j - 1, rfl, ⟨by have := HA1.out; omega⟩, ⟨Nat.le_refl _⟩⟩
    | @row _ n m o' hL0 hP0 hrest0 =>
      obtain ⟨ku, ps, a1, a2, a3, f1, f2, f3, f4, f5, f6, f7, f8, f9, f10, f11, f12, f13, f14, f15⟩ := hP0
      have hL := Lib.hid hL0
      have hrest := Lib.hid hrest0
      have hlt0 := Lib.hid (rest_size t1 n hL0.hne)
      have hS := Lib.hid f1
      have hSep := Lib.hid f2
      have hCut := Lib.hid f3
      have A6 := Aside0.mk f4
      have A8 := Aside0.mk f5
      have A9 := Aside0.mk f6
      have A10 := Aside0.mk f7
      have A12 := Aside0.mk f8
      have A14 := Aside0.mk f9
      have Q6 := Lib.hid f10
      have A18 := Aside0.mk f11
      have F12 := Lib.hid f12
      have F13 := Lib.hid f13
      have F14 := Lib.hid f14
      have F15 := Lib.hid f15
      have hlen := Aside0.mk (show xs.length + 1 ≤ 1000000 by have h1 := hyl.out; have := hL0.hne; omega)
      have hlo := f2.lo
      have hhi := f2.hi
      have hfew := f2.few
      have HN := Lib.hid (show 10 ≤ (ps.length : Int) ∧ ps.length ≤ 1000000 from ⟨by omega, hfew⟩)
      have HA1 := Lib.hid (show 6 ≤ a1 ∧ a1 + 4 ≤ (ps.length : Int) from ⟨hlo, hhi⟩)
      have c10 : decide ((ps.length : Int) < 10) = false := decide_eq_false (by omega)
      have hw4 : IntKind.i64.wrap ((ps.length : Int) - 4) = (ps.length : Int) - 4 := by rw [IntKind.wrap_i64]; omega
      clear hL0 hrest0 f1 f2 f3 f4 f5 f6 f7 f8 f9 f10 f11 f12 f13 f14 f15 hlo hhi hfew
      go_wp2_with (first
        | (go_at_call 40; refine (scan_any g t1 line n _ hblk.out hL.out).mono ?_; rintro e w4 ⟨rfl, hb2, hkb, hbl⟩
           have n0 := Aside0.mk (Kd.R_keep hro.out hkb (fun _ h => h)); clear hro; have hro := n0; clear n0
           have n0 := Aside0.mk hb2; clear hblk; have hblk := n0; clear n0
           have n0 := Aside0.mk (hbl _ hbw.out HG.out); clear hbw; have hbw := n0; clear n0 hb2 hkb hbl)
        | (go_at_call 41; refine (text_is g _ _ _ hblk.out).mono ?_; rintro e w5 ⟨rfl, rfl⟩)
        | (go_at_call 42; refine (mountinfo_zzSplit.calls ku _ _ ps _ hS.out).mono ?_; rintro e w6 ⟨v, rfl, ho, hb⟩; obtain ⟨AF, cp, rfl, hcp, hC⟩ := Kd.R_reads ho
           have CO := Aside0.mk hC
           have HC0 := Aside0.mk hcp
           have n0 := Aside0.mk (Kd.R_below hro.out hb); clear hro; have hro := n0; clear n0
           have n0 := Aside0.mk (blk_below hblk.out hb); clear hblk; have hblk := n0; clear n0
           have n0 := Aside0.mk (below_step hbw.out hb); clear hbw; have hbw := n0; clear n0 hb ho hC hcp))
      obtain ⟨adF, eF, _⟩ := Kd.at_string CO.out 0 (by decide) (by have := HN.out; omega)
      subst eF
      go_loopg [11] ps.length (fun kq v11 w' => w' = w6 ∧ ∃ j : Int, v11 = .int .i64 j ∧ Aside0 (a1 ≤ j ∧ j + 4 ≤ ps.length) ∧ Aside0 ((j - a1).toNat ≤ kq))
      case atStart => exact ⟨rfl, (ps.length : Int) - 4, rfl, ⟨by have := HA1.out; omega⟩, ⟨by have := HA1.out; omega⟩⟩
      case round =>
        obtain ⟨rfl, j, rfl, hj, hkj⟩ := hrel
        have hj1 := hj.out.1
        have hj2 := hj.out.2
        have HNo := HN.out
        have HAo := HA1.out
        obtain ⟨ad', e', hxj⟩ := Kd.at_string CO.out j (by omega) (by omega)
        obtain rfl : adF = ad' := by injection e'
        have p0 : (0 : Int) ≤ j := by omega
        have p1 : j < (ps.length : Int) := by omega
        by_cases c : j = a1
        · have heq : ((rdOf ByteArray.empty ps j).toList == [45]) = true := by rw [c]; exact beq_iff_eq.2 hSep.out.is
          subst c
          obtain ⟨ad2, e2, hx2⟩ := Kd.at_string CO.out 2 (by decide) (by omega)
          obtain rfl : adF = ad2 := by injection e2
          rw [show adF.add ((2 : Int)).toNat = (⟨adF.block, adF.off + 2, none⟩ : Addr) from by simp [Addr.add]] at hx2
          have p2 : (2 : Int) < (ps.length : Int) := by omega
          clear hj1 hj2 HNo HAo e' e2
          go_wp2_with fail
          refine (mountinfo_zzCut.calls ku (rdOf ByteArray.empty ps 2) (⟨#[58]⟩ : ByteArray) a2 a3 true _ hCut.out).mono ?_
          rintro e wz ⟨rfl, ⟨nd, hnd⟩⟩
          have hb := (show Below wr.heap.size wr wz by rw [hnd]; exact pw_below_drewN (Below.refl _ _) nd)
          have n0 := Aside0.mk (Kd.R_below hro.out hb); clear hro; have hro := n0; clear n0
          have n0 := Aside0.mk (blk_below hblk.out hb); clear hblk; have hblk := n0; clear n0
          have HR0 := Aside0.mk (Kd.C_below CO.out hb); clear CO
          have n0 := Aside0.mk (below_step hbw.out hb); clear hbw; have hbw := n0; clear n0 hb hnd hxj hx2 heq p0 p1 p2
          go_wp2_with fail
          have HT := Lib.hid (MTabs.below HT.out hbw.out)
          have HB := Aside0.mk (Below.refl wz.heap.size wz)
          have HA2 := HA1.out
          have HN2 := HN.out
          have c5b0 : decide (0 < (ps.length : Int)) = true := decide_eq_true (by omega)
          have c5b1 : decide (0 < ps.length) = true := decide_eq_true (by omega)
          have c7b0 : decide (1 < (ps.length : Int)) = true := decide_eq_true (by omega)
          have c7b1 : decide (1 < ps.length) = true := decide_eq_true (by omega)
          have c11b0 : decide (3 < (ps.length : Int)) = true := decide_eq_true (by omega)
          have c11b1 : decide (3 < ps.length) = true := decide_eq_true (by omega)
          have c13b0 : decide (4 < (ps.length : Int)) = true := decide_eq_true (by omega)
          have c13b1 : decide (4 < ps.length) = true := decide_eq_true (by omega)
          have c15b0 : decide (5 < (ps.length : Int)) = true := decide_eq_true (by omega)
          have c15b1 : decide (5 < ps.length) = true := decide_eq_true (by omega)
          have c16b0 := eq_true (show 6 ≤ j by omega)
          have c16b1 : decide (6 ≤ j) = true := decide_eq_true (by omega)
          have c17b0 := eq_true (show j ≤ (ps.length : Int) by omega)
          have c17b1 : decide (j ≤ (ps.length : Int)) = true := decide_eq_true (by omega)
          have hv1 : wrap64 (j + 1) = j + 1 := by rw [← i64_w, IntKind.wrap_i64]; omega
          have hv2 : wrap64 (j + 2) = j + 2 := by rw [← i64_w, IntKind.wrap_i64]; omega
          have hv3 : wrap64 (j + 3) = j + 3 := by rw [← i64_w, IntKind.wrap_i64]; omega
          obtain ⟨ji19, hji19⟩ : ∃ j_ : Int, (wrap64 (j + 1)) = j_ := ⟨_, rfl⟩
          obtain ⟨ji23, hji23⟩ : ∃ j_ : Int, (wrap64 (j + 2)) = j_ := ⟨_, rfl⟩
          obtain ⟨ji27, hji27⟩ : ∃ j_ : Int, (wrap64 (j + 3)) = j_ := ⟨_, rfl⟩
          have A22 := Aside0.mk (show mountinfo_unescape.f ku (rdOf ByteArray.empty ps ji19) = some m.f8 by rw [← hji19, hv1]; exact F12.out)
          have A26 := Aside0.mk (show mountinfo_unescape.f ku (rdOf ByteArray.empty ps ji23) = some m.f9 by rw [← hji23, hv2]; exact F13.out)
          have Q10 := Lib.hid (show rdOf ByteArray.empty ps ji27 = m.f10 by rw [← hji27, hv3]; exact F14.out)
          have hji19w : (IntKind.i64.wrap (j + 1)) = ji19 := (i64_w _).trans hji19
          have hji23w : (IntKind.i64.wrap (j + 2)) = ji23 := (i64_w _).trans hji23
          have hji27w : (IntKind.i64.wrap (j + 3)) = ji27 := (i64_w _).trans hji27
          have c20b0 : decide (0 ≤ ji19) = true := decide_eq_true (by omega)
          have c21b0 : decide (ji19 < (ps.length : Int)) = true := decide_eq_true (by omega)
          have c24b0 : decide (0 ≤ ji23) = true := decide_eq_true (by omega)
          have c25b0 : decide (ji23 < (ps.length : Int)) = true := decide_eq_true (by omega)
          have c28b0 : decide (0 ≤ ji27) = true := decide_eq_true (by omega)
          have c29b0 : decide (ji27 < (ps.length : Int)) = true := decide_eq_true (by omega)
          clear hv1 hv2 hv3 HA2 HN2
          have n0_ := Aside0.mk (below_drew1 HB.out)
          clear HB
          have HB := n0_
          clear n0_
          have p110 : 0 ≤ (0 : Int) := (by omega)
          have q110 : 0 < (ps.length : Int) := of_decide_eq_true (by first | (with_reducible assumption) | assumption)
          obtain ⟨ad110, e110, hx110_0⟩ := Kd.at_string HR0.out 0 p110 q110
          have hw110_0 := hx110_0
          (try rw [show ((0 : Int)).toNat = 0 from rfl] at hw110_0)
          (try rw [show 0 * 1 = 0 from rfl] at hw110_0)
          (try rw [Addr.add_zero'] at hw110_0)
          obtain rfl : adF = ad110 := (by injection e110)
          have qi110 : (0 < ps.length) = True := eq_true (by omega)
          (try rw [show ((0 : Int)).toNat = 0 from rfl] at hx110_0)
          (try rw [Addr.add_zero'] at hx110_0)
          replace hx110_0 := (HB.out.cell (World.block_lt_of_cell? wz _ hx110_0)).trans hx110_0
          replace p110 := eq_true p110
          replace q110 := eq_true q110
          have p112 : 0 ≤ (1 : Int) := (by omega)
          have q112 : 1 < (ps.length : Int) := of_decide_eq_true (by first | (with_reducible assumption) | assumption)
          obtain ⟨ad112, e112, hx112_0⟩ := Kd.at_string HR0.out 1 p112 q112
          have hw112_0 := hx112_0
          (try rw [show ((1 : Int)).toNat = 1 from rfl] at hw112_0)
          (try rw [show 1 * 1 = 1 from rfl] at hw112_0)
          (try simp only [Nat.reduceMul, Nat.reduceEqDiff, Go.Addr.add, ↓reduceIte] at hw112_0)
          obtain rfl : adF = ad112 := (by injection e112)
          (try simp only [show (1 : Int).toNat = 1 from rfl, Nat.reduceMul, Nat.reduceEqDiff, Go.Addr.add, ↓reduceIte] at hx112_0)
          have qi112 : (1 < ps.length) = True := eq_true (by omega)
          (try rw [show ((1 : Int)).toNat = 1 from rfl] at hx112_0)
          replace hx112_0 := (HB.out.cell (World.block_lt_of_cell? wz _ hx112_0)).trans hx112_0
          replace p112 := eq_true p112
          replace q112 := eq_true q112
          have p116 : 0 ≤ (3 : Int) := (by omega)
          have q116 : 3 < (ps.length : Int) := of_decide_eq_true (by first | (with_reducible assumption) | assumption)
          obtain ⟨ad116, e116, hx116_0⟩ := Kd.at_string HR0.out 3 p116 q116
          have hw116_0 := hx116_0
          (try rw [show ((3 : Int)).toNat = 3 from rfl] at hw116_0)
          (try rw [show 3 * 1 = 3 from rfl] at hw116_0)
          (try simp only [Nat.reduceMul, Nat.reduceEqDiff, Go.Addr.add, ↓reduceIte] at hw116_0)
          obtain rfl : adF = ad116 := (by injection e116)
          (try simp only [show (3 : Int).toNat = 3 from rfl, Nat.reduceMul, Nat.reduceEqDiff, Go.Addr.add, ↓reduceIte] at hx116_0)
          have qi116 : (3 < ps.length) = True := eq_true (by omega)
          (try rw [show ((3 : Int)).toNat = 3 from rfl] at hx116_0)
          replace hx116_0 := (HB.out.cell (World.block_lt_of_cell? wz _ hx116_0)).trans hx116_0
          replace p116 := eq_true p116
          replace q116 := eq_true q116
          have p118 : 0 ≤ (4 : Int) := (by omega)
          have q118 : 4 < (ps.length : Int) := of_decide_eq_true (by first | (with_reducible assumption) | assumption)
          obtain ⟨ad118, e118, hx118_0⟩ := Kd.at_string HR0.out 4 p118 q118
          have hw118_0 := hx118_0
          (try rw [show ((4 : Int)).toNat = 4 from rfl] at hw118_0)
          (try rw [show 4 * 1 = 4 from rfl] at hw118_0)
          (try simp only [Nat.reduceMul, Nat.reduceEqDiff, Go.Addr.add, ↓reduceIte] at hw118_0)
          obtain rfl : adF = ad118 := (by injection e118)
          (try simp only [show (4 : Int).toNat = 4 from rfl, Nat.reduceMul, Nat.reduceEqDiff, Go.Addr.add, ↓reduceIte] at hx118_0)
          have qi118 : (4 < ps.length) = True := eq_true (by omega)
          (try rw [show ((4 : Int)).toNat = 4 from rfl] at hx118_0)
          replace hx118_0 := (HB.out.cell (World.block_lt_of_cell? wz _ hx118_0)).trans hx118_0
          replace p118 := eq_true p118
          replace q118 := eq_true q118
          have p120 : 0 ≤ (5 : Int) := (by omega)
          have q120 : 5 < (ps.length : Int) := of_decide_eq_true (by first | (with_reducible assumption) | assumption)
          obtain ⟨ad120, e120, hx120_0⟩ := Kd.at_string HR0.out 5 p120 q120
          have hw120_0 := hx120_0
          (try rw [show ((5 : Int)).toNat = 5 from rfl] at hw120_0)
          (try rw [show 5 * 1 = 5 from rfl] at hw120_0)
          (try simp only [Nat.reduceMul, Nat.reduceEqDiff, Go.Addr.add, ↓reduceIte] at hw120_0)
          obtain rfl : adF = ad120 := (by injection e120)
          (try simp only [show (5 : Int).toNat = 5 from rfl, Nat.reduceMul, Nat.reduceEqDiff, Go.Addr.add, ↓reduceIte] at hx120_0)
          have qi120 : (5 < ps.length) = True := eq_true (by omega)
          (try rw [show ((5 : Int)).toNat = 5 from rfl] at hx120_0)
          replace hx120_0 := (HB.out.cell (World.block_lt_of_cell? wz _ hx120_0)).trans hx120_0
          replace p120 := eq_true p120
          replace q120 := eq_true q120
          obtain ⟨i031, hi031, _, hsz31, _⟩ := info_parts Go.Proofs.YtokojamaigebaaaDoor.U.info9
          obtain ⟨A31, hcut31, hA31, hC31⟩ := print_mid_of (P := Tryd.prog) Value.string (⟨#[]⟩ : ByteArray) 31 9 .i64 .i64 Tryd.underlying31 hi031 hsz31 (some adF) cp ps 6 j (by omega) (by first | omega | exact of_decide_eq_true (by first | (with_reducible assumption) | assumption)) (of_decide_eq_true (by first | (with_reducible assumption) | assumption)) HC0.out
          have HR121 := Aside0.mk (Kd.C_of_reads (h1 := fun _ => rfl) (hA31 _ (Kd.reads_of_C HR0.out)))
          have HC121 := Aside0.mk hC31
          clear hA31 hC31 hi031 hsz31
          have p123 : 0 ≤ ((ji19) : Int) := of_decide_eq_true (by first | (with_reducible assumption) | assumption)
          have q123 : (ji19) < (ps.length : Int) := of_decide_eq_true (by first | (with_reducible assumption) | assumption)
          obtain ⟨ad123, e123, hx123_0⟩ := Kd.at_string HR0.out (ji19) p123 q123
          have hw123_0 := hx123_0
          obtain rfl : adF = ad123 := (by injection e123)
          replace hx123_0 := (HB.out.cell (World.block_lt_of_cell? wz _ hx123_0)).trans hx123_0
          replace p123 := eq_true p123
          replace q123 := eq_true q123
          have p125 : 0 ≤ ((ji23) : Int) := of_decide_eq_true (by first | (with_reducible assumption) | assumption)
          have q125 : (ji23) < (ps.length : Int) := of_decide_eq_true (by first | (with_reducible assumption) | assumption)
          obtain ⟨ad125, e125, hx125_0⟩ := Kd.at_string HR0.out (ji23) p125 q125
          have hw125_0 := hx125_0
          obtain rfl : adF = ad125 := (by injection e125)
          replace hx125_0 := (HB.out.cell (World.block_lt_of_cell? wz _ hx125_0)).trans hx125_0
          replace p125 := eq_true p125
          replace q125 := eq_true q125
          have p127 : 0 ≤ ((ji27) : Int) := of_decide_eq_true (by first | (with_reducible assumption) | assumption)
          have q127 : (ji27) < (ps.length : Int) := of_decide_eq_true (by first | (with_reducible assumption) | assumption)
          obtain ⟨ad127, e127, hx127_0⟩ := Kd.at_string HR0.out (ji27) p127 q127
          have hw127_0 := hx127_0
          obtain rfl : adF = ad127 := (by injection e127)
          replace hx127_0 := (HB.out.cell (World.block_lt_of_cell? wz _ hx127_0)).trans hx127_0
          replace p127 := eq_true p127
          replace q127 := eq_true q127
          refine start_ (n := 47) (S := fun w' => w'.cell? adF = some (.string (rdOf ByteArray.empty ps 0)) ∧ w'.cell? ⟨adF.block, adF.off + 1, none⟩ = some (.string (rdOf ByteArray.empty ps 1)) ∧ w'.cell? ⟨adF.block, adF.off + 3, none⟩ = some (.string (rdOf ByteArray.empty ps 3)) ∧ w'.cell? ⟨adF.block, adF.off + 4, none⟩ = some (.string (rdOf ByteArray.empty ps 4)) ∧ w'.cell? ⟨adF.block, adF.off + 5, none⟩ = some (.string (rdOf ByteArray.empty ps 5)) ∧ w'.cell? (adF.add ((ji19)).toNat) = some (.string (rdOf ByteArray.empty ps (ji19))) ∧ w'.cell? (adF.add ((ji23)).toNat) = some (.string (rdOf ByteArray.empty ps (ji23))) ∧ w'.cell? (adF.add ((ji27)).toNat) = some (.string (rdOf ByteArray.empty ps (ji27)))) (ds := []) (tfA 0 47) (by kernel_rfl) rfl rfl ⟨((HB.out.cell (World.block_lt_of_cell? wz _ hw110_0)).trans hw110_0), ((HB.out.cell (World.block_lt_of_cell? wz _ hw112_0)).trans hw112_0), ((HB.out.cell (World.block_lt_of_cell? wz _ hw116_0)).trans hw116_0), ((HB.out.cell (World.block_lt_of_cell? wz _ hw118_0)).trans hw118_0), ((HB.out.cell (World.block_lt_of_cell? wz _ hw120_0)).trans hw120_0), ((HB.out.cell (World.block_lt_of_cell? wz _ hw123_0)).trans hw123_0), ((HB.out.cell (World.block_lt_of_cell? wz _ hw125_0)).trans hw125_0), ((HB.out.cell (World.block_lt_of_cell? wz _ hw127_0)).trans hw127_0)⟩ (fun hHeld => ?_); refine with_tabW mt_tab17 mt_bits17 (fun HT_ HW_ => ?_)
          generalize wz.drew = w30 at HB HR121 hx110_0 hx112_0 hx116_0 hx118_0 hx120_0 hx123_0 hx125_0 hx127_0 hHeld ⊢
          refine pure_ (i := 0) (N := some 56) (v := ?_) (a' := ?_) (tfA 1 46) rfl rfl (any_of HT_.out (by kernel_rfl)) (fun _ _ _ h => h) (Or.inl ⟨by rfl, ?_⟩) ?_ ?_
          rotate_left
          ·intro w'
           go_simp
           with_reducible rfl
          rotate_left
          ·simp only [Act.put, sA, s0, s1, i64_w, i32_w]
           rfl
          refine pure_ (i := 1) (N := some 57) (v := ?_) (a' := ?_) (tfA 2 45) rfl rfl (any_of HT_.out (by kernel_rfl)) (fun _ _ _ h => h) (Or.inl ⟨by rfl, ?_⟩) ?_ ?_
          rotate_left
          ·intro w'
           go_simp
           with_reducible rfl
          rotate_left
          ·simp only [Act.put, sA, s0, s1, i64_w, i32_w]
           rfl
          refine pure_ (i := 4) (N := some 60) (v := ?_) (a' := ?_) (bnA 47 19) rfl rfl (any_of HT_.out (by kernel_rfl)) (fun _ _ _ h => h) (Or.inl ⟨by rfl, ?_⟩) ?_ ?_
          rotate_left
          ·intro w'
           go_simp
           with_reducible rfl
          rotate_left
          ·simp only [Act.put, sA, s0, s1, i64_w, i32_w]
           rfl
          refine pure_ (i := 5) (N := some 61) (v := ?_) (a' := ?_) (bnA 47 51) rfl rfl (any_of HT_.out (by kernel_rfl)) (fun _ _ _ h => h) (Or.inl ⟨by rfl, ?_⟩) ?_ ?_
          rotate_left
          ·intro w'
           go_simp
           with_reducible rfl
          rotate_left
          ·simp only [Act.put, sA, s0, s1, i64_w, i32_w]
           rfl
          refine pure_ (i := 8) (N := some 64) (v := ?_) (a' := ?_) (bnA 47 307) rfl rfl (any_of HT_.out (by kernel_rfl)) (fun _ _ _ h => h) (Or.inl ⟨by rfl, ?_⟩) ?_ ?_
          rotate_left
          ·intro w'
           go_simp
           with_reducible rfl
          rotate_left
          ·simp only [Act.put, sA, s0, s1, i64_w, i32_w]
           rfl
          refine pure_ (i := 10) (N := some 66) (v := ?_) (a' := ?_) (bnA 47 1331) rfl rfl (any_of HT_.out (by kernel_rfl)) (fun _ _ _ h => h) (Or.inl ⟨by rfl, ?_⟩) ?_ ?_
          rotate_left
          ·intro w'
           go_simp
           with_reducible rfl
          rotate_left
          ·simp only [Act.put, sA, s0, s1, i64_w, i32_w]
           rfl
          refine pure_ (i := 12) (N := some 68) (v := ?_) (a' := ?_) (bnA 47 5427) rfl rfl (any_of HT_.out (by kernel_rfl)) (fun _ _ _ h => h) (Or.inl ⟨by rfl, ?_⟩) ?_ ?_
          rotate_left
          ·intro w'
           go_simp
           with_reducible rfl
          rotate_left
          ·simp only [Act.put, sA, s0, s1, i64_w, i32_w]
           rfl
          refine pure_ (i := 13) (N := some 69) (v := ?_) (a' := ?_) (bnA 47 13619) rfl rfl (any_of HT_.out (by kernel_rfl)) (fun _ _ _ h => h) (Or.inl ⟨by rfl, ?_⟩) ?_ ?_
          rotate_left
          ·intro w'
           go_simp
           with_reducible rfl
          rotate_left
          ·simp only [Act.put, sA, s0, s1, i64_w, i32_w]
           rfl
          refine pure_ (i := 16) (N := some 72) (v := ?_) (a' := ?_) (bnA 47 79155) rfl rfl (any_of HT_.out (by kernel_rfl)) (fun _ _ _ h => h) (Or.inl ⟨by rfl, ?_⟩) ?_ ?_
          rotate_left
          ·intro w'
           go_simp
           with_reducible rfl
          rotate_left
          ·simp only [Act.put, sA, s0, s1, i64_w, i32_w]
           rfl
          refine pure_ (i := 17) (N := some 73) (v := ?_) (a' := ?_) (bnA 47 210227) rfl rfl (any_of HT_.out (by kernel_rfl)) (fun _ _ _ h => h) (Or.inl ⟨by rfl, ?_⟩) ?_ ?_
          rotate_left
          ·intro w'
           go_simp
           with_reducible rfl
          rotate_left
          ·simp only [Act.put, sA, s0, s1, i64_w, i32_w]
           rfl
          refine pure_ (i := 20) (N := some 76) (v := ?_) (a' := ?_) (bnA 47 1258803) rfl rfl (any_of HT_.out (by kernel_rfl)) (fun _ _ _ h => h) (Or.inl ⟨by rfl, ?_⟩) ?_ ?_
          rotate_left
          ·intro w'
           go_simp
           with_reducible rfl
          rotate_left
          ·simp only [Act.put, sA, s0, s1, i64_w, i32_w]
           rfl
          refine pure_ (i := 21) (N := some 77) (v := ?_) (a' := ?_) (bnA 47 3355955) rfl rfl (any_of HT_.out (by kernel_rfl)) (fun _ _ _ h => h) (Or.inl ⟨by rfl, ?_⟩) ?_ ?_
          rotate_left
          ·intro w'
           go_simp
           with_reducible rfl
          rotate_left
          ·simp only [Act.put, sA, s0, s1, i64_w, i32_w]
           rfl
          refine pure_ (i := 23) (N := some 79) (v := ?_) (a' := ?_) (bnA 47 11744563) rfl rfl (any_of HT_.out (by kernel_rfl)) (fun _ _ _ h => h) (Or.inl ⟨by rfl, ?_⟩) ?_ ?_
          rotate_left
          ·intro w'
           go_simp
           with_reducible rfl
          rotate_left
          ·simp only [Act.put, sA, s0, s1, i64_w, i32_w]
           rfl
          refine pure_ (i := 24) (N := some 80) (v := ?_) (a' := ?_) (bnA 47 28521779) rfl rfl (any_of HT_.out (by kernel_rfl)) (fun _ _ _ h => h) (Or.inl ⟨by rfl, ?_⟩) ?_ ?_
          rotate_left
          ·intro w'
           go_simp
           with_reducible rfl
          rotate_left
          ·simp only [Act.put, sA, s0, s1, i64_w, i32_w]
           rfl
          refine pure_ (i := 25) (N := some 81) (v := ?_) (a' := ?_) (bnA 47 62076211) rfl rfl (any_of HT_.out (by kernel_rfl)) (fun _ _ _ h => h) (Or.inl ⟨by rfl, ?_⟩) ?_ ?_
          rotate_left
          ·intro w'
           go_simp
           with_reducible rfl
          rotate_left
          ·simp only [Act.put, sA, s0, s1, i64_w, i32_w]
           rfl
          refine pure_ (i := 27) (N := some 83) (v := ?_) (a' := ?_) (bnA 47 196293939) rfl rfl (any_of HT_.out (by kernel_rfl)) (fun _ _ _ h => h) (Or.inl ⟨by rfl, ?_⟩) ?_ ?_
          rotate_left
          ·intro w'
           go_simp
           with_reducible rfl
          rotate_left
          ·simp only [Act.put, sA, s0, s1, i64_w, i32_w]
           rfl
          refine pure_ (i := 28) (N := some 84) (v := ?_) (a' := ?_) (bnA 47 464729395) rfl rfl (any_of HT_.out (by kernel_rfl)) (fun _ _ _ h => h) (Or.inl ⟨by rfl, ?_⟩) ?_ ?_
          rotate_left
          ·intro w'
           go_simp
           with_reducible rfl
          rotate_left
          ·simp only [Act.put, sA, s0, s1, i64_w, i32_w]
           rfl
          refine pure_ (i := 29) (N := some 85) (v := ?_) (a' := ?_) (bnA 47 1001600307) rfl rfl (any_of HT_.out (by kernel_rfl)) (fun _ _ _ h => h) (Or.inl ⟨by rfl, ?_⟩) ?_ ?_
          rotate_left
          ·intro w'
           go_simp
           with_reducible rfl
          rotate_left
          ·simp only [Act.put, sA, s0, s1, i64_w, i32_w]
           rfl
          refine pure_ (i := 30) (N := some 86) (v := ?_) (a' := ?_) (bnA 47 2075342131) rfl rfl (any_of HT_.out (by kernel_rfl)) (fun _ _ _ h => h) (Or.inl ⟨by rfl, ?_⟩) ?_ ?_
          rotate_left
          ·intro w'
           go_simp
           with_reducible rfl
          rotate_left
          ·simp only [Act.put, sA, s0, s1, i64_w, i32_w]
           rfl
          refine pure_ (i := 33) (N := some 89) (v := ?_) (a' := ?_) (bnA 47 10665276723) rfl rfl (any_of HT_.out (by kernel_rfl)) (fun _ _ _ h => h) (Or.inl ⟨by rfl, ?_⟩) ?_ ?_
          rotate_left
          ·intro w'
           go_simp
           with_reducible rfl
          rotate_left
          ·simp only [Act.put, sA, s0, s1, i64_w, i32_w]
           rfl
          refine pure_ (i := 34) (N := some 90) (v := ?_) (a' := ?_) (bnA 47 27845145907) rfl rfl (any_of HT_.out (by kernel_rfl)) (fun _ _ _ h => h) (Or.inl ⟨by rfl, ?_⟩) ?_ ?_
          rotate_left
          ·intro w'
           go_simp
           with_reducible rfl
          rotate_left
          ·simp only [Act.put, sA, s0, s1, i64_w, i32_w]
           rfl
          refine pure_ (i := 35) (N := some 91) (v := ?_) (a' := ?_) (bnA 47 62204884275) rfl rfl (any_of HT_.out (by kernel_rfl)) (fun _ _ _ h => h) (Or.inl ⟨by rfl, ?_⟩) ?_ ?_
          rotate_left
          ·intro w'
           go_simp
           with_reducible rfl
          rotate_left
          ·simp only [Act.put, sA, s0, s1, i64_w, i32_w]
           rfl
          refine pure_ (i := 36) (N := some 92) (v := ?_) (a' := ?_) (bnA 47 130924361011) rfl rfl (any_of HT_.out (by kernel_rfl)) (fun _ _ _ h => h) (Or.inl ⟨by rfl, ?_⟩) ?_ ?_
          rotate_left
          ·intro w'
           go_simp
           with_reducible rfl
          rotate_left
          ·simp only [Act.put, sA, s0, s1, i64_w, i32_w]
           rfl
          refine pure_ (i := 39) (N := some 95) (v := ?_) (a' := ?_) (bnA 47 680680174899) rfl rfl (any_of HT_.out (by kernel_rfl)) (fun _ _ _ h => h) (Or.inl ⟨by rfl, ?_⟩) ?_ ?_
          rotate_left
          ·intro w'
           go_simp
           with_reducible rfl
          rotate_left
          ·simp only [Act.put, sA, s0, s1, i64_w, i32_w]
           rfl
          refine pure_ (i := 40) (N := some 96) (v := ?_) (a' := ?_) (bnA 47 1780191802675) rfl rfl (any_of HT_.out (by kernel_rfl)) (fun _ _ _ h => h) (Or.inl ⟨by rfl, ?_⟩) ?_ ?_
          rotate_left
          ·intro w'
           go_simp
           with_reducible rfl
          rotate_left
          ·simp only [Act.put, sA, s0, s1, i64_w, i32_w]
           rfl
          refine pure_ (i := 41) (N := some 97) (v := ?_) (a' := ?_) (bnA 47 3979215058227) rfl rfl (any_of HT_.out (by kernel_rfl)) (fun _ _ _ h => h) (Or.inl ⟨by rfl, ?_⟩) ?_ ?_
          rotate_left
          ·intro w'
           go_simp
           with_reducible rfl
          rotate_left
          ·simp only [Act.put, sA, s0, s1, i64_w, i32_w]
           rfl
          refine pure_ (i := 42) (N := some 98) (v := ?_) (a' := ?_) (bnA 47 8377261569331) rfl rfl (any_of HT_.out (by kernel_rfl)) (fun _ _ _ h => h) (Or.inl ⟨by rfl, ?_⟩) ?_ ?_
          rotate_left
          ·intro w'
           go_simp
           with_reducible rfl
          rotate_left
          ·simp only [Act.put, sA, s0, s1, i64_w, i32_w]
           rfl
          refine take_ (i := 2) (N := some 58) (v := ?_) (a' := ?_) (bnA 47 8377261569335) rfl rfl (take_ofW HT_.out HW_.out (by kernel_rfl)) (fun _ _ _ h => h) (Or.inl ⟨by rfl, ?_⟩) hHeld ?_ ?_
          rotate_left
          ·rintro w' ⟨s0, s1, s2, s3, s4, s5, s6, s7⟩
           go_simp
           with_reducible rfl
          rotate_left
          ·simp only [Act.put, sA, s0, s1, i64_w, i32_w]
           rfl
          refine take_ (i := 6) (N := some 62) (v := ?_) (a' := ?_) (bnA 47 8377261569399) rfl rfl (take_ofW HT_.out HW_.out (by kernel_rfl)) (fun _ _ _ h => h) (Or.inl ⟨by rfl, ?_⟩) hHeld ?_ ?_
          rotate_left
          ·rintro w' ⟨s0, s1, s2, s3, s4, s5, s6, s7⟩
           go_simp
           with_reducible rfl
          rotate_left
          ·simp only [Act.put, sA, s0, s1, i64_w, i32_w]
           rfl
          refine take_ (i := 14) (N := some 70) (v := ?_) (a' := ?_) (bnA 47 8377261585783) rfl rfl (take_ofW HT_.out HW_.out (by kernel_rfl)) (fun _ _ _ h => h) (Or.inl ⟨by rfl, ?_⟩) hHeld ?_ ?_
          rotate_left
          ·rintro w' ⟨s0, s1, s2, s3, s4, s5, s6, s7⟩
           go_simp
           with_reducible rfl
          rotate_left
          ·simp only [Act.put, sA, s0, s1, i64_w, i32_w]
           rfl
          refine take_ (i := 18) (N := some 74) (v := ?_) (a' := ?_) (bnA 47 8377261847927) rfl rfl (take_ofW HT_.out HW_.out (by kernel_rfl)) (fun _ _ _ h => h) (Or.inl ⟨by rfl, ?_⟩) hHeld ?_ ?_
          rotate_left
          ·rintro w' ⟨s0, s1, s2, s3, s4, s5, s6, s7⟩
           go_simp
           with_reducible rfl
          rotate_left
          ·simp only [Act.put, sA, s0, s1, i64_w, i32_w]
           rfl
          refine take_ (i := 22) (N := some 78) (v := ?_) (a' := ?_) (bnA 47 8377266042231) rfl rfl (take_ofW HT_.out HW_.out (by kernel_rfl)) (fun _ _ _ h => h) (Or.inl ⟨by rfl, ?_⟩) hHeld ?_ ?_
          rotate_left
          ·rintro w' ⟨s0, s1, s2, s3, s4, s5, s6, s7⟩
           go_simp
           with_reducible rfl
          rotate_left
          ·simp only [Act.put, sA, s0, s1, i64_w, i32_w]
           rfl
          refine take_ (i := 31) (N := some 87) (v := ?_) (a' := ?_) (bnA 47 8379413525879) rfl rfl (take_ofW HT_.out HW_.out (by kernel_rfl)) (fun _ _ _ h => h) (Or.inl ⟨by rfl, ?_⟩) hHeld ?_ ?_
          rotate_left
          ·rintro w' ⟨s0, s1, s2, s3, s4, s5, s6, s7⟩
           go_simp
           with_reducible rfl
          rotate_left
          ·simp only [Act.put, sA, s0, s1, i64_w, i32_w]
           rfl
          refine take_ (i := 37) (N := some 93) (v := ?_) (a' := ?_) (bnA 47 8516852479351) rfl rfl (take_ofW HT_.out HW_.out (by kernel_rfl)) (fun _ _ _ h => h) (Or.inl ⟨by rfl, ?_⟩) hHeld ?_ ?_
          rotate_left
          ·rintro w' ⟨s0, s1, s2, s3, s4, s5, s6, s7⟩
           go_simp
           with_reducible rfl
          rotate_left
          ·simp only [Act.put, sA, s0, s1, i64_w, i32_w]
           rfl
          refine take_ (i := 43) (N := some 99) (v := ?_) (a' := ?_) (bnA 47 17312945501559) rfl rfl (take_ofW HT_.out HW_.out (by kernel_rfl)) (fun _ _ _ h => h) (Or.inl ⟨by rfl, ?_⟩) hHeld ?_ ?_
          rotate_left
          ·rintro w' ⟨s0, s1, s2, s3, s4, s5, s6, s7⟩
           go_simp
           with_reducible rfl
          rotate_left
          ·simp only [Act.put, sA, s0, s1, i64_w, i32_w]
           rfl
          refine one_ (i := 3) (N := some 59) (bnA 47 17312945501567) rfl rfl (one_of HT_.out (by kernel_rfl)) (by decide) (fun K hK => ?_)
          refine goes_ Tryd.func45 (by kernel_rfl) rfl #[.string (rdOf ByteArray.empty ps 0)] (by rfl) rfl rfl (by (try simp only [List.map_toArray, List.map_cons, List.map_nil]); first | done | rfl | (simp only [List.length_drop, List.length_take]; rfl)) ?_
          with_reducible refine (mountinfo_toInt.calls (rdOf ByteArray.empty ps 0) (m.f0) _ A6.out).mono ?_
          rintro e w32 ⟨rfl, hb⟩
          refine ⟨_, rfl, ?_⟩
          have n0_ := Aside0.mk (below_step belH hb)
          clear HB
          have HB := n0_
          clear n0_
          (try clear hb)
          (try clear hb2)
          (try clear hk)
          (try clear hi)
          refine hK.out _ _ ⟨((HB.out.cell (World.block_lt_of_cell? wz _ hw110_0)).trans hw110_0), ((HB.out.cell (World.block_lt_of_cell? wz _ hw112_0)).trans hw112_0), ((HB.out.cell (World.block_lt_of_cell? wz _ hw116_0)).trans hw116_0), ((HB.out.cell (World.block_lt_of_cell? wz _ hw118_0)).trans hw118_0), ((HB.out.cell (World.block_lt_of_cell? wz _ hw120_0)).trans hw120_0), ((HB.out.cell (World.block_lt_of_cell? wz _ hw123_0)).trans hw123_0), ((HB.out.cell (World.block_lt_of_cell? wz _ hw125_0)).trans hw125_0), ((HB.out.cell (World.block_lt_of_cell? wz _ hw127_0)).trans hw127_0)⟩ (fun hHeld => ?_)
          clear hK K
          refine norm_ (a' := ?_) ?_ ?_
          rotate_left
          ·show Act.put _ (some 59) _ = _
           simp only [Act.put, sA, s0, s1, i64_w, i32_w]
           rfl
          refine one_ (i := 7) (N := some 63) (bnA 47 17312945501695) rfl rfl (one_of HT_.out (by kernel_rfl)) (by decide) (fun K hK => ?_)
          refine goes_ Tryd.func45 (by kernel_rfl) rfl #[.string (rdOf ByteArray.empty ps 1)] (by rfl) rfl rfl (by (try simp only [List.map_toArray, List.map_cons, List.map_nil]); first | done | rfl | (simp only [List.length_drop, List.length_take]; rfl)) ?_
          with_reducible refine (mountinfo_toInt.calls (rdOf ByteArray.empty ps 1) (m.f1) _ A8.out).mono ?_
          rintro e w33 ⟨rfl, hb⟩
          refine ⟨_, rfl, ?_⟩
          have n0_ := Aside0.mk (below_step belH hb)
          clear HB
          have HB := n0_
          clear n0_
          (try clear hb)
          (try clear hb2)
          (try clear hk)
          (try clear hi)
          refine hK.out _ _ ⟨((HB.out.cell (World.block_lt_of_cell? wz _ hw110_0)).trans hw110_0), ((HB.out.cell (World.block_lt_of_cell? wz _ hw112_0)).trans hw112_0), ((HB.out.cell (World.block_lt_of_cell? wz _ hw116_0)).trans hw116_0), ((HB.out.cell (World.block_lt_of_cell? wz _ hw118_0)).trans hw118_0), ((HB.out.cell (World.block_lt_of_cell? wz _ hw120_0)).trans hw120_0), ((HB.out.cell (World.block_lt_of_cell? wz _ hw123_0)).trans hw123_0), ((HB.out.cell (World.block_lt_of_cell? wz _ hw125_0)).trans hw125_0), ((HB.out.cell (World.block_lt_of_cell? wz _ hw127_0)).trans hw127_0)⟩ (fun hHeld => ?_)
          clear hK K
          refine norm_ (a' := ?_) ?_ ?_
          rotate_left
          ·show Act.put _ (some 63) _ = _
           simp only [Act.put, sA, s0, s1, i64_w, i32_w]
           rfl
          refine one_ (i := 9) (N := some 65) (bnA 47 17312945502207) rfl rfl (one_of HT_.out (by kernel_rfl)) (by decide) (fun K hK => ?_)
          refine goes_ Tryd.func45 (by kernel_rfl) rfl #[.string a2] (by rfl) rfl rfl (by (try simp only [List.map_toArray, List.map_cons, List.map_nil]); first | done | rfl | (simp only [List.length_drop, List.length_take]; rfl)) ?_
          with_reducible refine (mountinfo_toInt.calls a2 (m.f2) _ A9.out).mono ?_
          rintro e w34 ⟨rfl, hb⟩
          refine ⟨_, rfl, ?_⟩
          have n0_ := Aside0.mk (below_step belH hb)
          clear HB
          have HB := n0_
          clear n0_
          (try clear hb)
          (try clear hb2)
          (try clear hk)
          (try clear hi)
          refine hK.out _ _ ⟨((HB.out.cell (World.block_lt_of_cell? wz _ hw110_0)).trans hw110_0), ((HB.out.cell (World.block_lt_of_cell? wz _ hw112_0)).trans hw112_0), ((HB.out.cell (World.block_lt_of_cell? wz _ hw116_0)).trans hw116_0), ((HB.out.cell (World.block_lt_of_cell? wz _ hw118_0)).trans hw118_0), ((HB.out.cell (World.block_lt_of_cell? wz _ hw120_0)).trans hw120_0), ((HB.out.cell (World.block_lt_of_cell? wz _ hw123_0)).trans hw123_0), ((HB.out.cell (World.block_lt_of_cell? wz _ hw125_0)).trans hw125_0), ((HB.out.cell (World.block_lt_of_cell? wz _ hw127_0)).trans hw127_0)⟩ (fun hHeld => ?_)
          clear hK K
          refine norm_ (a' := ?_) ?_ ?_
          rotate_left
          ·show Act.put _ (some 65) _ = _
           simp only [Act.put, sA, s0, s1, i64_w, i32_w]
           rfl
          refine one_ (i := 11) (N := some 67) (bnA 47 17312945504255) rfl rfl (one_of HT_.out (by kernel_rfl)) (by decide) (fun K hK => ?_)
          refine goes_ Tryd.func45 (by kernel_rfl) rfl #[.string a3] (by rfl) rfl rfl (by (try simp only [List.map_toArray, List.map_cons, List.map_nil]); first | done | rfl | (simp only [List.length_drop, List.length_take]; rfl)) ?_
          with_reducible refine (mountinfo_toInt.calls a3 (m.f3) _ A10.out).mono ?_
          rintro e w35 ⟨rfl, hb⟩
          refine ⟨_, rfl, ?_⟩
          have n0_ := Aside0.mk (below_step belH hb)
          clear HB
          have HB := n0_
          clear n0_
          (try clear hb)
          (try clear hb2)
          (try clear hk)
          (try clear hi)
          refine hK.out _ _ ⟨((HB.out.cell (World.block_lt_of_cell? wz _ hw110_0)).trans hw110_0), ((HB.out.cell (World.block_lt_of_cell? wz _ hw112_0)).trans hw112_0), ((HB.out.cell (World.block_lt_of_cell? wz _ hw116_0)).trans hw116_0), ((HB.out.cell (World.block_lt_of_cell? wz _ hw118_0)).trans hw118_0), ((HB.out.cell (World.block_lt_of_cell? wz _ hw120_0)).trans hw120_0), ((HB.out.cell (World.block_lt_of_cell? wz _ hw123_0)).trans hw123_0), ((HB.out.cell (World.block_lt_of_cell? wz _ hw125_0)).trans hw125_0), ((HB.out.cell (World.block_lt_of_cell? wz _ hw127_0)).trans hw127_0)⟩ (fun hHeld => ?_)
          clear hK K
          refine norm_ (a' := ?_) ?_ ?_
          rotate_left
          ·show Act.put _ (some 67) _ = _
           simp only [Act.put, sA, s0, s1, i64_w, i32_w]
           rfl
          refine one_ (i := 15) (N := some 71) (bnA 47 17312945537023) rfl rfl (one_of HT_.out (by kernel_rfl)) (by decide) (fun K hK => ?_)
          refine goes_ Tryd.func46 (by kernel_rfl) rfl #[.string (rdOf ByteArray.empty ps 3)] (by rfl) rfl rfl (by (try simp only [List.map_toArray, List.map_cons, List.map_nil]); first | done | rfl | (simp only [List.length_drop, List.length_take]; rfl)) ?_
          with_reducible refine (mountinfo_unescape.calls ku (rdOf ByteArray.empty ps 3) (m.f4) _ A12.out).mono ?_
          rintro e w36 ⟨rfl, hb⟩
          refine ⟨_, rfl, ?_⟩
          have n0_ := Aside0.mk (below_step belH hb)
          clear HB
          have HB := n0_
          clear n0_
          (try clear hb)
          (try clear hb2)
          (try clear hk)
          (try clear hi)
          refine hK.out _ _ ⟨((HB.out.cell (World.block_lt_of_cell? wz _ hw110_0)).trans hw110_0), ((HB.out.cell (World.block_lt_of_cell? wz _ hw112_0)).trans hw112_0), ((HB.out.cell (World.block_lt_of_cell? wz _ hw116_0)).trans hw116_0), ((HB.out.cell (World.block_lt_of_cell? wz _ hw118_0)).trans hw118_0), ((HB.out.cell (World.block_lt_of_cell? wz _ hw120_0)).trans hw120_0), ((HB.out.cell (World.block_lt_of_cell? wz _ hw123_0)).trans hw123_0), ((HB.out.cell (World.block_lt_of_cell? wz _ hw125_0)).trans hw125_0), ((HB.out.cell (World.block_lt_of_cell? wz _ hw127_0)).trans hw127_0)⟩ (fun hHeld => ?_)
          clear hK K
          refine norm_ (a' := ?_) ?_ ?_
          rotate_left
          ·show Act.put _ (some 71) _ = _
           simp only [Act.put, sA, s0, s1, i64_w, i32_w]
           rfl
          refine one_ (i := 19) (N := some 75) (bnA 47 17312946061311) rfl rfl (one_of HT_.out (by kernel_rfl)) (by decide) (fun K hK => ?_)
          refine goes_ Tryd.func46 (by kernel_rfl) rfl #[.string (rdOf ByteArray.empty ps 4)] (by rfl) rfl rfl (by (try simp only [List.map_toArray, List.map_cons, List.map_nil]); first | done | rfl | (simp only [List.length_drop, List.length_take]; rfl)) ?_
          with_reducible refine (mountinfo_unescape.calls ku (rdOf ByteArray.empty ps 4) (m.f5) _ A14.out).mono ?_
          rintro e w37 ⟨rfl, hb⟩
          refine ⟨_, rfl, ?_⟩
          have n0_ := Aside0.mk (below_step belH hb)
          clear HB
          have HB := n0_
          clear n0_
          (try clear hb)
          (try clear hb2)
          (try clear hk)
          (try clear hi)
          refine hK.out _ _ ⟨((HB.out.cell (World.block_lt_of_cell? wz _ hw110_0)).trans hw110_0), ((HB.out.cell (World.block_lt_of_cell? wz _ hw112_0)).trans hw112_0), ((HB.out.cell (World.block_lt_of_cell? wz _ hw116_0)).trans hw116_0), ((HB.out.cell (World.block_lt_of_cell? wz _ hw118_0)).trans hw118_0), ((HB.out.cell (World.block_lt_of_cell? wz _ hw120_0)).trans hw120_0), ((HB.out.cell (World.block_lt_of_cell? wz _ hw123_0)).trans hw123_0), ((HB.out.cell (World.block_lt_of_cell? wz _ hw125_0)).trans hw125_0), ((HB.out.cell (World.block_lt_of_cell? wz _ hw127_0)).trans hw127_0)⟩ (fun hHeld => ?_)
          clear hK K
          refine norm_ (a' := ?_) ?_ ?_
          rotate_left
          ·show Act.put _ (some 75) _ = _
           simp only [Act.put, sA, s0, s1, i64_w, i32_w]
           rfl
          refine one_ (i := 26) (N := some 82) (bnA 47 17313013170175) rfl rfl (one_of HT_.out (by kernel_rfl)) (by decide) (fun K hK => ?_)
          refine goes_ Tryd.func47 (by kernel_rfl) rfl #[.slice A31 ((ps.take (j : Int).toNat).drop 6).length (cp - 6), .string (⟨#[32]⟩ : ByteArray)] (by rfl) rfl rfl (by (try simp only [List.map_toArray, List.map_cons, List.map_nil]); first | done | (rw [show ((ps.take (j : Int).toNat).drop 6).length = (j.toNat - 6) from (by rw [List.length_drop, List.length_take]; have h_ : (j : Int) ≤ (ps.length : Int) := of_decide_eq_true (by first | (with_reducible assumption) | assumption); omega)] <;> rfl) | rfl | (simp only [List.length_drop, List.length_take]; rfl)) ?_
          with_reducible refine (strings_Join.calls _ _ ((ps.take (j : Int).toNat).drop 6) (⟨#[32]⟩ : ByteArray) (m.f7) _ ?side1 ?side2 A18.out).mono ?_
          (case side1 => repeat (first | exact (Kd.C_below HR121.out HB.out) | (with_reducible refine Kd.C_alloc ?_ _) | (with_reducible refine Kd.C_drewN ?_ _) | (with_reducible refine Kd.C_drew ?_)))
          (case side2 => exact HC121.out)
          rintro e w38 ⟨rfl, hb⟩
          refine ⟨_, rfl, ?_⟩
          have n0_ := Aside0.mk (below_step belH hb)
          clear HB
          have HB := n0_
          clear n0_
          (try clear hb)
          (try clear hb2)
          (try clear hk)
          (try clear hi)
          refine hK.out _ _ ⟨((HB.out.cell (World.block_lt_of_cell? wz _ hw110_0)).trans hw110_0), ((HB.out.cell (World.block_lt_of_cell? wz _ hw112_0)).trans hw112_0), ((HB.out.cell (World.block_lt_of_cell? wz _ hw116_0)).trans hw116_0), ((HB.out.cell (World.block_lt_of_cell? wz _ hw118_0)).trans hw118_0), ((HB.out.cell (World.block_lt_of_cell? wz _ hw120_0)).trans hw120_0), ((HB.out.cell (World.block_lt_of_cell? wz _ hw123_0)).trans hw123_0), ((HB.out.cell (World.block_lt_of_cell? wz _ hw125_0)).trans hw125_0), ((HB.out.cell (World.block_lt_of_cell? wz _ hw127_0)).trans hw127_0)⟩ (fun hHeld => ?_)
          clear hK K
          refine norm_ (a' := ?_) ?_ ?_
          rotate_left
          ·show Act.put _ (some 82) _ = _
           simp only [Act.put, sA, s0, s1, i64_w, i32_w]
           rfl
          refine one_ (i := 32) (N := some 88) (bnA 47 17317308137471) rfl rfl (one_of HT_.out (by kernel_rfl)) (by decide) (fun K hK => ?_)
          refine goes_ Tryd.func46 (by kernel_rfl) rfl #[.string (rdOf ByteArray.empty ps (ji19))] (by rfl) rfl rfl (by (try simp only [List.map_toArray, List.map_cons, List.map_nil]); first | done | (simp only [hji19]; rfl) | rfl | (simp only [List.length_drop, List.length_take]; rfl)) ?_
          with_reducible refine (mountinfo_unescape.calls ku (rdOf ByteArray.empty ps (ji19)) (m.f8) _ A22.out).mono ?_
          rintro e w39 ⟨rfl, hb⟩
          refine ⟨_, rfl, ?_⟩
          have n0_ := Aside0.mk (below_step belH hb)
          clear HB
          have HB := n0_
          clear n0_
          (try clear hb)
          (try clear hb2)
          (try clear hk)
          (try clear hi)
          refine hK.out _ _ ⟨((HB.out.cell (World.block_lt_of_cell? wz _ hw110_0)).trans hw110_0), ((HB.out.cell (World.block_lt_of_cell? wz _ hw112_0)).trans hw112_0), ((HB.out.cell (World.block_lt_of_cell? wz _ hw116_0)).trans hw116_0), ((HB.out.cell (World.block_lt_of_cell? wz _ hw118_0)).trans hw118_0), ((HB.out.cell (World.block_lt_of_cell? wz _ hw120_0)).trans hw120_0), ((HB.out.cell (World.block_lt_of_cell? wz _ hw123_0)).trans hw123_0), ((HB.out.cell (World.block_lt_of_cell? wz _ hw125_0)).trans hw125_0), ((HB.out.cell (World.block_lt_of_cell? wz _ hw127_0)).trans hw127_0)⟩ (fun hHeld => ?_)
          clear hK K
          refine norm_ (a' := ?_) ?_ ?_
          rotate_left
          ·show Act.put _ (some 88) _ = _
           simp only [Act.put, sA, s0, s1, i64_w, i32_w]
           rfl
          refine one_ (i := 38) (N := some 94) (tfA 44 3) rfl rfl (one_of HT_.out (by kernel_rfl)) (by decide) (fun K hK => ?_)
          refine goes_ Tryd.func46 (by kernel_rfl) rfl #[.string (rdOf ByteArray.empty ps (ji23))] (by rfl) rfl rfl (by (try simp only [List.map_toArray, List.map_cons, List.map_nil]); first | done | (simp only [hji23]; rfl) | rfl | (simp only [List.length_drop, List.length_take]; rfl)) ?_
          with_reducible refine (mountinfo_unescape.calls ku (rdOf ByteArray.empty ps (ji23)) (m.f9) _ A26.out).mono ?_
          rintro e w40 ⟨rfl, hb⟩
          refine ⟨_, rfl, ?_⟩
          have n0_ := Aside0.mk (below_step belH hb)
          clear HB
          have HB := n0_
          clear n0_
          (try clear hb)
          (try clear hb2)
          (try clear hk)
          (try clear hi)
          refine hK.out _ _ ⟨((HB.out.cell (World.block_lt_of_cell? wz _ hw110_0)).trans hw110_0), ((HB.out.cell (World.block_lt_of_cell? wz _ hw112_0)).trans hw112_0), ((HB.out.cell (World.block_lt_of_cell? wz _ hw116_0)).trans hw116_0), ((HB.out.cell (World.block_lt_of_cell? wz _ hw118_0)).trans hw118_0), ((HB.out.cell (World.block_lt_of_cell? wz _ hw120_0)).trans hw120_0), ((HB.out.cell (World.block_lt_of_cell? wz _ hw123_0)).trans hw123_0), ((HB.out.cell (World.block_lt_of_cell? wz _ hw125_0)).trans hw125_0), ((HB.out.cell (World.block_lt_of_cell? wz _ hw127_0)).trans hw127_0)⟩ (fun hHeld => ?_)
          clear hK K
          refine norm_ (a' := ?_) ?_ ?_
          rotate_left
          ·show Act.put _ (some 94) _ = _
           simp only [Act.put, sA, s0, s1, i64_w, i32_w]
           rfl
          refine pure_ (i := 44) (N := some 100) (v := ?_) (a' := ?_) (tfA 45 2) rfl rfl (any_of HT_.out (by kernel_rfl)) (fun _ _ _ h => h) (Or.inl ⟨by rfl, ?_⟩) ?_ ?_
          rotate_left
          ·intro w'
           go_simp
           with_reducible rfl
          rotate_left
          ·simp only [Act.put, sA, s0, s1, i64_w, i32_w]
           rfl
          refine one_ (i := 45) (N := some 101) (tfA 46 1) rfl rfl (one_of HT_.out (by kernel_rfl)) (by decide) (fun K hK => ?_)
          refine box_step ?hg (N := 101) ?hd (cs := #[.int .i64 (m.f0), .int .i64 (m.f1), .int .i64 (m.f2), .int .i64 (m.f3), .string (m.f4), .string (m.f5), .string (rdOf ByteArray.empty ps 5), .string (m.f7), .string (m.f8), .string (m.f9), .string (rdOf ByteArray.empty ps (ji27))]) (t := 59) ?hr ?_; (case hd => rfl); (case hg => rfl); (case hr => first | (go_simp; done) | (go_simp; rfl))
          intro gb128 hg w41 hbox hb
          have n0_ := Aside0.mk (below_step belH hb)
          have n1_ := Aside0.mk (hbox)
          have n2_ := Aside0.mk ((by rw [hg]; exact (below_size belH) : wz.heap.size ≤ gb128))
          have n3_ := Aside0.mk ((by rw [hg]; exact (below_size belH) : wz.heap.size ≤ gb128))
          clear HB
          have HB := n0_
          have BK128 := n1_
          have GW128 := n2_
          have GE128 := n3_
          clear n0_ n1_ n2_ n3_
          clear hb hbox hg
          refine hK.out _ _ ⟨((HB.out.cell (World.block_lt_of_cell? wz _ hw110_0)).trans hw110_0), ((HB.out.cell (World.block_lt_of_cell? wz _ hw112_0)).trans hw112_0), ((HB.out.cell (World.block_lt_of_cell? wz _ hw116_0)).trans hw116_0), ((HB.out.cell (World.block_lt_of_cell? wz _ hw118_0)).trans hw118_0), ((HB.out.cell (World.block_lt_of_cell? wz _ hw120_0)).trans hw120_0), ((HB.out.cell (World.block_lt_of_cell? wz _ hw123_0)).trans hw123_0), ((HB.out.cell (World.block_lt_of_cell? wz _ hw125_0)).trans hw125_0), ((HB.out.cell (World.block_lt_of_cell? wz _ hw127_0)).trans hw127_0)⟩ (fun hHeld => ?_)
          clear hK K
          refine norm_ (a' := ?_) ?_ ?_
          rotate_left
          ·show Act.put _ (some 101) _ = _
           simp only [Act.put, sA, s0, s1, i64_w, i32_w]
           rfl
          refine pure_ (i := 46) (N := some 15) (v := ?_) (a' := ?_) (tfA 47 0) rfl rfl (any_of HT_.out (by kernel_rfl)) (fun _ _ _ h => h) (Or.inl ⟨by rfl, ?_⟩) ?_ ?_
          rotate_left
          ·intro w'
           go_simp
           with_reducible rfl
          rotate_left
          ·simp only [Act.put, sA, s0, s1, i64_w, i32_w]
           rfl
          refine done_ (done_of HT_.out (by kernel_rfl)) ?_
          have hBK := Aside0.mk (show w41.heap[gb128]? = some (.cells (mtCells m) 59 (0, 0)) by have h := BK128.out; rw [Q6.out, Q10.out] at h; exact h)
          have hGE := Aside0.mk (show w.heap.size ≤ gb128 from Nat.le_trans (below_size hbw.out) GE128.out)
          have hNG := Aside0.mk (show g ≠ gb128 by have := blk_lt hblk.out; have := GE128.out; omega)
          have hro2 := Aside0.mk (Kd.R_mono (ok' := fun k_ => k_ ≠ g ∧ k_ ≠ gb128) (Kd.R_below (Kd.R_elderB hro.out gb128 GE128.out) HB.out) (fun _ h => h))
          have hblk2 := Aside0.mk (blk_below hblk.out HB.out)
          have hbw2 := Aside0.mk (below_step hbw.out HB.out)
          clear hro hblk hbw BK128 GE128 GW128 HB HR0 HR121 HC121 HC0
          have hq1 : ∀ (w : World) (fn : Fn) (x y : Array Value), (binOp .neq 49 (.func fn x y) .nilFunc).run Tryd.prog w = .ok (.bool true) w := fun w fn x y => run_neq_func w _ _ _ _ fn x y Tryd.underlying49
          have hq2 : ∀ (w : World), (binOp .neq 49 .nilFunc .nilFunc).run Tryd.prog w = .ok (.bool false) w := fun w => run_neq_func_nil w _ _ _ _ Tryd.underlying49
          have hz2 := Lib.hid (show o'.map ((xs ++ [m]) ++ ·) = o by
            rw [← hz.out]
            cases o' with
            | none => rfl
            | some l => simp only [Option.map_some, List.append_assoc, List.singleton_append])
          go_wp2_with (first
            | ((with_reducible refine gate_builtin (b := .append) (xs := #[.tmp 111, .tmp 113]) rfl ?_); at_builtin; refine Kd.R_append pmnt (w0 := w) w.heap.size rfl (.tmp 111) (.tmp 113) 52 58 (.pointer none) 8 rfl Tryd.underlying52 info_pi rfl (by decide) (by omega) u7 xs m [.pointer (some ⟨gb128, 0, none⟩)] (fun k => k ≠ g) (fun k => k = gb128) rfl (by first | rfl | (go_simp; done)) ⟨gb128, rfl, hGE.out, rfl, hBK.out⟩ ?aO ?aF (Kd.R_mono hro2.out (fun _ hk => hk.1)) hbw2.out (below_size hbw2.out) ?aL ?_
               (case aO => rintro k rfl; exact ⟨hNG.out.symm, Kd.R_away hro2.out (fun _ hk => hk.2)⟩); (case aF => exact (fun k hk he => by have := blk_lt hblk2.out; omega)); (case aL => have := hlen.out; omega)
               intro v8 w18 ho hb3 hg3 hat
               have hro := Aside0.mk ho
               have hblk := Aside0.mk (blk_grown hblk2.out hg3 (Kd.R_ne hro2.out hblk2.out (by decide)))
               have hbw := Aside0.mk hb3
               clear hro2 hblk2 hbw2 ho hb3 hg3 hat))
          have hlt2 := hlt0.out
          have hlk := hk0.out
          go_roundg ((rest t1 n).size)
          case measure => omega
          case rel => exact ⟨_, _, xs ++ [m], o', ⟨hz2.out⟩, ⟨by have := hyl.out; have := hlt0.out; rw [List.length_append, List.length_singleton]; omega⟩, ⟨hrest.out⟩, ⟨Nat.le_refl _⟩, hblk, hro, hbw⟩
        · have hne : ((rdOf ByteArray.empty ps j).toList == [45]) = false := beq_eq_false_iff_ne.2 (hSep.out.no j (by omega) hj2)
          have hw1 : IntKind.i64.wrap (j - 1) = j - 1 := by rw [IntKind.wrap_i64]; omega
          have h5 : (j - 1 == 5) = false := beq_eq_false_iff_ne.2 (by omega)
          have hlk := hkj.out
          clear HNo HAo e'
          go_wp2
          go_roundg ((j - 1 - a1).toNat)
          case measure => omega
          case rel => exact ⟨rfl, j - 1, rfl, ⟨by have := HA1.out; omega⟩, ⟨Nat.le_refl _⟩⟩
end Go.Proofs.YtokojamaigebaaaDoor.MtLoopE
