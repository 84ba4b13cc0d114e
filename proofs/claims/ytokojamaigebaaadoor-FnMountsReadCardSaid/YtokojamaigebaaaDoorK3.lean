-- written by a program of this session (wip/tools/pp.py)
import Derived.Test.YtokojamaigebaaaDoorK1
import Derived.Test.YtokojamaigebaaaDoorK2
namespace Go.Proofs.YtokojamaigebaaaDoor.K
open Go.RowKit Go.Proofs.YtokojamaigebaaaDoorW.PrintWords Go.Proofs.YtokojamaigebaaaDoorW.PrintLast Go.Proofs.YtokojamaigebaaaDoor.M Go.Proofs.YtokojamaigebaaaDoor.MtDoorE Go.Proofs.YtokojamaigebaaaDoor.L Go.Proofs.YtokojamaigebaaaDoorW.PrintMore
attribute [local go_sem] max2_int min2_int max_two min_two max_three min_three max_four min_four   -- for this text's walks alone
set_option linter.unusedVariables false
set_option linter.unusedSimpArgs false
theorem cut_seen {w : World} {ad : Addr} {co : Nat} {b : Nat} {ok : Nat → Prop} {t y : List ByteArray} {A : Option Addr} {lo hi : Nat} (h : Kd.R Kd.string 9 w b ok (.slice (some ad) t.length co) t) (hy : y = (t.take hi).drop lo) (hA : A = (if co = lo then (some ad) else ((some ad) : Option Addr).map (·.add (lo * 1)))) (h1 : lo ≤ hi) (h2 : hi ≤ t.length) : Kd.C Kd.string w A y.length y := by
  rw [hy, hA]
  exact Kd.C_mid (Kd.R_reads' h).2.2 h1 h2 (Kd.R_reads' h).2.1

/-! ### spec_MountsRead: function 14 -/
mutual
def spec_MountsRead.l0 : Nat → List (S62) → List ByteArray → Int → Int → Option ((List (S62)) × Bool × Int)
 | 0, _, _, _, _ => none
 | k + 1, x5, x23, x24, x25 => if x25 < x24 then (if 0 ≤ x25 then (if x25 < (x23.length : Int) then ((spec_fields.f k (rdOf ByteArray.empty x23 x25)).bind fun t136 => (spec_MountsRead.l1 k x5 t136 (-1) 6 x23 x24 x25)) else (none)) else (none)) else (some (x5, true, 1))
def spec_MountsRead.l1 : Nat → List (S62) → List ByteArray → Int → Int → List ByteArray → Int → Int → Option ((List (S62)) × Bool × Int)
 | 0, _, _, _, _, _, _, _ => none
 | k + 1, x5, x8, x9, x10, x23, x24, x25 => if x10 < (x8.length : Int) then (if 0 ≤ x10 then (if (rdOf ByteArray.empty x8 x10).toList = ([45] : List UInt8) then (if x9 < 0 then (spec_MountsRead.l1 k x5 x8 x10 (wrap64 (x10 + 1)) x23 x24 x25) else (spec_MountsRead.l1 k x5 x8 x9 (wrap64 (x10 + 1)) x23 x24 x25)) else (spec_MountsRead.l1 k x5 x8 x9 (wrap64 (x10 + 1)) x23 x24 x25)) else (none)) else (if x9 < 0 then (spec_MountsRead.j2 k x5 x8 x9 x23 x24 x25 true) else (spec_MountsRead.j2 k x5 x8 x9 x23 x24 x25 ((x8.length : Int) != (wrap64 (x9 + 4)))))
def spec_MountsRead.j2 : Nat → List (S62) → List ByteArray → Int → List ByteArray → Int → Int → Bool → Option ((List (S62)) × Bool × Int)
 | 0, _, _, _, _, _, _, _ => none
 | k + 1, x5, x8, x9, x23, x24, x25, x55 => if x55 = true then (some (([] : List (S62)), false, 2)) else (if 7 ≤ 281474976710656 then ((some (List.replicate 7 false : List Bool)).bind fun y141 => (if 0 < (x8.length : Int) then ((spec_number.f k (rdOf ByteArray.empty x8 0)).bind fun bt145 => (if 0 < (y141.length : Int) then (if 1 < (x8.length : Int) then ((spec_number.f k (rdOf ByteArray.empty x8 1)).bind fun bt149 => (if 1 < (y141.length : Int) then (if 2 < (x8.length : Int) then (spec_MountsRead.l2 k x5 x8 x9 ((y141.set (0 : Int).toNat bt145.2).set (1 : Int).toNat bt149.2) (-1) x23 x24 x25 ((rdOf ByteArray.empty x8 2).size : Int) 0 bt145.1 bt149.1 0 0 (⟨#[]⟩ : ByteArray) (⟨#[]⟩ : ByteArray) (⟨#[]⟩ : ByteArray) (⟨#[]⟩ : ByteArray) (⟨#[]⟩ : ByteArray) (⟨#[]⟩ : ByteArray) (⟨#[]⟩ : ByteArray)) else (none)) else (none))) else (none)) else (none))) else (none))) else (none))
def spec_MountsRead.l2 : Nat → List (S62) → List ByteArray → Int → List Bool → Int → List ByteArray → Int → Int → Int → Int → Int → Int → Int → Int → ByteArray → ByteArray → ByteArray → ByteArray → ByteArray → ByteArray → ByteArray → Option ((List (S62)) × Bool × Int)
 | 0, _, _, _, _, _, _, _, _, _, _, _, _, _, _, _, _, _, _, _, _, _ => none
 | k + 1, x5, x8, x9, x12, x13, x23, x24, x25, x80, x81, x141000, x141001, x141002, x141003, x141004, x141005, x141006, x141007, x141008, x141009, x141010 => if x81 < x80 then (if 2 < (x8.length : Int) then (if 0 ≤ x81 then (if x81 < ((rdOf ByteArray.empty x8 2).size : Int) then (if (bt (rdOf ByteArray.empty x8 2) x81) = 58 then (if x13 < 0 then (spec_MountsRead.l2 k x5 x8 x9 x12 x81 x23 x24 x25 x80 (wrap64 (x81 + 1)) x141000 x141001 x141002 x141003 x141004 x141005 x141006 x141007 x141008 x141009 x141010) else (spec_MountsRead.l2 k x5 x8 x9 x12 x13 x23 x24 x25 x80 (wrap64 (x81 + 1)) x141000 x141001 x141002 x141003 x141004 x141005 x141006 x141007 x141008 x141009 x141010)) else (spec_MountsRead.l2 k x5 x8 x9 x12 x13 x23 x24 x25 x80 (wrap64 (x81 + 1)) x141000 x141001 x141002 x141003 x141004 x141005 x141006 x141007 x141008 x141009 x141010)) else (none)) else (none)) else (none)) else (if x13 < 0 then (some (([] : List (S62)), false, 2)) else (if 2 < (x8.length : Int) then (if 0 ≤ x13 then (if x13 ≤ ((rdOf ByteArray.empty x8 2).size : Int) then ((spec_number.f k ((rdOf ByteArray.empty x8 2).extract 0 (x13 : Int).toNat)).bind fun bt155 => (if 2 < (x12.length : Int) then (if 0 ≤ (wrap64 (x13 + 1)) then (if (wrap64 (x13 + 1)) ≤ ((rdOf ByteArray.empty x8 2).size : Int) then ((spec_number.f k ((rdOf ByteArray.empty x8 2).extract ((wrap64 (x13 + 1)) : Int).toNat (rdOf ByteArray.empty x8 2).size)).bind fun bt159 => (if 3 < (x12.length : Int) then (if 3 < (x8.length : Int) then ((spec_unoctal.f k (rdOf ByteArray.empty x8 3)).bind fun bt163 => (if 4 < (x12.length : Int) then (if 4 < (x8.length : Int) then ((spec_unoctal.f k (rdOf ByteArray.empty x8 4)).bind fun bt167 => (if 5 < (x12.length : Int) then (if 0 ≤ (wrap64 (x9 + 2)) then (if (wrap64 (x9 + 2)) < (x8.length : Int) then ((spec_unoctal.f k (rdOf ByteArray.empty x8 (wrap64 (x9 + 2)))).bind fun bt171 => (if 6 < (x12.length : Int) then (if 5 < (x8.length : Int) then (if 0 ≤ (wrap64 (x9 + 1)) then (if (wrap64 (x9 + 1)) < (x8.length : Int) then (if 0 ≤ (wrap64 (x9 + 3)) then (if (wrap64 (x9 + 3)) < (x8.length : Int) then (if 6 ≤ x9 then (if x9 ≤ (x8.length : Int) then ((some ((x8.take (x9 : Int).toNat).drop 6 : List ByteArray)).bind fun y177 => (spec_MountsRead.l3 k x5 (((((x12.set (2 : Int).toNat bt155.2).set (3 : Int).toNat bt159.2).set (4 : Int).toNat bt163.2).set (5 : Int).toNat bt167.2).set (6 : Int).toNat bt171.2) x23 x24 x25 y177 (y177.length : Int) 0 x141000 x141001 bt155.1 bt159.1 bt163.1 bt167.1 (rdOf ByteArray.empty x8 5) x141007 (rdOf ByteArray.empty x8 (wrap64 (x9 + 1))) bt171.1 (rdOf ByteArray.empty x8 (wrap64 (x9 + 3))))) else (none)) else (none)) else (none)) else (none)) else (none)) else (none)) else (none)) else (none))) else (none)) else (none)) else (none))) else (none)) else (none))) else (none)) else (none))) else (none)) else (none)) else (none))) else (none)) else (none)) else (none)))
def spec_MountsRead.l3 : Nat → List (S62) → List Bool → List ByteArray → Int → Int → List ByteArray → Int → Int → Int → Int → Int → Int → ByteArray → ByteArray → ByteArray → ByteArray → ByteArray → ByteArray → ByteArray → Option ((List (S62)) × Bool × Int)
 | 0, _, _, _, _, _, _, _, _, _, _, _, _, _, _, _, _, _, _, _ => none
 | k + 1, x5, x12, x23, x24, x25, x173, x174, x175, x141000, x141001, x141002, x141003, x141004, x141005, x141006, x141007, x141008, x141009, x141010 => if x175 < x174 then (if 0 ≤ x175 then (if x175 < (x173.length : Int) then (if x175 > 0 then (if x141007.size + 1 ≤ 9223372036854775807 then (if (x141007 ++ (⟨#[32]⟩ : ByteArray)).size + (rdOf ByteArray.empty x173 x175).size ≤ 9223372036854775807 then (spec_MountsRead.l3 k x5 x12 x23 x24 x25 x173 x174 (wrap64 (x175 + 1)) x141000 x141001 x141002 x141003 x141004 x141005 x141006 ((x141007 ++ (⟨#[32]⟩ : ByteArray)) ++ (rdOf ByteArray.empty x173 x175)) x141008 x141009 x141010) else (none)) else (none)) else (if x141007.size + (rdOf ByteArray.empty x173 x175).size ≤ 9223372036854775807 then (spec_MountsRead.l3 k x5 x12 x23 x24 x25 x173 x174 (wrap64 (x175 + 1)) x141000 x141001 x141002 x141003 x141004 x141005 x141006 (x141007 ++ (rdOf ByteArray.empty x173 x175)) x141008 x141009 x141010) else (none))) else (none)) else (none)) else (spec_MountsRead.l4 k x5 x23 x24 x25 x12 (x12.length : Int) 0 x141000 x141001 x141002 x141003 x141004 x141005 x141006 x141007 x141008 x141009 x141010)
def spec_MountsRead.l4 : Nat → List (S62) → List ByteArray → Int → Int → List Bool → Int → Int → Int → Int → Int → Int → ByteArray → ByteArray → ByteArray → ByteArray → ByteArray → ByteArray → ByteArray → Option ((List (S62)) × Bool × Int)
 | 0, _, _, _, _, _, _, _, _, _, _, _, _, _, _, _, _, _, _ => none
 | k + 1, x5, x23, x24, x25, x192, x193, x194, x141000, x141001, x141002, x141003, x141004, x141005, x141006, x141007, x141008, x141009, x141010 => if x194 < x193 then (if 0 ≤ x194 then (if x194 < (x192.length : Int) then (if rdOf false x192 x194 = true then (spec_MountsRead.l4 k x5 x23 x24 x25 x192 x193 (wrap64 (x194 + 1)) x141000 x141001 x141002 x141003 x141004 x141005 x141006 x141007 x141008 x141009 x141010) else (some (([] : List (S62)), false, 2))) else (none)) else (none)) else ((spec_mountValid.f k x141000 x141001 x141002 x141003 x141004 x141005 x141006 x141007 x141008 x141009 x141010).bind fun t183 => (if t183 = true then (if x5.length < 977343669134 then (spec_MountsRead.l0 k (x5 ++ [(⟨x141000, x141001, x141002, x141003, x141004, x141005, x141006, x141007, x141008, x141009, x141010⟩ : S62)]) x23 x24 (wrap64 (x25 + 1))) else (none)) else (some (([] : List (S62)), false, 2))))
end
def spec_MountsRead.f (k : Nat) (a0 : ByteArray) : Option ((List (S62)) × Bool × Int) := if (a0.size : Int) > 32768 then (some (([] : List (S62)), false, 2)) else ((spec_cutLines.f k a0).bind fun t132 => (spec_MountsRead.l0 k ([] : List (S62)) t132 (t132.length : Int) 0))
theorem spec_MountsRead.mono_l : ∀ k, (∀ y0 y1 y2 y3, LeO (spec_MountsRead.l0 k y0 y1 y2 y3) (spec_MountsRead.l0 (k + 1) y0 y1 y2 y3)) ∧ (∀ y0 y1 y2 y3 y4 y5 y6, LeO (spec_MountsRead.l1 k y0 y1 y2 y3 y4 y5 y6) (spec_MountsRead.l1 (k + 1) y0 y1 y2 y3 y4 y5 y6)) ∧ (∀ y0 y1 y2 y3 y4 y5 y6, LeO (spec_MountsRead.j2 k y0 y1 y2 y3 y4 y5 y6) (spec_MountsRead.j2 (k + 1) y0 y1 y2 y3 y4 y5 y6)) ∧ (∀ y0 y1 y2 y3 y4 y5 y6 y7 y8 y9 y10 y11 y12 y13 y14 y15 y16 y17 y18 y19 y20, LeO (spec_MountsRead.l2 k y0 y1 y2 y3 y4 y5 y6 y7 y8 y9 y10 y11 y12 y13 y14 y15 y16 y17 y18 y19 y20) (spec_MountsRead.l2 (k + 1) y0 y1 y2 y3 y4 y5 y6 y7 y8 y9 y10 y11 y12 y13 y14 y15 y16 y17 y18 y19 y20)) ∧ (∀ y0 y1 y2 y3 y4 y5 y6 y7 y8 y9 y10 y11 y12 y13 y14 y15 y16 y17 y18, LeO (spec_MountsRead.l3 k y0 y1 y2 y3 y4 y5 y6 y7 y8 y9 y10 y11 y12 y13 y14 y15 y16 y17 y18) (spec_MountsRead.l3 (k + 1) y0 y1 y2 y3 y4 y5 y6 y7 y8 y9 y10 y11 y12 y13 y14 y15 y16 y17 y18)) ∧ (∀ y0 y1 y2 y3 y4 y5 y6 y7 y8 y9 y10 y11 y12 y13 y14 y15 y16 y17, LeO (spec_MountsRead.l4 k y0 y1 y2 y3 y4 y5 y6 y7 y8 y9 y10 y11 y12 y13 y14 y15 y16 y17) (spec_MountsRead.l4 (k + 1) y0 y1 y2 y3 y4 y5 y6 y7 y8 y9 y10 y11 y12 y13 y14 y15 y16 y17))
 | 0 => ⟨fun _ _ _ _ r h => by simp [spec_MountsRead.l0] at h, fun _ _ _ _ _ _ _ r h => by simp [spec_MountsRead.l1] at h, fun _ _ _ _ _ _ _ r h => by simp [spec_MountsRead.j2] at h, fun _ _ _ _ _ _ _ _ _ _ _ _ _ _ _ _ _ _ _ _ _ r h => by simp [spec_MountsRead.l2] at h, fun _ _ _ _ _ _ _ _ _ _ _ _ _ _ _ _ _ _ _ r h => by simp [spec_MountsRead.l3] at h, fun _ _ _ _ _ _ _ _ _ _ _ _ _ _ _ _ _ _ r h => by simp [spec_MountsRead.l4] at h⟩
 | k + 1 => by
  obtain ⟨ih0, ih1, ih2, ih3, ih4, ih5⟩ := spec_MountsRead.mono_l k
  refine ⟨?_, ?_, ?_, ?_, ?_, ?_⟩
  ·intro y0 y1 y2 y3
   unfold spec_MountsRead.l0
   repeat' first
   | (with_reducible exact ih0 _ _ _ _)
   | (with_reducible exact ih1 _ _ _ _ _ _ _)
   | (with_reducible exact ih2 _ _ _ _ _ _ _)
   | (with_reducible exact ih3 _ _ _ _ _ _ _ _ _ _ _ _ _ _ _ _ _ _ _ _ _)
   | (with_reducible exact ih4 _ _ _ _ _ _ _ _ _ _ _ _ _ _ _ _ _ _ _)
   | (with_reducible exact ih5 _ _ _ _ _ _ _ _ _ _ _ _ _ _ _ _ _ _)
   | (with_reducible exact spec_cutLines.mono _ _)
   | (with_reducible exact spec_fields.mono _ _)
   | (with_reducible exact spec_mountValid.mono _ _ _ _ _ _ _ _ _ _ _ _)
   | (with_reducible exact spec_number.mono _ _)
   | (with_reducible exact spec_unoctal.mono _ _)
   | (with_reducible exact LeO.refl _)
   | (with_reducible exact LeO.none _)
   | (with_reducible refine LeO.ite ?_ ?_)
   | (with_reducible refine LeO.bind ?_ (fun _ => ?_))
   | exact ih0 _ _ _ _
   | exact ih1 _ _ _ _ _ _ _
   | exact ih2 _ _ _ _ _ _ _
   | exact ih3 _ _ _ _ _ _ _ _ _ _ _ _ _ _ _ _ _ _ _ _ _
   | exact ih4 _ _ _ _ _ _ _ _ _ _ _ _ _ _ _ _ _ _ _
   | exact ih5 _ _ _ _ _ _ _ _ _ _ _ _ _ _ _ _ _ _
   | exact spec_cutLines.mono _ _
   | exact spec_fields.mono _ _
   | exact spec_mountValid.mono _ _ _ _ _ _ _ _ _ _ _ _
   | exact spec_number.mono _ _
   | exact spec_unoctal.mono _ _
   | exact LeO.none _
   | refine LeO.ite ?_ ?_
   | refine LeO.bind ?_ (fun _ => ?_)
  ·intro y0 y1 y2 y3 y4 y5 y6
   unfold spec_MountsRead.l1
   repeat' first
   | (with_reducible exact ih0 _ _ _ _)
   | (with_reducible exact ih1 _ _ _ _ _ _ _)
   | (with_reducible exact ih2 _ _ _ _ _ _ _)
   | (with_reducible exact ih3 _ _ _ _ _ _ _ _ _ _ _ _ _ _ _ _ _ _ _ _ _)
   | (with_reducible exact ih4 _ _ _ _ _ _ _ _ _ _ _ _ _ _ _ _ _ _ _)
   | (with_reducible exact ih5 _ _ _ _ _ _ _ _ _ _ _ _ _ _ _ _ _ _)
   | (with_reducible exact spec_cutLines.mono _ _)
   | (with_reducible exact spec_fields.mono _ _)
   | (with_reducible exact spec_mountValid.mono _ _ _ _ _ _ _ _ _ _ _ _)
   | (with_reducible exact spec_number.mono _ _)
   | (with_reducible exact spec_unoctal.mono _ _)
   | (with_reducible exact LeO.refl _)
   | (with_reducible exact LeO.none _)
   | (with_reducible refine LeO.ite ?_ ?_)
   | (with_reducible refine LeO.bind ?_ (fun _ => ?_))
   | exact ih0 _ _ _ _
   | exact ih1 _ _ _ _ _ _ _
   | exact ih2 _ _ _ _ _ _ _
   | exact ih3 _ _ _ _ _ _ _ _ _ _ _ _ _ _ _ _ _ _ _ _ _
   | exact ih4 _ _ _ _ _ _ _ _ _ _ _ _ _ _ _ _ _ _ _
   | exact ih5 _ _ _ _ _ _ _ _ _ _ _ _ _ _ _ _ _ _
   | exact spec_cutLines.mono _ _
   | exact spec_fields.mono _ _
   | exact spec_mountValid.mono _ _ _ _ _ _ _ _ _ _ _ _
   | exact spec_number.mono _ _
   | exact spec_unoctal.mono _ _
   | exact LeO.none _
   | refine LeO.ite ?_ ?_
   | refine LeO.bind ?_ (fun _ => ?_)
  ·intro y0 y1 y2 y3 y4 y5 y6
   unfold spec_MountsRead.j2
   repeat' first
   | (with_reducible exact ih0 _ _ _ _)
   | (with_reducible exact ih1 _ _ _ _ _ _ _)
   | (with_reducible exact ih2 _ _ _ _ _ _ _)
   | (with_reducible exact ih3 _ _ _ _ _ _ _ _ _ _ _ _ _ _ _ _ _ _ _ _ _)
   | (with_reducible exact ih4 _ _ _ _ _ _ _ _ _ _ _ _ _ _ _ _ _ _ _)
   | (with_reducible exact ih5 _ _ _ _ _ _ _ _ _ _ _ _ _ _ _ _ _ _)
   | (with_reducible exact spec_cutLines.mono _ _)
   | (with_reducible exact spec_fields.mono _ _)
   | (with_reducible exact spec_mountValid.mono _ _ _ _ _ _ _ _ _ _ _ _)
   | (with_reducible exact spec_number.mono _ _)
   | (with_reducible exact spec_unoctal.mono _ _)
   | (with_reducible exact LeO.refl _)
   | (with_reducible exact LeO.none _)
   | (with_reducible refine LeO.ite ?_ ?_)
   | (with_reducible refine LeO.bind ?_ (fun _ => ?_))
   | exact ih0 _ _ _ _
   | exact ih1 _ _ _ _ _ _ _
   | exact ih2 _ _ _ _ _ _ _
   | exact ih3 _ _ _ _ _ _ _ _ _ _ _ _ _ _ _ _ _ _ _ _ _
   | exact ih4 _ _ _ _ _ _ _ _ _ _ _ _ _ _ _ _ _ _ _
   | exact ih5 _ _ _ _ _ _ _ _ _ _ _ _ _ _ _ _ _ _
   | exact spec_cutLines.mono _ _
   | exact spec_fields.mono _ _
   | exact spec_mountValid.mono _ _ _ _ _ _ _ _ _ _ _ _
   | exact spec_number.mono _ _
   | exact spec_unoctal.mono _ _
   | exact LeO.none _
   | refine LeO.ite ?_ ?_
   | refine LeO.bind ?_ (fun _ => ?_)
  ·intro y0 y1 y2 y3 y4 y5 y6 y7 y8 y9 y10 y11 y12 y13 y14 y15 y16 y17 y18 y19 y20
   unfold spec_MountsRead.l2
   repeat' first
   | (with_reducible exact ih0 _ _ _ _)
   | (with_reducible exact ih1 _ _ _ _ _ _ _)
   | (with_reducible exact ih2 _ _ _ _ _ _ _)
   | (with_reducible exact ih3 _ _ _ _ _ _ _ _ _ _ _ _ _ _ _ _ _ _ _ _ _)
   | (with_reducible exact ih4 _ _ _ _ _ _ _ _ _ _ _ _ _ _ _ _ _ _ _)
   | (with_reducible exact ih5 _ _ _ _ _ _ _ _ _ _ _ _ _ _ _ _ _ _)
   | (with_reducible exact spec_cutLines.mono _ _)
   | (with_reducible exact spec_fields.mono _ _)
   | (with_reducible exact spec_mountValid.mono _ _ _ _ _ _ _ _ _ _ _ _)
   | (with_reducible exact spec_number.mono _ _)
   | (with_reducible exact spec_unoctal.mono _ _)
   | (with_reducible exact LeO.refl _)
   | (with_reducible exact LeO.none _)
   | (with_reducible refine LeO.ite ?_ ?_)
   | (with_reducible refine LeO.bind ?_ (fun _ => ?_))
   | exact ih0 _ _ _ _
   | exact ih1 _ _ _ _ _ _ _
   | exact ih2 _ _ _ _ _ _ _
   | exact ih3 _ _ _ _ _ _ _ _ _ _ _ _ _ _ _ _ _ _ _ _ _
   | exact ih4 _ _ _ _ _ _ _ _ _ _ _ _ _ _ _ _ _ _ _
   | exact ih5 _ _ _ _ _ _ _ _ _ _ _ _ _ _ _ _ _ _
   | exact spec_cutLines.mono _ _
   | exact spec_fields.mono _ _
   | exact spec_mountValid.mono _ _ _ _ _ _ _ _ _ _ _ _
   | exact spec_number.mono _ _
   | exact spec_unoctal.mono _ _
   | exact LeO.none _
   | refine LeO.ite ?_ ?_
   | refine LeO.bind ?_ (fun _ => ?_)
  ·intro y0 y1 y2 y3 y4 y5 y6 y7 y8 y9 y10 y11 y12 y13 y14 y15 y16 y17 y18
   unfold spec_MountsRead.l3
   repeat' first
   | (with_reducible exact ih0 _ _ _ _)
   | (with_reducible exact ih1 _ _ _ _ _ _ _)
   | (with_reducible exact ih2 _ _ _ _ _ _ _)
   | (with_reducible exact ih3 _ _ _ _ _ _ _ _ _ _ _ _ _ _ _ _ _ _ _ _ _)
   | (with_reducible exact ih4 _ _ _ _ _ _ _ _ _ _ _ _ _ _ _ _ _ _ _)
   | (with_reducible exact ih5 _ _ _ _ _ _ _ _ _ _ _ _ _ _ _ _ _ _)
   | (with_reducible exact spec_cutLines.mono _ _)
   | (with_reducible exact spec_fields.mono _ _)
   | (with_reducible exact spec_mountValid.mono _ _ _ _ _ _ _ _ _ _ _ _)
   | (with_reducible exact spec_number.mono _ _)
   | (with_reducible exact spec_unoctal.mono _ _)
   | (with_reducible exact LeO.refl _)
   | (with_reducible exact LeO.none _)
   | (with_reducible refine LeO.ite ?_ ?_)
   | (with_reducible refine LeO.bind ?_ (fun _ => ?_))
   | exact ih0 _ _ _ _
   | exact ih1 _ _ _ _ _ _ _
   | exact ih2 _ _ _ _ _ _ _
   | exact ih3 _ _ _ _ _ _ _ _ _ _ _ _ _ _ _ _ _ _ _ _ _
   | exact ih4 _ _ _ _ _ _ _ _ _ _ _ _ _ _ _ _ _ _ _
   | exact ih5 _ _ _ _ _ _ _ _ _ _ _ _ _ _ _ _ _ _
   | exact spec_cutLines.mono _ _
   | exact spec_fields.mono _ _
   | exact spec_mountValid.mono _ _ _ _ _ _ _ _ _ _ _ _
   | exact spec_number.mono _ _
   | exact spec_unoctal.mono _ _
   | exact LeO.none _
   | refine LeO.ite ?_ ?_
   | refine LeO.bind ?_ (fun _ => ?_)
  ·intro y0 y1 y2 y3 y4 y5 y6 y7 y8 y9 y10 y11 y12 y13 y14 y15 y16 y17
   unfold spec_MountsRead.l4
   repeat' first
   | (with_reducible exact ih0 _ _ _ _)
   | (with_reducible exact ih1 _ _ _ _ _ _ _)
   | (with_reducible exact ih2 _ _ _ _ _ _ _)
   | (with_reducible exact ih3 _ _ _ _ _ _ _ _ _ _ _ _ _ _ _ _ _ _ _ _ _)
   | (with_reducible exact ih4 _ _ _ _ _ _ _ _ _ _ _ _ _ _ _ _ _ _ _)
   | (with_reducible exact ih5 _ _ _ _ _ _ _ _ _ _ _ _ _ _ _ _ _ _)
   | (with_reducible exact spec_cutLines.mono _ _)
   | (with_reducible exact spec_fields.mono _ _)
   | (with_reducible exact spec_mountValid.mono _ _ _ _ _ _ _ _ _ _ _ _)
   | (with_reducible exact spec_number.mono _ _)
   | (with_reducible exact spec_unoctal.mono _ _)
   | (with_reducible exact LeO.refl _)
   | (with_reducible exact LeO.none _)
   | (with_reducible refine LeO.ite ?_ ?_)
   | (with_reducible refine LeO.bind ?_ (fun _ => ?_))
   | exact ih0 _ _ _ _
   | exact ih1 _ _ _ _ _ _ _
   | exact ih2 _ _ _ _ _ _ _
   | exact ih3 _ _ _ _ _ _ _ _ _ _ _ _ _ _ _ _ _ _ _ _ _
   | exact ih4 _ _ _ _ _ _ _ _ _ _ _ _ _ _ _ _ _ _ _
   | exact ih5 _ _ _ _ _ _ _ _ _ _ _ _ _ _ _ _ _ _
   | exact spec_cutLines.mono _ _
   | exact spec_fields.mono _ _
   | exact spec_mountValid.mono _ _ _ _ _ _ _ _ _ _ _ _
   | exact spec_number.mono _ _
   | exact spec_unoctal.mono _ _
   | exact LeO.none _
   | refine LeO.ite ?_ ?_
   | refine LeO.bind ?_ (fun _ => ?_)
theorem spec_MountsRead.mono : ∀ a0 k, LeO (spec_MountsRead.f k a0) (spec_MountsRead.f (k + 1) a0) := by
 intro a0 k
 obtain ⟨ih0, ih1, ih2, ih3, ih4, ih5⟩ := spec_MountsRead.mono_l k
 unfold spec_MountsRead.f
 repeat' first
   | (with_reducible exact ih0 _ _ _ _)
   | (with_reducible exact ih1 _ _ _ _ _ _ _)
   | (with_reducible exact ih2 _ _ _ _ _ _ _)
   | (with_reducible exact ih3 _ _ _ _ _ _ _ _ _ _ _ _ _ _ _ _ _ _ _ _ _)
   | (with_reducible exact ih4 _ _ _ _ _ _ _ _ _ _ _ _ _ _ _ _ _ _ _)
   | (with_reducible exact ih5 _ _ _ _ _ _ _ _ _ _ _ _ _ _ _ _ _ _)
   | (with_reducible exact spec_cutLines.mono _ _)
   | (with_reducible exact spec_fields.mono _ _)
   | (with_reducible exact spec_mountValid.mono _ _ _ _ _ _ _ _ _ _ _ _)
   | (with_reducible exact spec_number.mono _ _)
   | (with_reducible exact spec_unoctal.mono _ _)
   | (with_reducible exact LeO.refl _)
   | (with_reducible exact LeO.none _)
   | (with_reducible refine LeO.ite ?_ ?_)
   | (with_reducible refine LeO.bind ?_ (fun _ => ?_))
   | exact ih0 _ _ _ _
   | exact ih1 _ _ _ _ _ _ _
   | exact ih2 _ _ _ _ _ _ _
   | exact ih3 _ _ _ _ _ _ _ _ _ _ _ _ _ _ _ _ _ _ _ _ _
   | exact ih4 _ _ _ _ _ _ _ _ _ _ _ _ _ _ _ _ _ _ _
   | exact ih5 _ _ _ _ _ _ _ _ _ _ _ _ _ _ _ _ _ _
   | exact spec_cutLines.mono _ _
   | exact spec_fields.mono _ _
   | exact spec_mountValid.mono _ _ _ _ _ _ _ _ _ _ _ _
   | exact spec_number.mono _ _
   | exact spec_unoctal.mono _ _
   | exact LeO.none _
   | refine LeO.ite ?_ ?_
   | refine LeO.bind ?_ (fun _ => ?_)
def spec_MountsRead.T34 : Bool × List (List Nat × List Nat) := (true, [([], []), ([0], [0]), ([1], [1]), ([], []), ([], []), ([4], [4]), ([3, 5], [3, 5]), ([6], [6]), ([], []), ([], []), ([9], [9]), ([8, 10], [8, 10]), ([11], [11]), ([0, 1, 2], []), ([13, 2, 0, 1, 2], [2, 13]), ([0, 1, 2, 3, 4, 5, 6, 7, 13, 14], []), ([15, 7, 14, 0, 1, 2, 3, 4, 5, 6, 7, 13, 14], [7, 15]), ([0, 1, 2, 3, 4, 5, 6, 7, 8, 9, 10, 11, 12, 13, 14, 15, 16], []), ([17, 12, 16, 0, 1, 2, 3, 4, 5, 6, 7, 8, 9, 10, 11, 12, 13, 14, 15, 16], [12, 17])])
def spec_MountsRead.B34 : List Nat := [0, 1, 3, 0, 0, 16, 56, 120, 0, 0, 512, 1792, 3840, 7, 8199, 24831, 57599, 131071, 262143]
theorem spec_MountsRead.tab34 : rtab .any (opsOf Tryd.f14 34) = spec_MountsRead.T34 := by kernel_rfl
theorem spec_MountsRead.bits34 : waitsOk spec_MountsRead.T34.2 spec_MountsRead.B34 = true := by kernel_rfl
set_option maxHeartbeats 8000000 in
set_option maxRecDepth 100000 in
theorem spec_MountsRead.calls (k : Nat) (a0 : ByteArray) (r1 : List (S62)) (r2 : Bool) (r3 : Int) (w : World) (h : spec_MountsRead.f k a0 = some (r1, r2, r3)) :
  Calls Tryd.prog 14 #[.string a0] w fun e w' => ∃ v0_ : Value, e = .returned (.tuple #[v0_, .bool r2, .int .i64 r3]) ∧ Kd.R k62 62 w' w.heap.size (fun _ => True) v0_ r1 ∧ Below w.heap.size w w' := by
 have hu62 := Tryd.underlying62
 have HB := Aside0.mk (Below.refl w.heap.size w)
 have H : (if (a0.size : Int) > 32768 then (some (([] : List (S62)), false, 2)) else ((spec_cutLines.f k a0).bind fun t132 => (spec_MountsRead.l0 k ([] : List (S62)) t132 (t132.length : Int) 0))) = some (r1, r2, r3) := h
 clear h
 by_cases c2 : (a0.size : Int) > 32768
 ·rw [if_pos c2] at H
  have c2b0 : decide (32768 < (a0.size : Int)) = true := decide_eq_true c2
  have c2b1 : decide (32768 < a0.size) = true := decide_eq_true (by omega)
  clear c2
  simp only [Option.some.injEq, Prod.mk.injEq] at H
  obtain ⟨rfl, rfl, rfl⟩ := H
  go_enter Tryd.func14, Tryd.ntmps14
  go_wp2
  go_ret3
  exact ⟨_, by first | rfl | (simp [errW_none, errW_some] <;> rfl) | (simp [*, errW_none, errW_some] <;> rfl), by first | exact Kd.R_nil _ _ _ _ _ | exact Kd.N_nil _ _ _ _ _ | exact Kd.V_nil _ _ _ _ _ | exact Kd.Q_nil _ _ _ _ _ | exact Kd.S_nil _ _ _ _ _, by repeat (first | (with_reducible first | exact HB.out | apply below_alloc | apply pw_below_drewN | apply below_drew1) | exact HB.out)⟩
 ·rw [if_neg c2] at H
  have c2b0 : decide (32768 < (a0.size : Int)) = false := decide_eq_false c2
  have c2b1 : decide (32768 < a0.size) = false := decide_eq_false (by omega)
  clear c2
  replace H := Option.bind_eq_some_iff.mp H
  obtain ⟨t132, A30, H⟩ := H
  have A3 := Aside0.mk A30
  clear A30
  have H' := Aside0.mk H
  clear H
  go_enter Tryd.func14, Tryd.ntmps14
  go_wp2_with (first | ((with_reducible refine gate_callee (f := 27) rfl ?_); refine goesL_ (some 23) rfl rfl Tryd.func27 (by kernel_rfl) rfl #[.string a0] rfl (by (try simp only [List.map_toArray, List.map_cons, List.map_nil]); first | done | rfl | (simp only [List.length_drop, List.length_take]; rfl)) ?_; (with_reducible refine (spec_cutLines.calls k a0 t132 _ A3.out).mono ?_); rintro e w4 ⟨v133, rfl, ho0, hb⟩; refine ⟨_, rfl, ?_⟩; have n0_ := Aside0.mk (Kd.R_lower ho0 (below_size belH)); have n1_ := Aside0.mk (below_step belH hb); clear HB; have HO134 := n0_; have HB := n1_; clear n0_ n1_; (try clear hb); (try clear hb2); (try clear hk); (try clear hi); (try clear ho0); obtain ⟨Ao5, co5, eo5⟩ := Kd.R_slice HO134.out; subst eo5))
  go_loopg [5, 25] k (fun kq v5 v25 w' => ∃ (x5_1 : List (S62)) (x25_1 : Int), v25 = .int .i64 x25_1 ∧ Aside0 (spec_MountsRead.l0 kq x5_1 t132 (t132.length : Int) x25_1 = some (r1, r2, r3)) ∧ Aside0 (kq ≤ k) ∧ Aside0 (Kd.R k62 62 w' w.heap.size (fun _ => True) v5 x5_1) ∧ Aside0 (Kd.R Kd.string 9 w' w.heap.size (fun _ => True) (.slice Ao5 t132.length co5) t132) ∧ Aside0 (Below w.heap.size w w'))
  case atStart => exact ⟨(([] : List (S62))), (0), (by first | rfl | (simp; done) | (simp [*]; done) | (simp [bne_nil]; done) | (simp [bne_nil, *]; done)), H', ⟨Nat.le_refl _⟩, ⟨by first | exact Kd.R_nil _ _ _ _ _ | exact Kd.N_nil _ _ _ _ _ | exact Kd.V_nil _ _ _ _ _ | exact Kd.Q_nil _ _ _ _ _ | exact Kd.S_nil _ _ _ _ _⟩, ⟨by (with_reducible repeat (first | apply Kd.R_alloc | apply Kd.R_drewN | apply Kd.R_drew)); exact HO134.out⟩, ⟨by repeat (first | (with_reducible first | exact HB.out | apply below_alloc | apply pw_below_drewN | apply below_drew1) | exact HB.out)⟩⟩
  case round =>
   clear H'
   try clear c1
   try clear c2
   try clear c2b0
   try clear c2b1
   try clear p2
   obtain ⟨x5_1, x25_1, rfl, HA, HK1, HO_5, HO_23, HB⟩ := hrel
   cases gk with
   | zero => exact absurd HA.out (by simp [spec_MountsRead.l0])
   | succ k1 =>
    have H := HA.out
    clear HA
    simp only [spec_MountsRead.l0] at H
    by_cases c6 : x25_1 < (t132.length : Int)
    ·rw [if_pos c6] at H
     have c6b0 : decide (x25_1 < (t132.length : Int)) = true := decide_eq_true c6
     clear c6
     by_cases c7 : 0 ≤ x25_1
     ·rw [if_pos c7] at H
      have c7b0 : decide (0 ≤ x25_1) = true := decide_eq_true c7
      clear c7
      by_cases c8 : x25_1 < (t132.length : Int)
      ·rw [if_pos c8] at H
       have c8b0 : decide (x25_1 < (t132.length : Int)) = true := decide_eq_true c8
       clear c8
       replace H := Option.bind_eq_some_iff.mp H
       obtain ⟨t136, A90, H⟩ := H
       have A9 := Aside0.mk A90
       clear A90
       have H' := Aside0.mk H
       clear H
       have p135 : 0 ≤ (x25_1 : Int) := of_decide_eq_true (by first | (with_reducible assumption) | assumption)
       have q135 : x25_1 < (t132.length : Int) := of_decide_eq_true (by first | (with_reducible assumption) | assumption)
       obtain ⟨ad135, e135, hx135_0⟩ := Kd.at_string (Kd.R_reads' HO_23.out).2.2 x25_1 p135 q135
       cases e135
       replace p135 := eq_true p135
       replace q135 := eq_true q135
       go_wp2_with (first | ((with_reducible refine gate_callee (f := 28) rfl ?_); refine goesL_ (some 30) rfl rfl Tryd.func28 (by kernel_rfl) rfl #[.string (rdOf ByteArray.empty t132 x25_1)] rfl (by (try simp only [List.map_toArray, List.map_cons, List.map_nil]); first | done | rfl | (simp only [List.length_drop, List.length_take]; rfl)) ?_; (with_reducible refine (spec_fields.calls k1 (rdOf ByteArray.empty t132 x25_1) t136 _ A9.out).mono ?_); rintro e w10 ⟨v137, rfl, ho0, hb⟩; refine ⟨_, rfl, ?_⟩; have n0_ := Aside0.mk (Kd.R_below (by (with_reducible repeat (first | apply Kd.R_alloc | apply Kd.R_drewN | apply Kd.R_drew)); exact HO_5.out) hb); have n1_ := Aside0.mk (Kd.R_elder' (by (with_reducible repeat (first | apply Kd.R_alloc | apply Kd.R_drewN | apply Kd.R_drew)); exact HO_23.out) (Kd.R_base ho0) hb); have n2_ := Aside0.mk (Kd.R_lower (Kd.R_new' ho0 (Kd.R_lt (by (with_reducible repeat (first | apply Kd.R_alloc | apply Kd.R_drewN | apply Kd.R_drew)); exact HO_23.out))) (below_size belH)); have n3_ := Aside0.mk (below_step belH hb); clear HO_5; clear HO_23; clear HB; have HO_5 := n0_; have HO_23 := n1_; have HO138 := n2_; have HB := n3_; clear n0_ n1_ n2_ n3_; (try clear hb); (try clear hb2); (try clear hk); (try clear hi); (try clear ho0)))
       go_loopg [9, 10] k1 (fun kq v9 v10 w' => ∃ (x9_2 : Int) (x10_2 : Int), v9 = .int .i64 x9_2 ∧ v10 = .int .i64 x10_2 ∧ Aside0 (spec_MountsRead.l1 kq x5_1 t136 x9_2 x10_2 t132 (t132.length : Int) x25_1 = some (r1, r2, r3)) ∧ Aside0 (kq ≤ k1) ∧ Aside0 (Kd.R k62 62 w' w.heap.size (fun _ => True) u5 x5_1) ∧ Aside0 (Kd.R Kd.string 9 w' w.heap.size (fun k_ => some k_ ≠ ((.slice (some ad135) t132.length co5) : Value).ownBlock) v137 t136) ∧ Aside0 (Kd.R Kd.string 9 w' w.heap.size (fun k_ => some k_ ≠ (v137 : Value).ownBlock) (.slice (some ad135) t132.length co5) t132) ∧ Aside0 (Below w.heap.size w w'))
       case atStart => exact ⟨((-1)), (6), (by first | rfl | (simp; done) | (simp [*]; done) | (simp [bne_nil]; done) | (simp [bne_nil, *]; done)), (by first | rfl | (simp; done) | (simp [*]; done) | (simp [bne_nil]; done) | (simp [bne_nil, *]; done)), H', ⟨Nat.le_refl _⟩, ⟨by (with_reducible repeat (first | apply Kd.R_alloc | apply Kd.R_drewN | apply Kd.R_drew)); exact HO_5.out⟩, ⟨by (with_reducible repeat (first | apply Kd.R_alloc | apply Kd.R_drewN | apply Kd.R_drew)); exact Kd.R_mono HO138.out (fun _ hk => hk.2)⟩, ⟨by (with_reducible repeat (first | apply Kd.R_alloc | apply Kd.R_drewN | apply Kd.R_drew)); exact Kd.R_mono HO_23.out (fun _ hk => hk.2)⟩, ⟨by repeat (first | (with_reducible first | exact HB.out | apply below_alloc | apply pw_below_drewN | apply below_drew1) | exact HB.out)⟩⟩
       case round =>
        clear H'
        try clear c1
        try clear p1
        try clear q1
        try clear hx1
        try clear c2
        try clear c2b0
        try clear c2b1
        try clear p2
        try clear c6
        try clear c6b0
        try clear c7
        try clear c7b0
        try clear c8
        try clear c8b0
        try clear hx135_0
        try clear p135
        try clear p2
        try clear q135
        obtain ⟨x9_2, x10_2, rfl, rfl, HA, HK2, HO_5, HO_8, HO_23, HB⟩ := hrel
        cases gk with
        | zero => exact absurd HA.out (by simp [spec_MountsRead.l1])
        | succ k2 =>
         have H := HA.out
         clear HA
         simp only [spec_MountsRead.l1] at H
         by_cases c11 : x10_2 < (t136.length : Int)
         ·rw [if_pos c11] at H
          have c11b0 : decide (x10_2 < (t136.length : Int)) = true := decide_eq_true c11
          clear c11
          by_cases c12 : 0 ≤ x10_2
          ·rw [if_pos c12] at H
           have c12b0 : decide (0 ≤ x10_2) = true := decide_eq_true c12
           clear c12
           by_cases c13 : (rdOf ByteArray.empty t136 x10_2).toList = ([45] : List UInt8)
           ·rw [if_pos c13] at H
            have c13b0 : ((rdOf ByteArray.empty t136 x10_2).toList == ([45] : List UInt8)) = true := beq_iff_eq.mpr c13
            have c13b1 : ((rdOf ByteArray.empty t136 x10_2).toList != ([45] : List UInt8)) = false := bne_eq_false_iff_eq.mpr c13
            clear c13
            by_cases c14 : x9_2 < 0
            ·rw [if_pos c14] at H
             have c14b0 : decide (x9_2 < 0) = true := decide_eq_true c14
             clear c14
             have H' := Aside0.mk H
             clear H
             obtain ⟨Ao15, co15, eo15⟩ := Kd.R_slice HO_8.out
             subst eo15
             have p139 : 0 ≤ (x10_2 : Int) := of_decide_eq_true (by first | (with_reducible assumption) | assumption)
             have q139 : x10_2 < (t136.length : Int) := of_decide_eq_true (by first | (with_reducible assumption) | assumption)
             obtain ⟨ad139, e139, hx139_0⟩ := Kd.at_string (Kd.R_reads' HO_8.out).2.2 x10_2 p139 q139
             cases e139
             replace p139 := eq_true p139
             replace q139 := eq_true q139
             go_wp2
             go_roundg k2
             case measure => have := HK1.out; have := HK2.out; omega
             case rel => exact ⟨(x10_2), (wrap64 (x10_2 + 1)), (by first | rfl | (simp; done) | (simp [*]; done) | (simp [bne_nil]; done) | (simp [bne_nil, *]; done)), (by first | rfl | (simp; done) | (simp [*]; done) | (simp [bne_nil]; done) | (simp [bne_nil, *]; done)), H', ⟨by have := HK1.out; have := HK2.out; omega⟩, ⟨by (with_reducible repeat (first | apply Kd.R_alloc | apply Kd.R_drewN | apply Kd.R_drew)); exact HO_5.out⟩, ⟨by (with_reducible repeat (first | apply Kd.R_alloc | apply Kd.R_drewN | apply Kd.R_drew)); exact HO_8.out⟩, ⟨by (with_reducible repeat (first | apply Kd.R_alloc | apply Kd.R_drewN | apply Kd.R_drew)); exact HO_23.out⟩, ⟨by repeat (first | (with_reducible first | exact HB.out | apply below_alloc | apply pw_below_drewN | apply below_drew1) | exact HB.out)⟩⟩
            ·rw [if_neg c14] at H
             have c14b0 : decide (x9_2 < 0) = false := decide_eq_false c14
             clear c14
             have H' := Aside0.mk H
             clear H
             obtain ⟨Ao16, co16, eo16⟩ := Kd.R_slice HO_8.out
             subst eo16
             have p139 : 0 ≤ (x10_2 : Int) := of_decide_eq_true (by first | (with_reducible assumption) | assumption)
             have q139 : x10_2 < (t136.length : Int) := of_decide_eq_true (by first | (with_reducible assumption) | assumption)
             obtain ⟨ad139, e139, hx139_0⟩ := Kd.at_string (Kd.R_reads' HO_8.out).2.2 x10_2 p139 q139
             cases e139
             replace p139 := eq_true p139
             replace q139 := eq_true q139
             go_wp2
             go_roundg k2
             case measure => have := HK1.out; have := HK2.out; omega
             case rel => exact ⟨(x9_2), (wrap64 (x10_2 + 1)), (by first | rfl | (simp; done) | (simp [*]; done) | (simp [bne_nil]; done) | (simp [bne_nil, *]; done)), (by first | rfl | (simp; done) | (simp [*]; done) | (simp [bne_nil]; done) | (simp [bne_nil, *]; done)), H', ⟨by have := HK1.out; have := HK2.out; omega⟩, ⟨by (with_reducible repeat (first | apply Kd.R_alloc | apply Kd.R_drewN | apply Kd.R_drew)); exact HO_5.out⟩, ⟨by (with_reducible repeat (first | apply Kd.R_alloc | apply Kd.R_drewN | apply Kd.R_drew)); exact HO_8.out⟩, ⟨by (with_reducible repeat (first | apply Kd.R_alloc | apply Kd.R_drewN | apply Kd.R_drew)); exact HO_23.out⟩, ⟨by repeat (first | (with_reducible first | exact HB.out | apply below_alloc | apply pw_below_drewN | apply below_drew1) | exact HB.out)⟩⟩
           ·rw [if_neg c13] at H
            have c13b0 : ((rdOf ByteArray.empty t136 x10_2).toList == ([45] : List UInt8)) = false := beq_eq_false_iff_ne.mpr c13
            have c13b1 : ((rdOf ByteArray.empty t136 x10_2).toList != ([45] : List UInt8)) = true := bne_iff_ne.mpr c13
            have H' := Aside0.mk H
            clear H
            obtain ⟨Ao17, co17, eo17⟩ := Kd.R_slice HO_8.out
            subst eo17
            have p139 : 0 ≤ (x10_2 : Int) := of_decide_eq_true (by first | (with_reducible assumption) | assumption)
            have q139 : x10_2 < (t136.length : Int) := of_decide_eq_true (by first | (with_reducible assumption) | assumption)
            obtain ⟨ad139, e139, hx139_0⟩ := Kd.at_string (Kd.R_reads' HO_8.out).2.2 x10_2 p139 q139
            cases e139
            replace p139 := eq_true p139
            replace q139 := eq_true q139
            go_wp2
            go_roundg k2
            case measure => have := HK1.out; have := HK2.out; omega
            case rel => exact ⟨(x9_2), (wrap64 (x10_2 + 1)), (by first | rfl | (simp; done) | (simp [*]; done) | (simp [bne_nil]; done) | (simp [bne_nil, *]; done)), (by first | rfl | (simp; done) | (simp [*]; done) | (simp [bne_nil]; done) | (simp [bne_nil, *]; done)), H', ⟨by have := HK1.out; have := HK2.out; omega⟩, ⟨by (with_reducible repeat (first | apply Kd.R_alloc | apply Kd.R_drewN | apply Kd.R_drew)); exact HO_5.out⟩, ⟨by (with_reducible repeat (first | apply Kd.R_alloc | apply Kd.R_drewN | apply Kd.R_drew)); exact HO_8.out⟩, ⟨by (with_reducible repeat (first | apply Kd.R_alloc | apply Kd.R_drewN | apply Kd.R_drew)); exact HO_23.out⟩, ⟨by repeat (first | (with_reducible first | exact HB.out | apply below_alloc | apply pw_below_drewN | apply below_drew1) | exact HB.out)⟩⟩
          ·rw [if_neg c12] at H
           exact absurd H (by simp)
         ·rw [if_neg c11] at H
          have c11b0 : decide (x10_2 < (t136.length : Int)) = false := decide_eq_false c11
          clear c11
          have HC18 := Aside0.mk H
          clear H
          obtain ⟨Ao19, co19, eo19⟩ := Kd.R_slice HO_8.out
          subst eo19
          go_upto_region 14 with (fail)
          go_cut [55] (fun v55 wc => ∃ (kq : Nat) (x55_17 : Bool), v55 = .bool x55_17 ∧ Aside0 (spec_MountsRead.j2 kq x5_1 t136 x9_2 t132 (t132.length : Int) x25_1 x55_17 = some (r1, r2, r3)) ∧ Aside0 (kq ≤ k2) ∧ Aside0 (Kd.R k62 62 wc w.heap.size (fun _ => True) u5 x5_1) ∧ Aside0 (Kd.R Kd.string 9 wc w.heap.size (fun k_ => some k_ ≠ ((.slice (some ad135) t132.length co5) : Value).ownBlock) (.slice Ao19 t136.length co19) t136) ∧ Aside0 (Kd.R Kd.string 9 wc w.heap.size (fun k_ => some k_ ≠ ((.slice Ao19 t136.length co19) : Value).ownBlock) (.slice (some ad135) t132.length co5) t132) ∧ Aside0 (Below w.heap.size w wc))
          case first =>
           have H := HC18.out
           clear HC18
           by_cases c20 : x9_2 < 0
           ·rw [if_pos c20] at H
            have c20b0 : decide (x9_2 < 0) = true := decide_eq_true c20
            clear c20
            (first | rw [c20b0] | (simp only [i64_w, i32_w]; rw [c20b0]) | skip)
            have H' := Aside0.mk H
            clear H
            go_wp2
            go_meet
            case rel => exact ⟨_, (true), (by first | rfl | (simp; done) | (simp [*]; done) | (simp [bne_nil]; done) | (simp [bne_nil, *]; done)), H', ⟨by have := HK1.out; have := HK2.out; first | omega | exact Nat.le_refl _⟩, ⟨by (with_reducible repeat (first | apply Kd.R_alloc | apply Kd.R_drewN | apply Kd.R_drew)); exact HO_5.out⟩, ⟨by (with_reducible repeat (first | apply Kd.R_alloc | apply Kd.R_drewN | apply Kd.R_drew)); exact HO_8.out⟩, ⟨by (with_reducible repeat (first | apply Kd.R_alloc | apply Kd.R_drewN | apply Kd.R_drew)); exact HO_23.out⟩, ⟨by repeat (first | (with_reducible first | exact HB.out | apply below_alloc | apply pw_below_drewN | apply below_drew1) | exact HB.out)⟩⟩
           ·rw [if_neg c20] at H
            have c20b0 : decide (x9_2 < 0) = false := decide_eq_false c20
            clear c20
            (first | rw [c20b0] | (simp only [i64_w, i32_w]; rw [c20b0]) | skip)
            have H' := Aside0.mk H
            clear H
            go_wp2
            go_meet
            case rel => exact ⟨_, (((t136.length : Int) != (wrap64 (x9_2 + 4)))), (by first | rfl | (simp; done) | (simp [*]; done) | (simp [bne_nil]; done) | (simp [bne_nil, *]; done)), H', ⟨by have := HK1.out; have := HK2.out; first | omega | exact Nat.le_refl _⟩, ⟨by (with_reducible repeat (first | apply Kd.R_alloc | apply Kd.R_drewN | apply Kd.R_drew)); exact HO_5.out⟩, ⟨by (with_reducible repeat (first | apply Kd.R_alloc | apply Kd.R_drewN | apply Kd.R_drew)); exact HO_8.out⟩, ⟨by (with_reducible repeat (first | apply Kd.R_alloc | apply Kd.R_drewN | apply Kd.R_drew)); exact HO_23.out⟩, ⟨by repeat (first | (with_reducible first | exact HB.out | apply below_alloc | apply pw_below_drewN | apply below_drew1) | exact HB.out)⟩⟩
          case rest =>
           clear HC18
           try clear c1
           try clear p1
           try clear q1
           try clear hx1
           try clear c2
           try clear c2b0
           try clear c2b1
           try clear p2
           try clear c6
           try clear c6b0
           try clear p6
           try clear c7
           try clear c7b0
           try clear c8
           try clear c8b0
           try clear c11
           try clear c11b0
           try clear c12
           try clear c12b0
           try clear c13
           try clear c13b0
           try clear c13b1
           try clear p13
           try clear q13
           try clear hx13
           try clear c14
           try clear c14b0
           try clear c20
           try clear c20b0
           try clear hx135_0
           try clear hx139_0
           try clear p1
           try clear p135
           try clear p139
           try clear p2
           try clear q1
           try clear q135
           try clear q139
           obtain ⟨kq, x55_17, rfl, HA, HJ17, HO_5, HO_8, HO_23, HB⟩ := hcut
           cases kq with
           | zero => exact absurd HA.out (by simp [spec_MountsRead.j2])
           | succ kj17 =>
            have H := HA.out
            clear HA
            simp only [spec_MountsRead.j2] at H
            by_cases c21 : x55_17 = true
            ·subst c21
             have H1 : (some (([] : List (S62)), false, 2)) = some (r1, r2, r3) := by rw [if_pos rfl] at H; exact H
             clear H
             have H := H1
             clear H1
             simp only [Option.some.injEq, Prod.mk.injEq] at H
             obtain ⟨rfl, rfl, rfl⟩ := H
             go_wp2
             go_ret3
             exact ⟨_, by first | rfl | (simp [errW_none, errW_some] <;> rfl) | (simp [*, errW_none, errW_some] <;> rfl), by first | exact Kd.R_nil _ _ _ _ _ | exact Kd.N_nil _ _ _ _ _ | exact Kd.V_nil _ _ _ _ _ | exact Kd.Q_nil _ _ _ _ _ | exact Kd.S_nil _ _ _ _ _, by repeat (first | (with_reducible first | exact HB.out | apply below_alloc | apply pw_below_drewN | apply below_drew1) | exact HB.out)⟩
            ·replace c21 := Bool.eq_false_iff.mpr c21
             subst c21
             have H1 : (if 7 ≤ 281474976710656 then ((some (List.replicate 7 false : List Bool)).bind fun y141 => (if 0 < (t136.length : Int) then ((spec_number.f kj17 (rdOf ByteArray.empty t136 0)).bind fun bt145 => (if 0 < (y141.length : Int) then (if 1 < (t136.length : Int) then ((spec_number.f kj17 (rdOf ByteArray.empty t136 1)).bind fun bt149 => (if 1 < (y141.length : Int) then (if 2 < (t136.length : Int) then (spec_MountsRead.l2 kj17 x5_1 t136 x9_2 ((y141.set (0 : Int).toNat bt145.2).set (1 : Int).toNat bt149.2) (-1) t132 (t132.length : Int) x25_1 ((rdOf ByteArray.empty t136 2).size : Int) 0 bt145.1 bt149.1 0 0 (⟨#[]⟩ : ByteArray) (⟨#[]⟩ : ByteArray) (⟨#[]⟩ : ByteArray) (⟨#[]⟩ : ByteArray) (⟨#[]⟩ : ByteArray) (⟨#[]⟩ : ByteArray) (⟨#[]⟩ : ByteArray)) else (none)) else (none))) else (none)) else (none))) else (none))) else (none)) = some (r1, r2, r3) := by rw [if_neg (show ¬ (false = true) by decide)] at H; exact H
             clear H
             have H := H1
             clear H1
             by_cases c22 : 7 ≤ 281474976710656
             ·rw [if_pos c22] at H
              have c22b0 := eq_true c22
              have c22b1 : decide (7 ≤ 281474976710656) = true := decide_eq_true c22
              clear c22
              obtain ⟨y141, hy141⟩ : ∃ y_ : List Bool, y_ = (List.replicate 7 false) := ⟨_, rfl⟩
              replace H : (if 0 < (t136.length : Int) then ((spec_number.f kj17 (rdOf ByteArray.empty t136 0)).bind fun bt145 => (if 0 < (y141.length : Int) then (if 1 < (t136.length : Int) then ((spec_number.f kj17 (rdOf ByteArray.empty t136 1)).bind fun bt149 => (if 1 < (y141.length : Int) then (if 2 < (t136.length : Int) then (spec_MountsRead.l2 kj17 x5_1 t136 x9_2 ((y141.set (0 : Int).toNat bt145.2).set (1 : Int).toNat bt149.2) (-1) t132 (t132.length : Int) x25_1 ((rdOf ByteArray.empty t136 2).size : Int) 0 bt145.1 bt149.1 0 0 (⟨#[]⟩ : ByteArray) (⟨#[]⟩ : ByteArray) (⟨#[]⟩ : ByteArray) (⟨#[]⟩ : ByteArray) (⟨#[]⟩ : ByteArray) (⟨#[]⟩ : ByteArray) (⟨#[]⟩ : ByteArray)) else (none)) else (none))) else (none)) else (none))) else (none)) = some (r1, r2, r3) := by first | (rw [hy141]; with_reducible exact H) | (have H2_ := (Option.bind_some _ _).symm.trans H; rw [hy141]; with_reducible exact H2_) | (have H2_ := (Option.bind_some _ _).symm.trans H; with_reducible exact H2_) | with_reducible exact H | (rw [hy141]; exact H) | exact H
              have Ny141 := Aside0.mk hy141
              clear hy141
              by_cases c23 : 0 < (t136.length : Int)
              ·rw [if_pos c23] at H
               have c23b0 : decide (0 < (t136.length : Int)) = true := decide_eq_true c23
               have c23b1 : decide (0 < t136.length) = true := decide_eq_true (by omega)
               clear c23
               replace H := Option.bind_eq_some_iff.mp H
               obtain ⟨⟨t145, t146⟩, A240, H⟩ := H
               have A24 := Aside0.mk A240
               clear A240
               by_cases c25 : 0 < (y141.length : Int)
               ·rw [if_pos c25] at H
                have c25b0 : decide (0 < (y141.length : Int)) = true := decide_eq_true c25
                have c25b1 : decide (0 < y141.length) = true := decide_eq_true (by omega)
                clear c25
                obtain ⟨y147, hy147⟩ : ∃ y_ : List Bool, y_ = (y141.set (0 : Int).toNat t146) := ⟨_, rfl⟩
                replace H : (if 1 < (t136.length : Int) then ((spec_number.f kj17 (rdOf ByteArray.empty t136 1)).bind fun bt149 => (if 1 < (y141.length : Int) then (if 2 < (t136.length : Int) then (spec_MountsRead.l2 kj17 x5_1 t136 x9_2 (y147.set (1 : Int).toNat bt149.2) (-1) t132 (t132.length : Int) x25_1 ((rdOf ByteArray.empty t136 2).size : Int) 0 t145 bt149.1 0 0 (⟨#[]⟩ : ByteArray) (⟨#[]⟩ : ByteArray) (⟨#[]⟩ : ByteArray) (⟨#[]⟩ : ByteArray) (⟨#[]⟩ : ByteArray) (⟨#[]⟩ : ByteArray) (⟨#[]⟩ : ByteArray)) else (none)) else (none))) else (none)) = some (r1, r2, r3) := by first | (rw [hy147]; with_reducible exact H) | (have H2_ := (Option.bind_some _ _).symm.trans H; rw [hy147]; with_reducible exact H2_) | (have H2_ := (Option.bind_some _ _).symm.trans H; with_reducible exact H2_) | with_reducible exact H | (rw [hy147]; exact H) | exact H
                have Ny147 := Aside0.mk hy147
                clear hy147
                by_cases c27 : 1 < (t136.length : Int)
                ·rw [if_pos c27] at H
                 have c27b0 : decide (1 < (t136.length : Int)) = true := decide_eq_true c27
                 have c27b1 : decide (1 < t136.length) = true := decide_eq_true (by omega)
                 clear c27
                 replace H := Option.bind_eq_some_iff.mp H
                 obtain ⟨⟨t149, t150⟩, A280, H⟩ := H
                 have A28 := Aside0.mk A280
                 clear A280
                 by_cases c29 : 1 < (y141.length : Int)
                 ·rw [if_pos c29] at H
                  have c29b0 : decide (1 < (y141.length : Int)) = true := decide_eq_true c29
                  have c29b1 : decide (1 < y141.length) = true := decide_eq_true (by omega)
                  clear c29
                  obtain ⟨y151, hy151⟩ : ∃ y_ : List Bool, y_ = (y147.set (1 : Int).toNat t150) := ⟨_, rfl⟩
                  replace H : (if 2 < (t136.length : Int) then (spec_MountsRead.l2 kj17 x5_1 t136 x9_2 y151 (-1) t132 (t132.length : Int) x25_1 ((rdOf ByteArray.empty t136 2).size : Int) 0 t145 t149 0 0 (⟨#[]⟩ : ByteArray) (⟨#[]⟩ : ByteArray) (⟨#[]⟩ : ByteArray) (⟨#[]⟩ : ByteArray) (⟨#[]⟩ : ByteArray) (⟨#[]⟩ : ByteArray) (⟨#[]⟩ : ByteArray)) else (none)) = some (r1, r2, r3) := by first | (rw [hy151]; with_reducible exact H) | (have H2_ := (Option.bind_some _ _).symm.trans H; rw [hy151]; with_reducible exact H2_) | (have H2_ := (Option.bind_some _ _).symm.trans H; with_reducible exact H2_) | with_reducible exact H | (rw [hy151]; exact H) | exact H
                  have Ny151 := Aside0.mk hy151
                  clear hy151
                  by_cases c31 : 2 < (t136.length : Int)
                  ·rw [if_pos c31] at H
                   have c31b0 : decide (2 < (t136.length : Int)) = true := decide_eq_true c31
                   have c31b1 : decide (2 < t136.length) = true := decide_eq_true (by omega)
                   clear c31
                   have H' := Aside0.mk H
                   clear H
                   go_wp2_with (first | ((with_reducible refine gate_dst (N := 11) rfl ?_); (try (refine gate_guard (by rfl) ?_; dsimp only)); refine box_event ?hg (N := 11) ?hd (cs := #[.int .i64 0, .int .i64 0, .int .i64 0, .int .i64 0, .string (⟨#[]⟩ : ByteArray), .string (⟨#[]⟩ : ByteArray), .string (⟨#[]⟩ : ByteArray), .string (⟨#[]⟩ : ByteArray), .string (⟨#[]⟩ : ByteArray), .string (⟨#[]⟩ : ByteArray), .string (⟨#[]⟩ : ByteArray)]) (t := 62) ?hr ?_; (case hd => rfl); (case hg => rfl); (case hr => first | (go_simp; done) | (go_simp; rfl)); intro gb140 hg w32 hbox hb; have n0_ := Aside0.mk (Kd.R_below (Kd.R_elderB (by (with_reducible repeat (first | apply Kd.R_alloc | apply Kd.R_drewN | apply Kd.R_drew)); exact HO_5.out) gb140 (Nat.le_of_eq hg.symm)) hb); have n1_ := Aside0.mk (Kd.R_below (by (with_reducible repeat (first | apply Kd.R_alloc | apply Kd.R_drewN | apply Kd.R_drew)); exact HO_8.out) hb); have n2_ := Aside0.mk (Kd.R_below (by (with_reducible repeat (first | apply Kd.R_alloc | apply Kd.R_drewN | apply Kd.R_drew)); exact HO_23.out) hb); have n3_ := Aside0.mk (below_step belH hb); have n4_ := Aside0.mk (hbox); have n5_ := Aside0.mk ((by rw [hg]; exact (below_size belH) : w.heap.size ≤ gb140)); have n6_ := Aside0.mk ((by rw [hg]; exact (below_size belH) : w.heap.size ≤ gb140)); clear HO_5; clear HO_8; clear HO_23; clear HB; have HO_5 := n0_; have HO_8 := n1_; have HO_23 := n2_; have HB := n3_; have BK140 := n4_; have GW140 := n5_; have GE140 := n6_; clear n0_ n1_ n2_ n3_ n4_ n5_ n6_; clear hb hbox hg) | ((with_reducible refine gate_dst (N := 56) rfl ?_); (try (refine gate_guard (by rfl) ?_; dsimp only)); refine Kd.R_make Kd.bool _ 4 rfl (N := 56) rfl 63 _ _ rfl 7 rfl rfl Tryd.underlying63 (.bool false) 1 info4 rfl (by decide) (by omega) false (ok := fun _ => True) (okp := fun _ => True) rfl (fun _ hk => hk) trivial (by omega) (by omega) (Below.refl _ _) (Nat.le_refl _) ?_; intro v142 w33 ho34 hb hg_ hnew_; clear hg_ hnew_; (first | rw [← Ny141.out] at ho34 | (simp only [Int.reduceToNat] at ho34; rw [← Ny141.out] at ho34)); have n0_ := Aside0.mk (Kd.R_below (by (with_reducible repeat (first | apply Kd.R_alloc | apply Kd.R_drewN | apply Kd.R_drew)); exact HO_5.out) hb); have n1_ := Aside0.mk (Kd.R_below (by (with_reducible repeat (first | apply Kd.R_alloc | apply Kd.R_drewN | apply Kd.R_drew)); exact HO_8.out) hb); have n2_ := Aside0.mk (Kd.R_below (by (with_reducible repeat (first | apply Kd.R_alloc | apply Kd.R_drewN | apply Kd.R_drew)); exact HO_23.out) hb); have n3_ := Aside0.mk (Kd.R_lower ho34 (below_size belS)); have n4_ := Aside0.mk (blk_below (g := gb140) (o := .cells #[.int .i64 0, .int .i64 0, .int .i64 0, .int .i64 0, .string (⟨#[]⟩ : ByteArray), .string (⟨#[]⟩ : ByteArray), .string (⟨#[]⟩ : ByteArray), .string (⟨#[]⟩ : ByteArray), .string (⟨#[]⟩ : ByteArray), .string (⟨#[]⟩ : ByteArray), .string (⟨#[]⟩ : ByteArray)] 62 (0, 0)) (by refine bY ?_; exact BK140.out) hb); have n5_ := Aside0.mk (below_step belS hb); clear HO_5; clear HO_8; clear HO_23; clear BK140; clear HB; have HO_5 := n0_; have HO_8 := n1_; have HO_23 := n2_; have HO143 := n3_; have BK140 := n4_; have HB := n5_; clear n0_ n1_ n2_ n3_ n4_ n5_; clear hb ho34; have p144 : 0 ≤ (0 : Int) := (by omega); have q144 : 0 < (t136.length : Int) := of_decide_eq_true (by first | (with_reducible assumption) | assumption); obtain ⟨ad144, e144, hx144_0⟩ := Kd.at_string (Kd.R_reads' HO_8.out).2.2 0 p144 q144; cases e144; have qi144 : (0 < t136.length) = True := eq_true (by omega); (try rw [show ((0 : Int)).toNat = 0 from rfl] at hx144_0); (try rw [Addr.add_zero'] at hx144_0); replace p144 := eq_true p144; replace q144 := eq_true q144) | ((with_reducible refine gate_callee (f := 29) rfl ?_); refine goesL_ (some 62) rfl rfl Tryd.func29 (by kernel_rfl) rfl #[.string (rdOf ByteArray.empty t136 0)] rfl (by (try simp only [List.map_toArray, List.map_cons, List.map_nil]); first | done | rfl | (simp only [List.length_drop, List.length_take]; rfl)) ?_; (with_reducible refine (spec_number.calls kj17 (rdOf ByteArray.empty t136 0) t145 t146 _ A24.out).mono ?_); rintro e w' ⟨rfl, ⟨nd, rfl⟩⟩; refine ⟨_, rfl, ?_⟩; (try (rw [drewN_self w33]; generalize hq_ : World.drewN w33 _ = w33; have n0_ : Aside0 (Kd.R Kd.bool 4 w33 w.heap.size (fun _ => True) v142 y141) := ⟨by rw [← hq_]; exact (by (with_reducible repeat (first | apply Kd.R_alloc | apply Kd.R_drewN | apply Kd.R_drew)); exact HO143.out)⟩; have n1_ : Aside0 (Kd.R Kd.string 9 w33 w.heap.size (fun k_ => some k_ ≠ (.slice (some ad144) t136.length co19 : Value).ownBlock) (.slice (some ad135) t132.length co5) t132) := ⟨by rw [← hq_]; exact (by (with_reducible repeat (first | apply Kd.R_alloc | apply Kd.R_drewN | apply Kd.R_drew)); exact HO_23.out)⟩; have n2_ : Aside0 (Kd.R k62 62 w33 w.heap.size (fun k_ => k_ ≠ gb140) u5 x5_1) := ⟨by rw [← hq_]; exact (by (with_reducible repeat (first | apply Kd.R_alloc | apply Kd.R_drewN | apply Kd.R_drew)); exact Kd.R_mono HO_5.out (fun _ hk => hk.2))⟩; have n3_ : Aside0 (Kd.R Kd.string 9 w33 w.heap.size (fun k_ => some k_ ≠ (.slice (some ad135) t132.length co5 : Value).ownBlock) (.slice (some ad144) t136.length co19) t136) := ⟨by rw [← hq_]; exact (by (with_reducible repeat (first | apply Kd.R_alloc | apply Kd.R_drewN | apply Kd.R_drew)); exact HO_8.out)⟩; have n4_ : Aside0 (w33.heap[gb140]? = some (.cells #[.int .i64 0, .int .i64 0, .int .i64 0, .int .i64 0, .string (⟨#[]⟩ : ByteArray), .string (⟨#[]⟩ : ByteArray), .string (⟨#[]⟩ : ByteArray), .string (⟨#[]⟩ : ByteArray), .string (⟨#[]⟩ : ByteArray), .string (⟨#[]⟩ : ByteArray), .string (⟨#[]⟩ : ByteArray)] 62 (0, 0))) := ⟨by rw [← hq_]; exact (by refine bY ?_; exact BK140.out)⟩; have n5_ : Aside0 (Below w.heap.size w w33) := ⟨by rw [← hq_]; exact belS⟩; clear HO143 HO_23 HO_5 HO_8 BK140 HB hq_; have HO143 := n0_; have HO_23 := n1_; have HO_5 := n2_; have HO_8 := n3_; have BK140 := n4_; have HB := n5_; clear n0_ n1_ n2_ n3_ n4_ n5_)); obtain ⟨hcz35_0, hcz35_1, hcz35_2, hcz35_3, hcz35_4, hcz35_5, hcz35_6, hcz35_7, hcz35_8, hcz35_9, hcz35_10, hfz35_0, hfz35_1, hfz35_2, hfz35_3, hfz35_4, hfz35_5, hfz35_6, hfz35_7, hfz35_8, hfz35_9, hfz35_10⟩ := rows11 (w := w33) BK140) | ((with_reducible refine gate_store (t := 3) (p := 65) rfl ?_); refine store_event (t := 3) (p := 65) (v := ?vo_w36) (w1 := (w33.setCell ⟨gb140, 0, none⟩ (.int .i64 t145))) ?hg ?ho ?hn ?hr ?_; (case ho => rfl); (case hg => rfl); (case hn => rfl); (case hr => first | (go_simp; done) | (go_simp; rfl)); intro w36 hw; have n0_ : Aside0 (Kd.R k62 62 w36 w.heap.size (fun k_ => k_ ≠ gb140) u5 x5_1) := ⟨(by rw [hw]; exact (by (with_reducible repeat (first | apply Kd.R_alloc | apply Kd.R_drewN | apply Kd.R_drew)); exact Kd.R_mono (Kd.R_far (p := ⟨gb140, 0, none⟩) (Kd.R_mono HO_5.out (fun k_ hk => (⟨hk, by first | exact hk.2 | exact hk⟩ : _ ∧ k_ ≠ gb140))) (fun _ hk => hk.2) (.int .i64 t145)) (fun _ hk => by first | exact hk.1.2 | exact hk.1)))⟩; have n1_ : Aside0 (Kd.R Kd.string 9 w36 w.heap.size (fun k_ => some k_ ≠ (.slice (some ad135) t132.length co5 : Value).ownBlock) (.slice (some ad144) t136.length co19) t136) := ⟨(by rw [hw]; exact (by (with_reducible repeat (first | apply Kd.R_alloc | apply Kd.R_drewN | apply Kd.R_drew)); exact Kd.R_mono (Kd.R_far (p := ⟨gb140, 0, none⟩) (Kd.R_types HO_8.out BK140.out (by decide)) (fun _ hk => hk.2) (.int .i64 t145)) (fun _ hk => hk.1)))⟩; have n2_ : Aside0 (Kd.R Kd.string 9 w36 w.heap.size (fun k_ => some k_ ≠ (.slice (some ad144) t136.length co19 : Value).ownBlock) (.slice (some ad135) t132.length co5) t132) := ⟨(by rw [hw]; exact (by (with_reducible repeat (first | apply Kd.R_alloc | apply Kd.R_drewN | apply Kd.R_drew)); exact Kd.R_mono (Kd.R_far (p := ⟨gb140, 0, none⟩) (Kd.R_types HO_23.out BK140.out (by decide)) (fun _ hk => hk.2) (.int .i64 t145)) (fun _ hk => hk.1)))⟩; have n3_ : Aside0 (Kd.R Kd.bool 4 w36 w.heap.size (fun _ => True) v142 y141) := ⟨(by rw [hw]; exact (by (with_reducible repeat (first | apply Kd.R_alloc | apply Kd.R_drewN | apply Kd.R_drew)); exact Kd.R_mono (Kd.R_far (p := ⟨gb140, 0, none⟩) (Kd.R_types HO143.out BK140.out (by decide)) (fun _ hk => hk.2) (.int .i64 t145)) (fun _ hk => trivial)))⟩; have n4_ : Aside0 (w36.heap[gb140]? = some (.cells #[.int .i64 t145, .int .i64 0, .int .i64 0, .int .i64 0, .string (⟨#[]⟩ : ByteArray), .string (⟨#[]⟩ : ByteArray), .string (⟨#[]⟩ : ByteArray), .string (⟨#[]⟩ : ByteArray), .string (⟨#[]⟩ : ByteArray), .string (⟨#[]⟩ : ByteArray), .string (⟨#[]⟩ : ByteArray)] 62 (0, 0))) := ⟨(by rw [hw]; exact (by refine bY ?_; refine blk_put (cs := #[.int .i64 0, .int .i64 0, .int .i64 0, .int .i64 0, .string (⟨#[]⟩ : ByteArray), .string (⟨#[]⟩ : ByteArray), .string (⟨#[]⟩ : ByteArray), .string (⟨#[]⟩ : ByteArray), .string (⟨#[]⟩ : ByteArray), .string (⟨#[]⟩ : ByteArray), .string (⟨#[]⟩ : ByteArray)]) ?_ 0 _ rfl; refine bY ?_; exact BK140.out))⟩; have n5_ : Aside0 (Below w.heap.size w w36) := ⟨(by rw [hw]; exact belS)⟩; clear hw; clear HO_5; clear HO_8; clear HO_23; clear HO143; clear BK140; clear HB; have HO_5 := n0_; have HO_8 := n1_; have HO_23 := n2_; have HO143 := n3_; have BK140 := n4_; have HB := n5_; clear n0_ n1_ n2_ n3_ n4_ n5_; have p26 : 0 ≤ (0 : Int) := (by omega); have q26 : (0 : Int) < ((y141.length : Int) : Int) := of_decide_eq_true (by first | (with_reducible assumption) | assumption); have qi26 : (0 < y141.length) = True := eq_true (by omega); obtain ⟨go26, co26, eo26, gb26, gl26, cl26, HG26⟩ := Kd.R_form HO143.out (by omega); (first | cases eo26 | (injection eo26 with ea_ en_ ec_; (first | subst ea_ | (injection ea_ with ea_; subst ea_)); subst ec_; clear en_)); have GB26 := Aside0.mk gb26; have GG26 := Aside0.mk HG26; clear gb26 gl26 HG26; obtain ⟨hx26_0, hf26_0⟩ := Kd.R_celln false HO143.out (0 : Int) p26 q26; (try rw [show ((0 : Int)).toNat = 0 from rfl] at hx26_0); (try simp only [Nat.reduceMul, Nat.zero_mul, Nat.zero_add, Nat.reduceAdd] at hx26_0); (try rw [show ((0 : Int)).toNat = 0 from rfl] at hf26_0); (try simp only [Nat.reduceMul, Nat.zero_mul, Nat.zero_add, Nat.reduceAdd] at hf26_0); replace p26 := eq_true p26; replace q26 := eq_true q26; obtain ⟨hy37_, hz37_⟩ := Kd.R_celln false HO143.out (0 : Int) (by omega) (of_decide_eq_true (by first | (with_reducible assumption) | assumption)); (try simp only [Int.reduceToNat, Int.toNat_zero, Int.toNat_ofNat, Nat.reduceMul, Nat.zero_mul, Nat.zero_add] at hy37_ hz37_); (try rw [show ((0 : Int)).toNat = 0 from rfl] at hy37_); (try rw [show ((0 : Int)).toNat = 0 from rfl] at hz37_); have HP37 := Kd.R_putg HO143.out (0 : Int) t146) | ((with_reducible refine gate_store (t := 4) (p := 66) rfl ?_); refine store_event (t := 4) (p := 66) (v := ?vo_w38) (w1 := (w36.setCell ⟨go26, (0 : Int).toNat, none⟩ (.bool t146))) ?hg ?ho ?hn ?hr ?_; (case ho => rfl); (case hg => rfl); (case hn => rfl); (case hr => first | (go_simp; done) | (go_simp; rfl)); intro w38 hw; have hg : w36.grownBy w38 (some go26) := (by rw [hw]; exact HP37.2); have hp_ : Kd.R Kd.bool 4 w38 w.heap.size (fun _ => True) (.slice (some ⟨go26, 0, none⟩) y141.length co26) y147 := (by rw [hw, Ny147.out]; exact HP37.1); clear HP37; have n0_ := Aside0.mk (Kd.R_over' (v := (.slice (some ⟨go26, 0, none⟩) y141.length co26)) (by (with_reducible repeat (first | apply Kd.R_alloc | apply Kd.R_drewN | apply Kd.R_drew)); exact HO_5.out) (Kd.R_typed HO143.out) (by decide) hg); have n1_ := Aside0.mk (Kd.R_over' (v := (.slice (some ⟨go26, 0, none⟩) y141.length co26)) (by (with_reducible repeat (first | apply Kd.R_alloc | apply Kd.R_drewN | apply Kd.R_drew)); exact HO_8.out) (Kd.R_typed HO143.out) (by decide) hg); have n2_ := Aside0.mk (Kd.R_over' (v := (.slice (some ⟨go26, 0, none⟩) y141.length co26)) (by (with_reducible repeat (first | apply Kd.R_alloc | apply Kd.R_drewN | apply Kd.R_drew)); exact HO_23.out) (Kd.R_typed HO143.out) (by decide) hg); have n3_ := Aside0.mk (blk_grown (g := gb140) (o := .cells #[.int .i64 t145, .int .i64 0, .int .i64 0, .int .i64 0, .string (⟨#[]⟩ : ByteArray), .string (⟨#[]⟩ : ByteArray), .string (⟨#[]⟩ : ByteArray), .string (⟨#[]⟩ : ByteArray), .string (⟨#[]⟩ : ByteArray), .string (⟨#[]⟩ : ByteArray), .string (⟨#[]⟩ : ByteArray)] 62 (0, 0)) (by refine bY ?_; exact BK140.out) hg (Kd.R_ne HO143.out BK140.out (by decide))); have n4_ := Aside0.mk (hp_); have n5_ := Aside0.mk ((by rw [hw]; exact below_set (HB.out) GB26.out : Below w.heap.size w w38)); clear HO_5; clear HO_8; clear HO_23; clear BK140; clear HO143; clear HB; have HO_5 := n0_; have HO_8 := n1_; have HO_23 := n2_; have BK140 := n3_; have HO143 := n4_; have HB := n5_; clear n0_ n1_ n2_ n3_ n4_ n5_; clear hg hw hp_; have p148 : 0 ≤ (1 : Int) := (by omega); have q148 : 1 < (t136.length : Int) := of_decide_eq_true (by first | (with_reducible assumption) | assumption); obtain ⟨ad148, e148, hx148_0⟩ := Kd.at_string (Kd.R_reads' HO_8.out).2.2 1 p148 q148; obtain rfl : ad144 = ad148 := (by injection e148); (try simp only [show (1 : Int).toNat = 1 from rfl, Nat.reduceMul, Nat.reduceEqDiff, Go.Addr.add, ↓reduceIte] at hx148_0); have qi148 : (1 < t136.length) = True := eq_true (by omega); (try rw [show ((1 : Int)).toNat = 1 from rfl] at hx148_0); replace p148 := eq_true p148; replace q148 := eq_true q148) | ((with_reducible refine gate_callee (f := 29) rfl ?_); refine goesL_ (some 72) rfl rfl Tryd.func29 (by kernel_rfl) rfl #[.string (rdOf ByteArray.empty t136 1)] rfl (by (try simp only [List.map_toArray, List.map_cons, List.map_nil]); first | done | rfl | (simp only [List.length_drop, List.length_take]; rfl)) ?_; (with_reducible refine (spec_number.calls kj17 (rdOf ByteArray.empty t136 1) t149 t150 _ A28.out).mono ?_); rintro e w' ⟨rfl, ⟨nd, rfl⟩⟩; refine ⟨_, rfl, ?_⟩; (try (rw [drewN_self w38]; generalize hq_ : World.drewN w38 _ = w38; have n0_ : Aside0 (Kd.R Kd.bool 4 w38 w.heap.size (fun _ => True) (.slice (some ⟨go26, 0, none⟩) y141.length co26) y147) := ⟨by rw [← hq_]; exact (by (with_reducible repeat (first | apply Kd.R_alloc | apply Kd.R_drewN | apply Kd.R_drew)); exact HO143.out)⟩; have n1_ : Aside0 (Kd.R Kd.string 9 w38 w.heap.size (fun k_ => some k_ ≠ (.slice (some ad144) t136.length co19 : Value).ownBlock) (.slice (some ad135) t132.length co5) t132) := ⟨by rw [← hq_]; exact (by (with_reducible repeat (first | apply Kd.R_alloc | apply Kd.R_drewN | apply Kd.R_drew)); exact HO_23.out)⟩; have n2_ : Aside0 (Kd.R k62 62 w38 w.heap.size (fun k_ => k_ ≠ gb140) u5 x5_1) := ⟨by rw [← hq_]; exact (by (with_reducible repeat (first | apply Kd.R_alloc | apply Kd.R_drewN | apply Kd.R_drew)); exact HO_5.out)⟩; have n3_ : Aside0 (Kd.R Kd.string 9 w38 w.heap.size (fun k_ => some k_ ≠ (.slice (some ad135) t132.length co5 : Value).ownBlock) (.slice (some ad144) t136.length co19) t136) := ⟨by rw [← hq_]; exact (by (with_reducible repeat (first | apply Kd.R_alloc | apply Kd.R_drewN | apply Kd.R_drew)); exact HO_8.out)⟩; have n4_ : Aside0 (w38.heap[gb140]? = some (.cells #[.int .i64 t145, .int .i64 0, .int .i64 0, .int .i64 0, .string (⟨#[]⟩ : ByteArray), .string (⟨#[]⟩ : ByteArray), .string (⟨#[]⟩ : ByteArray), .string (⟨#[]⟩ : ByteArray), .string (⟨#[]⟩ : ByteArray), .string (⟨#[]⟩ : ByteArray), .string (⟨#[]⟩ : ByteArray)] 62 (0, 0))) := ⟨by rw [← hq_]; exact (by refine bY ?_; exact BK140.out)⟩; have n5_ : Aside0 (Below w.heap.size w w38) := ⟨by rw [← hq_]; exact belS⟩; clear HO143 HO_23 HO_5 HO_8 BK140 HB hq_; have HO143 := n0_; have HO_23 := n1_; have HO_5 := n2_; have HO_8 := n3_; have BK140 := n4_; have HB := n5_; clear n0_ n1_ n2_ n3_ n4_ n5_)); obtain ⟨hcz39_0, hcz39_1, hcz39_2, hcz39_3, hcz39_4, hcz39_5, hcz39_6, hcz39_7, hcz39_8, hcz39_9, hcz39_10, hfz39_0, hfz39_1, hfz39_2, hfz39_3, hfz39_4, hfz39_5, hfz39_6, hfz39_7, hfz39_8, hfz39_9, hfz39_10⟩ := rows11 (w := w38) BK140) | ((with_reducible refine gate_store (t := 3) (p := 75) rfl ?_); refine store_event (t := 3) (p := 75) (v := ?vo_w40) (w1 := (w38.setCell ⟨gb140, 1, none⟩ (.int .i64 t149))) ?hg ?ho ?hn ?hr ?_; (case ho => rfl); (case hg => rfl); (case hn => rfl); (case hr => first | (go_simp; done) | (go_simp; rfl)); intro w40 hw; have n0_ : Aside0 (Kd.R k62 62 w40 w.heap.size (fun k_ => k_ ≠ gb140) u5 x5_1) := ⟨(by rw [hw]; exact (by (with_reducible repeat (first | apply Kd.R_alloc | apply Kd.R_drewN | apply Kd.R_drew)); exact Kd.R_mono (Kd.R_far (p := ⟨gb140, 1, none⟩) (Kd.R_mono HO_5.out (fun k_ hk => (⟨hk, hk⟩ : _ ∧ k_ ≠ gb140))) (fun _ hk => hk.2) (.int .i64 t149)) (fun _ hk => hk.1)))⟩; have n1_ : Aside0 (Kd.R Kd.string 9 w40 w.heap.size (fun k_ => some k_ ≠ (.slice (some ad135) t132.length co5 : Value).ownBlock) (.slice (some ad144) t136.length co19) t136) := ⟨(by rw [hw]; exact (by (with_reducible repeat (first | apply Kd.R_alloc | apply Kd.R_drewN | apply Kd.R_drew)); exact Kd.R_mono (Kd.R_far (p := ⟨gb140, 1, none⟩) (Kd.R_types HO_8.out BK140.out (by decide)) (fun _ hk => hk.2) (.int .i64 t149)) (fun _ hk => hk.1)))⟩; have n2_ : Aside0 (Kd.R Kd.string 9 w40 w.heap.size (fun k_ => some k_ ≠ (.slice (some ad144) t136.length co19 : Value).ownBlock) (.slice (some ad135) t132.length co5) t132) := ⟨(by rw [hw]; exact (by (with_reducible repeat (first | apply Kd.R_alloc | apply Kd.R_drewN | apply Kd.R_drew)); exact Kd.R_mono (Kd.R_far (p := ⟨gb140, 1, none⟩) (Kd.R_types HO_23.out BK140.out (by decide)) (fun _ hk => hk.2) (.int .i64 t149)) (fun _ hk => hk.1)))⟩; have n3_ : Aside0 (Kd.R Kd.bool 4 w40 w.heap.size (fun _ => True) (.slice (some ⟨go26, 0, none⟩) y141.length co26) y147) := ⟨(by rw [hw]; exact (by (with_reducible repeat (first | apply Kd.R_alloc | apply Kd.R_drewN | apply Kd.R_drew)); exact Kd.R_mono (Kd.R_far (p := ⟨gb140, 1, none⟩) (Kd.R_types HO143.out BK140.out (by decide)) (fun _ hk => hk.2) (.int .i64 t149)) (fun _ hk => trivial)))⟩; have n4_ : Aside0 (w40.heap[gb140]? = some (.cells #[.int .i64 t145, .int .i64 t149, .int .i64 0, .int .i64 0, .string (⟨#[]⟩ : ByteArray), .string (⟨#[]⟩ : ByteArray), .string (⟨#[]⟩ : ByteArray), .string (⟨#[]⟩ : ByteArray), .string (⟨#[]⟩ : ByteArray), .string (⟨#[]⟩ : ByteArray), .string (⟨#[]⟩ : ByteArray)] 62 (0, 0))) := ⟨(by rw [hw]; exact (by refine bY ?_; refine blk_put (cs := #[.int .i64 t145, .int .i64 0, .int .i64 0, .int .i64 0, .string (⟨#[]⟩ : ByteArray), .string (⟨#[]⟩ : ByteArray), .string (⟨#[]⟩ : ByteArray), .string (⟨#[]⟩ : ByteArray), .string (⟨#[]⟩ : ByteArray), .string (⟨#[]⟩ : ByteArray), .string (⟨#[]⟩ : ByteArray)]) ?_ 1 _ rfl; refine bY ?_; exact BK140.out))⟩; have n5_ : Aside0 (Below w.heap.size w w40) := ⟨(by rw [hw]; exact belS)⟩; clear hw; clear HO_5; clear HO_8; clear HO_23; clear HO143; clear BK140; clear HB; have HO_5 := n0_; have HO_8 := n1_; have HO_23 := n2_; have HO143 := n3_; have BK140 := n4_; have HB := n5_; clear n0_ n1_ n2_ n3_ n4_ n5_; have p30 : 0 ≤ (1 : Int) := (by omega); have q30 : (1 : Int) < ((y141.length : Int) : Int) := of_decide_eq_true (by first | (with_reducible assumption) | assumption); have qi30 : (1 < y141.length) = True := eq_true (by omega); obtain ⟨hx30_0, hf30_0⟩ := Kd.R_celln false HO143.out (1 : Int) p30 q30; (try rw [show ((1 : Int)).toNat = 1 from rfl] at hx30_0); (try simp only [Nat.reduceMul, Nat.zero_mul, Nat.zero_add, Nat.reduceAdd] at hx30_0); (try rw [show ((1 : Int)).toNat = 1 from rfl] at hf30_0); (try simp only [Nat.reduceMul, Nat.zero_mul, Nat.zero_add, Nat.reduceAdd] at hf30_0); replace p30 := eq_true p30; replace q30 := eq_true q30; obtain ⟨hy41_, hz41_⟩ := Kd.R_celln false HO143.out (1 : Int) (by omega) (of_decide_eq_true (by first | (with_reducible assumption) | assumption)); (try simp only [Int.reduceToNat, Int.toNat_zero, Int.toNat_ofNat, Nat.reduceMul, Nat.zero_mul, Nat.zero_add] at hy41_ hz41_); (try rw [show ((1 : Int)).toNat = 1 from rfl] at hy41_); (try rw [show ((1 : Int)).toNat = 1 from rfl] at hz41_); have HP41 := Kd.R_putg HO143.out (1 : Int) t150) | ((with_reducible refine gate_store (t := 4) (p := 76) rfl ?_); refine store_event (t := 4) (p := 76) (v := ?vo_w42) (w1 := (w40.setCell ⟨go26, (1 : Int).toNat, none⟩ (.bool t150))) ?hg ?ho ?hn ?hr ?_; (case ho => rfl); (case hg => rfl); (case hn => rfl); (case hr => first | (go_simp; done) | (go_simp; rfl)); intro w42 hw; have hg : w40.grownBy w42 (some go26) := (by rw [hw]; exact HP41.2); have hp_ : Kd.R Kd.bool 4 w42 w.heap.size (fun _ => True) (.slice (some ⟨go26, 0, none⟩) y141.length co26) y151 := (by rw [hw, Ny151.out]; exact HP41.1); clear HP41; have n0_ := Aside0.mk (Kd.R_over' (v := (.slice (some ⟨go26, 0, none⟩) y141.length co26)) (by (with_reducible repeat (first | apply Kd.R_alloc | apply Kd.R_drewN | apply Kd.R_drew)); exact HO_5.out) (Kd.R_typed HO143.out) (by decide) hg); have n1_ := Aside0.mk (Kd.R_over' (v := (.slice (some ⟨go26, 0, none⟩) y141.length co26)) (by (with_reducible repeat (first | apply Kd.R_alloc | apply Kd.R_drewN | apply Kd.R_drew)); exact HO_8.out) (Kd.R_typed HO143.out) (by decide) hg); have n2_ := Aside0.mk (Kd.R_over' (v := (.slice (some ⟨go26, 0, none⟩) y141.length co26)) (by (with_reducible repeat (first | apply Kd.R_alloc | apply Kd.R_drewN | apply Kd.R_drew)); exact HO_23.out) (Kd.R_typed HO143.out) (by decide) hg); have n3_ := Aside0.mk (blk_grown (g := gb140) (o := .cells #[.int .i64 t145, .int .i64 t149, .int .i64 0, .int .i64 0, .string (⟨#[]⟩ : ByteArray), .string (⟨#[]⟩ : ByteArray), .string (⟨#[]⟩ : ByteArray), .string (⟨#[]⟩ : ByteArray), .string (⟨#[]⟩ : ByteArray), .string (⟨#[]⟩ : ByteArray), .string (⟨#[]⟩ : ByteArray)] 62 (0, 0)) (by refine bY ?_; exact BK140.out) hg (Kd.R_ne HO143.out BK140.out (by decide))); have n4_ := Aside0.mk (hp_); have n5_ := Aside0.mk ((by rw [hw]; exact below_set (HB.out) GB26.out : Below w.heap.size w w42)); clear HO_5; clear HO_8; clear HO_23; clear BK140; clear HO143; clear HB; have HO_5 := n0_; have HO_8 := n1_; have HO_23 := n2_; have BK140 := n3_; have HO143 := n4_; have HB := n5_; clear n0_ n1_ n2_ n3_ n4_ n5_; clear hg hw hp_; have p152 : 0 ≤ (2 : Int) := (by omega); have q152 : 2 < (t136.length : Int) := of_decide_eq_true (by first | (with_reducible assumption) | assumption); obtain ⟨ad152, e152, hx152_0⟩ := Kd.at_string (Kd.R_reads' HO_8.out).2.2 2 p152 q152; obtain rfl : ad144 = ad152 := (by injection e152); (try simp only [show (2 : Int).toNat = 2 from rfl, Nat.reduceMul, Nat.reduceEqDiff, Go.Addr.add, ↓reduceIte] at hx152_0); have qi152 : (2 < t136.length) = True := eq_true (by omega); (try rw [show ((2 : Int)).toNat = 2 from rfl] at hx152_0); replace p152 := eq_true p152; replace q152 := eq_true q152))
                   go_loopg [13, 81] kj17 (fun kq v13 v81 w' => ∃ (x13_4 : Int) (x81_4 : Int), v13 = .int .i64 x13_4 ∧ v81 = .int .i64 x81_4 ∧ Aside0 (spec_MountsRead.l2 kq x5_1 t136 x9_2 y151 x13_4 t132 (t132.length : Int) x25_1 ((rdOf ByteArray.empty t136 2).size : Int) x81_4 t145 t149 0 0 (⟨#[]⟩ : ByteArray) (⟨#[]⟩ : ByteArray) (⟨#[]⟩ : ByteArray) (⟨#[]⟩ : ByteArray) (⟨#[]⟩ : ByteArray) (⟨#[]⟩ : ByteArray) (⟨#[]⟩ : ByteArray) = some (r1, r2, r3)) ∧ Aside0 (kq ≤ kj17) ∧ Aside0 (Kd.R k62 62 w' w.heap.size (fun k_ => k_ ≠ gb140) u5 x5_1) ∧ Aside0 (Kd.R Kd.string 9 w' w.heap.size (fun k_ => some k_ ≠ ((.slice (some ad135) t132.length co5) : Value).ownBlock) (.slice (some ad144) t136.length co19) t136) ∧ Aside0 (Kd.R Kd.bool 4 w' w.heap.size (fun _ => True) (.slice (some ⟨go26, 0, none⟩) y141.length co26) y151) ∧ Aside0 (Kd.R Kd.string 9 w' w.heap.size (fun k_ => some k_ ≠ ((.slice (some ad144) t136.length co19) : Value).ownBlock) (.slice (some ad135) t132.length co5) t132) ∧ Aside0 (w'.heap[gb140]? = some (.cells #[.int .i64 t145, .int .i64 t149, .int .i64 0, .int .i64 0, .string (⟨#[]⟩ : ByteArray), .string (⟨#[]⟩ : ByteArray), .string (⟨#[]⟩ : ByteArray), .string (⟨#[]⟩ : ByteArray), .string (⟨#[]⟩ : ByteArray), .string (⟨#[]⟩ : ByteArray), .string (⟨#[]⟩ : ByteArray)] 62 (0, 0))) ∧ Aside0 (Below w.heap.size w w'))
                   case atStart => exact ⟨((-1)), (0), (by first | rfl | (simp; done) | (simp [*]; done) | (simp [bne_nil]; done) | (simp [bne_nil, *]; done)), (by first | rfl | (simp; done) | (simp [*]; done) | (simp [bne_nil]; done) | (simp [bne_nil, *]; done)), H', ⟨Nat.le_refl _⟩, ⟨by (with_reducible repeat (first | apply Kd.R_alloc | apply Kd.R_drewN | apply Kd.R_drew)); exact HO_5.out⟩, ⟨by (with_reducible repeat (first | apply Kd.R_alloc | apply Kd.R_drewN | apply Kd.R_drew)); exact HO_8.out⟩, ⟨by (with_reducible repeat (first | apply Kd.R_alloc | apply Kd.R_drewN | apply Kd.R_drew)); exact HO143.out⟩, ⟨by (with_reducible repeat (first | apply Kd.R_alloc | apply Kd.R_drewN | apply Kd.R_drew)); exact HO_23.out⟩, ⟨by refine bY ?_; exact BK140.out⟩, ⟨by repeat (first | (with_reducible first | exact HB.out | apply below_alloc | apply pw_below_drewN | apply below_drew1 | refine below_set ?_ GE140.out) | exact HB.out)⟩⟩
                   case round =>
                    clear H'
                    try clear c1
                    try clear p1
                    try clear q1
                    try clear hx1
                    try clear qi1
                    try clear c2
                    try clear c2b0
                    try clear c2b1
                    try clear p2
                    try clear q2
                    try clear hx2
                    try clear qi2
                    try clear hf2
                    try clear c3
                    try clear p3
                    try clear q3
                    try clear hx3
                    try clear qi3
                    try clear hf3
                    try clear c6
                    try clear c6b0
                    try clear p6
                    try clear c7
                    try clear c7b0
                    try clear c8
                    try clear c8b0
                    try clear c11
                    try clear c11b0
                    try clear c12
                    try clear c12b0
                    try clear c13
                    try clear c13b0
                    try clear c13b1
                    try clear p13
                    try clear q13
                    try clear hx13
                    try clear c14
                    try clear c14b0
                    try clear p14
                    try clear q14
                    try clear hx14
                    try clear qi14
                    try clear p15
                    try clear q15
                    try clear hx15
                    try clear qi15
                    try clear c20
                    try clear c20b0
                    try clear c21
                    try clear c22
                    try clear c22b0
                    try clear c22b1
                    try clear c23
                    try clear c23b0
                    try clear c23b1
                    try clear c25
                    try clear c25b0
                    try clear c25b1
                    try clear p26
                    try clear q26
                    try clear hx26
                    try clear qi26
                    try clear hf26
                    try clear c27
                    try clear c27b0
                    try clear c27b1
                    try clear c28
                    try clear c29
                    try clear c29b0
                    try clear c29b1
                    try clear p30
                    try clear q30
                    try clear hx30
                    try clear qi30
                    try clear hf30
                    try clear c31
                    try clear c31b0
                    try clear c31b1
                    try clear hcz35_0
                    try clear hcz35_1
                    try clear hcz35_10
                    try clear hcz35_2
                    try clear hcz35_3
                    try clear hcz35_4
                    try clear hcz35_5
                    try clear hcz35_6
                    try clear hcz35_7
                    try clear hcz35_8
                    try clear hcz35_9
                    try clear hcz39_0
                    try clear hcz39_1
                    try clear hcz39_10
                    try clear hcz39_2
                    try clear hcz39_3
                    try clear hcz39_4
                    try clear hcz39_5
                    try clear hcz39_6
                    try clear hcz39_7
                    try clear hcz39_8
                    try clear hcz39_9
                    try clear hfz35_0
                    try clear hfz35_1
                    try clear hfz35_10
                    try clear hfz35_2
                    try clear hfz35_3
                    try clear hfz35_4
                    try clear hfz35_5
                    try clear hfz35_6
                    try clear hfz35_7
                    try clear hfz35_8
                    try clear hfz35_9
                    try clear hfz39_0
                    try clear hfz39_1
                    try clear hfz39_10
                    try clear hfz39_2
                    try clear hfz39_3
                    try clear hfz39_4
                    try clear hfz39_5
                    try clear hfz39_6
                    try clear hfz39_7
                    try clear hfz39_8
                    try clear hfz39_9
                    try clear hx135_0
                    try clear hx139_0
                    try clear hx144_0
                    try clear hx148_0
                    try clear hx152_0
                    try clear hx26_0
                    try clear hx30_0
                    try clear p1
                    try clear p13
                    try clear p135
                    try clear p139
                    try clear p144
                    try clear p148
                    try clear p152
                    try clear p2
                    try clear p26
                    try clear p30
                    try clear p6
                    try clear q1
                    try clear q13
                    try clear q135
                    try clear q139
                    try clear q144
                    try clear q148
                    try clear q152
                    try clear q26
                    try clear q30
                    obtain ⟨x13_4, x81_4, rfl, rfl, HA, HK4, HO_5, HO_8, HO_12, HO_23, BK140, HB⟩ := hrel
                    have hl12_4 := (Kd.R_reads' HO_12.out).1
                    rw [hl12_4] at HO_12
                    (try simp only [hl12_4])
                    (try simp only [hl12_4] at BK140)
                    (try simp only [hl12_4] at HO_5)
                    (try simp only [hl12_4] at HO_8)
                    (try simp only [hl12_4] at HO_23)
                    cases gk with
                    | zero => exact absurd HA.out (by simp [spec_MountsRead.l2])
                    | succ k4 =>
                     have H := HA.out
                     clear HA
                     simp only [spec_MountsRead.l2] at H
                     by_cases c43 : x81_4 < ((rdOf ByteArray.empty t136 2).size : Int)
                     ·rw [if_pos c43] at H
                      have c43b0 : decide (x81_4 < ((rdOf ByteArray.empty t136 2).size : Int)) = true := decide_eq_true c43
                      clear c43
                      by_cases c44 : 2 < (t136.length : Int)
                      ·rw [if_pos c44] at H
                       have c44b0 : decide (2 < (t136.length : Int)) = true := decide_eq_true c44
                       have c44b1 : decide (2 < t136.length) = true := decide_eq_true (by omega)
                       clear c44
                       by_cases c45 : 0 ≤ x81_4
                       ·rw [if_pos c45] at H
                        have c45b0 : decide (0 ≤ x81_4) = true := decide_eq_true c45
                        clear c45
                        by_cases c46 : x81_4 < ((rdOf ByteArray.empty t136 2).size : Int)
                        ·rw [if_pos c46] at H
                         have c46b0 : decide (x81_4 < ((rdOf ByteArray.empty t136 2).size : Int)) = true := decide_eq_true c46
                         clear c46
                         by_cases c48 : (bt (rdOf ByteArray.empty t136 2) x81_4) = 58
                         ·rw [if_pos c48] at H
                          have c48b0 : ((bt (rdOf ByteArray.empty t136 2) x81_4) == 58) = true := beq_iff_eq.mpr c48
                          have c48b1 : ((bt (rdOf ByteArray.empty t136 2) x81_4) != 58) = false := bne_eq_false_iff_eq.mpr c48
                          clear c48
                          by_cases c49 : x13_4 < 0
                          ·rw [if_pos c49] at H
                           have c49b0 : decide (x13_4 < 0) = true := decide_eq_true c49
                           clear c49
                           have H' := Aside0.mk H
                           clear H
                           have p153 : 0 ≤ (2 : Int) := (by omega)
                           have q153 : 2 < (t136.length : Int) := of_decide_eq_true (by first | (with_reducible assumption) | assumption)
                           obtain ⟨ad153, e153, hx153_0⟩ := Kd.at_string (Kd.R_reads' HO_8.out).2.2 2 p153 q153
                           obtain rfl : ad144 = ad153 := (by injection e153)
                           (try simp only [show (2 : Int).toNat = 2 from rfl, Nat.reduceMul, Nat.reduceEqDiff, Go.Addr.add, ↓reduceIte] at hx153_0)
                           have qi153 : (2 < t136.length) = True := eq_true (by omega)
                           (try rw [show ((2 : Int)).toNat = 2 from rfl] at hx153_0)
                           replace p153 := eq_true p153
                           replace q153 := eq_true q153
                           have p47 : 0 ≤ (x81_4 : Int) := of_decide_eq_true (by first | (with_reducible assumption) | assumption)
                           have q47 : x81_4 < ((rdOf ByteArray.empty t136 2).size : Int) := of_decide_eq_true (by first | (with_reducible assumption) | assumption)
                           have hx47 := bt_at (rdOf ByteArray.empty t136 2) x81_4
                           replace p47 := eq_true p47
                           replace q47 := eq_true q47
                           go_wp2
                           (try simp only [← hl12_4])
                           go_roundg k4
                           case measure => have := HK1.out; have := HK2.out; have := HJ17.out; have := HK4.out; omega
                           case rel => exact ⟨(x81_4), (wrap64 (x81_4 + 1)), (by first | rfl | (simp; done) | (simp [*]; done) | (simp [bne_nil]; done) | (simp [bne_nil, *]; done)), (by first | rfl | (simp; done) | (simp [*]; done) | (simp [bne_nil]; done) | (simp [bne_nil, *]; done)), H', ⟨by have := HK1.out; have := HK2.out; have := HJ17.out; have := HK4.out; omega⟩, ⟨by (try simp only [hl12_4]); (with_reducible repeat (first | apply Kd.R_alloc | apply Kd.R_drewN | apply Kd.R_drew)); exact HO_5.out⟩, ⟨by (try simp only [hl12_4]); (with_reducible repeat (first | apply Kd.R_alloc | apply Kd.R_drewN | apply Kd.R_drew)); exact HO_8.out⟩, ⟨by (try simp only [hl12_4]); (with_reducible repeat (first | apply Kd.R_alloc | apply Kd.R_drewN | apply Kd.R_drew)); exact HO_12.out⟩, ⟨by (try simp only [hl12_4]); (with_reducible repeat (first | apply Kd.R_alloc | apply Kd.R_drewN | apply Kd.R_drew)); exact HO_23.out⟩, ⟨by (try simp only [hl12_4]); refine bY ?_; exact BK140.out⟩, ⟨by repeat (first | (with_reducible first | exact HB.out | apply below_alloc | apply pw_below_drewN | apply below_drew1 | refine below_set ?_ GE140.out) | exact HB.out)⟩⟩
                          ·rw [if_neg c49] at H
                           have c49b0 : decide (x13_4 < 0) = false := decide_eq_false c49
                           clear c49
                           have H' := Aside0.mk H
                           clear H
                           have p153 : 0 ≤ (2 : Int) := (by omega)
                           have q153 : 2 < (t136.length : Int) := of_decide_eq_true (by first | (with_reducible assumption) | assumption)
                           obtain ⟨ad153, e153, hx153_0⟩ := Kd.at_string (Kd.R_reads' HO_8.out).2.2 2 p153 q153
                           obtain rfl : ad144 = ad153 := (by injection e153)
                           (try simp only [show (2 : Int).toNat = 2 from rfl, Nat.reduceMul, Nat.reduceEqDiff, Go.Addr.add, ↓reduceIte] at hx153_0)
                           have qi153 : (2 < t136.length) = True := eq_true (by omega)
                           (try rw [show ((2 : Int)).toNat = 2 from rfl] at hx153_0)
                           replace p153 := eq_true p153
                           replace q153 := eq_true q153
                           have p47 : 0 ≤ (x81_4 : Int) := of_decide_eq_true (by first | (with_reducible assumption) | assumption)
                           have q47 : x81_4 < ((rdOf ByteArray.empty t136 2).size : Int) := of_decide_eq_true (by first | (with_reducible assumption) | assumption)
                           have hx47 := bt_at (rdOf ByteArray.empty t136 2) x81_4
                           replace p47 := eq_true p47
                           replace q47 := eq_true q47
                           go_wp2
                           (try simp only [← hl12_4])
                           go_roundg k4
                           case measure => have := HK1.out; have := HK2.out; have := HJ17.out; have := HK4.out; omega
                           case rel => exact ⟨(x13_4), (wrap64 (x81_4 + 1)), (by first | rfl | (simp; done) | (simp [*]; done) | (simp [bne_nil]; done) | (simp [bne_nil, *]; done)), (by first | rfl | (simp; done) | (simp [*]; done) | (simp [bne_nil]; done) | (simp [bne_nil, *]; done)), H', ⟨by have := HK1.out; have := HK2.out; have := HJ17.out; have := HK4.out; omega⟩, ⟨by (try simp only [hl12_4]); (with_reducible repeat (first | apply Kd.R_alloc | apply Kd.R_drewN | apply Kd.R_drew)); exact HO_5.out⟩, ⟨by (try simp only [hl12_4]); (with_reducible repeat (first | apply Kd.R_alloc | apply Kd.R_drewN | apply Kd.R_drew)); exact HO_8.out⟩, ⟨by (try simp only [hl12_4]); (with_reducible repeat (first | apply Kd.R_alloc | apply Kd.R_drewN | apply Kd.R_drew)); exact HO_12.out⟩, ⟨by (try simp only [hl12_4]); (with_reducible repeat (first | apply Kd.R_alloc | apply Kd.R_drewN | apply Kd.R_drew)); exact HO_23.out⟩, ⟨by (try simp only [hl12_4]); refine bY ?_; exact BK140.out⟩, ⟨by repeat (first | (with_reducible first | exact HB.out | apply below_alloc | apply pw_below_drewN | apply below_drew1 | refine below_set ?_ GE140.out) | exact HB.out)⟩⟩
                         ·rw [if_neg c48] at H
                          have c48b0 : ((bt (rdOf ByteArray.empty t136 2) x81_4) == 58) = false := beq_eq_false_iff_ne.mpr c48
                          have c48b1 : ((bt (rdOf ByteArray.empty t136 2) x81_4) != 58) = true := bne_iff_ne.mpr c48
                          have H' := Aside0.mk H
                          clear H
                          have p153 : 0 ≤ (2 : Int) := (by omega)
                          have q153 : 2 < (t136.length : Int) := of_decide_eq_true (by first | (with_reducible assumption) | assumption)
                          obtain ⟨ad153, e153, hx153_0⟩ := Kd.at_string (Kd.R_reads' HO_8.out).2.2 2 p153 q153
                          obtain rfl : ad144 = ad153 := (by injection e153)
                          (try simp only [show (2 : Int).toNat = 2 from rfl, Nat.reduceMul, Nat.reduceEqDiff, Go.Addr.add, ↓reduceIte] at hx153_0)
                          have qi153 : (2 < t136.length) = True := eq_true (by omega)
                          (try rw [show ((2 : Int)).toNat = 2 from rfl] at hx153_0)
                          replace p153 := eq_true p153
                          replace q153 := eq_true q153
                          have p47 : 0 ≤ (x81_4 : Int) := of_decide_eq_true (by first | (with_reducible assumption) | assumption)
                          have q47 : x81_4 < ((rdOf ByteArray.empty t136 2).size : Int) := of_decide_eq_true (by first | (with_reducible assumption) | assumption)
                          have hx47 := bt_at (rdOf ByteArray.empty t136 2) x81_4
                          replace p47 := eq_true p47
                          replace q47 := eq_true q47
                          go_wp2
                          (try simp only [← hl12_4])
                          go_roundg k4
                          case measure => have := HK1.out; have := HK2.out; have := HJ17.out; have := HK4.out; omega
                          case rel => exact ⟨(x13_4), (wrap64 (x81_4 + 1)), (by first | rfl | (simp; done) | (simp [*]; done) | (simp [bne_nil]; done) | (simp [bne_nil, *]; done)), (by first | rfl | (simp; done) | (simp [*]; done) | (simp [bne_nil]; done) | (simp [bne_nil, *]; done)), H', ⟨by have := HK1.out; have := HK2.out; have := HJ17.out; have := HK4.out; omega⟩, ⟨by (try simp only [hl12_4]); (with_reducible repeat (first | apply Kd.R_alloc | apply Kd.R_drewN | apply Kd.R_drew)); exact HO_5.out⟩, ⟨by (try simp only [hl12_4]); (with_reducible repeat (first | apply Kd.R_alloc | apply Kd.R_drewN | apply Kd.R_drew)); exact HO_8.out⟩, ⟨by (try simp only [hl12_4]); (with_reducible repeat (first | apply Kd.R_alloc | apply Kd.R_drewN | apply Kd.R_drew)); exact HO_12.out⟩, ⟨by (try simp only [hl12_4]); (with_reducible repeat (first | apply Kd.R_alloc | apply Kd.R_drewN | apply Kd.R_drew)); exact HO_23.out⟩, ⟨by (try simp only [hl12_4]); refine bY ?_; exact BK140.out⟩, ⟨by repeat (first | (with_reducible first | exact HB.out | apply below_alloc | apply pw_below_drewN | apply below_drew1 | refine below_set ?_ GE140.out) | exact HB.out)⟩⟩
                        ·rw [if_neg c46] at H
                         exact absurd H (by simp)
                       ·rw [if_neg c45] at H
                        exact absurd H (by simp)
                      ·rw [if_neg c44] at H
                       exact absurd H (by simp)
                     ·rw [if_neg c43] at H
                      have c43b0 : decide (x81_4 < ((rdOf ByteArray.empty t136 2).size : Int)) = false := decide_eq_false c43
                      clear c43
                      by_cases c50 : x13_4 < 0
                      ·rw [if_pos c50] at H
                       have c50b0 : decide (x13_4 < 0) = true := decide_eq_true c50
                       clear c50
                       simp only [Option.some.injEq, Prod.mk.injEq] at H
                       obtain ⟨rfl, rfl, rfl⟩ := H
                       go_wp2
                       go_ret3
                       exact ⟨_, by first | rfl | (simp [errW_none, errW_some] <;> rfl) | (simp [*, errW_none, errW_some] <;> rfl), by first | exact Kd.R_nil _ _ _ _ _ | exact Kd.N_nil _ _ _ _ _ | exact Kd.V_nil _ _ _ _ _ | exact Kd.Q_nil _ _ _ _ _ | exact Kd.S_nil _ _ _ _ _, by repeat (first | (with_reducible first | exact HB.out | apply below_alloc | apply pw_below_drewN | apply below_drew1 | refine below_set ?_ GE140.out) | exact HB.out)⟩
                      ·rw [if_neg c50] at H
                       have c50b0 : decide (x13_4 < 0) = false := decide_eq_false c50
                       clear c50
                       by_cases c51 : 2 < (t136.length : Int)
                       ·rw [if_pos c51] at H
                        have c51b0 : decide (2 < (t136.length : Int)) = true := decide_eq_true c51
                        have c51b1 : decide (2 < t136.length) = true := decide_eq_true (by omega)
                        clear c51
                        by_cases c52 : 0 ≤ x13_4
                        ·rw [if_pos c52] at H
                         have c52b0 := eq_true c52
                         have c52b1 : decide (0 ≤ x13_4) = true := decide_eq_true c52
                         clear c52
                         by_cases c53 : x13_4 ≤ ((rdOf ByteArray.empty t136 2).size : Int)
                         ·rw [if_pos c53] at H
                          have c53b0 := eq_true c53
                          have c53b1 : decide (x13_4 ≤ ((rdOf ByteArray.empty t136 2).size : Int)) = true := decide_eq_true c53
                          clear c53
                          replace H := Option.bind_eq_some_iff.mp H
                          obtain ⟨⟨t155, t156⟩, A540, H⟩ := H
                          have A54 := Aside0.mk A540
                          clear A540
                          by_cases c55 : 2 < (y151.length : Int)
                          ·rw [if_pos c55] at H
                           have c55b0 : decide (2 < (y151.length : Int)) = true := decide_eq_true c55
                           have c55b1 : decide (2 < y151.length) = true := decide_eq_true (by omega)
                           clear c55
                           obtain ⟨y157, hy157⟩ : ∃ y_ : List Bool, y_ = (y151.set (2 : Int).toNat t156) := ⟨_, rfl⟩
                           replace H : (if 0 ≤ (wrap64 (x13_4 + 1)) then (if (wrap64 (x13_4 + 1)) ≤ ((rdOf ByteArray.empty t136 2).size : Int) then ((spec_number.f k4 ((rdOf ByteArray.empty t136 2).extract ((wrap64 (x13_4 + 1)) : Int).toNat (rdOf ByteArray.empty t136 2).size)).bind fun bt159 => (if 3 < (y151.length : Int) then (if 3 < (t136.length : Int) then ((spec_unoctal.f k4 (rdOf ByteArray.empty t136 3)).bind fun bt163 => (if 4 < (y151.length : Int) then (if 4 < (t136.length : Int) then ((spec_unoctal.f k4 (rdOf ByteArray.empty t136 4)).bind fun bt167 => (if 5 < (y151.length : Int) then (if 0 ≤ (wrap64 (x9_2 + 2)) then (if (wrap64 (x9_2 + 2)) < (t136.length : Int) then ((spec_unoctal.f k4 (rdOf ByteArray.empty t136 (wrap64 (x9_2 + 2)))).bind fun bt171 => (if 6 < (y151.length : Int) then (if 5 < (t136.length : Int) then (if 0 ≤ (wrap64 (x9_2 + 1)) then (if (wrap64 (x9_2 + 1)) < (t136.length : Int) then (if 0 ≤ (wrap64 (x9_2 + 3)) then (if (wrap64 (x9_2 + 3)) < (t136.length : Int) then (if 6 ≤ x9_2 then (if x9_2 ≤ (t136.length : Int) then ((some ((t136.take (x9_2 : Int).toNat).drop 6 : List ByteArray)).bind fun y177 => (spec_MountsRead.l3 k4 x5_1 ((((y157.set (3 : Int).toNat bt159.2).set (4 : Int).toNat bt163.2).set (5 : Int).toNat bt167.2).set (6 : Int).toNat bt171.2) t132 (t132.length : Int) x25_1 y177 (y177.length : Int) 0 t145 t149 t155 bt159.1 bt163.1 bt167.1 (rdOf ByteArray.empty t136 5) (⟨#[]⟩ : ByteArray) (rdOf ByteArray.empty t136 (wrap64 (x9_2 + 1))) bt171.1 (rdOf ByteArray.empty t136 (wrap64 (x9_2 + 3))))) else (none)) else (none)) else (none)) else (none)) else (none)) else (none)) else (none)) else (none))) else (none)) else (none)) else (none))) else (none)) else (none))) else (none)) else (none))) else (none)) else (none)) = some (r1, r2, r3) := by first | (rw [hy157]; with_reducible exact H) | (have H2_ := (Option.bind_some _ _).symm.trans H; rw [hy157]; with_reducible exact H2_) | (have H2_ := (Option.bind_some _ _).symm.trans H; with_reducible exact H2_) | with_reducible exact H | (rw [hy157]; exact H) | exact H
                           have Ny157 := Aside0.mk hy157
                           clear hy157
                           obtain ⟨ji57, hji57⟩ : ∃ j_ : Int, (wrap64 (x13_4 + 1)) = j_ := ⟨_, rfl⟩
                           replace H : (if 0 ≤ (ji57) then (if (ji57) ≤ ((rdOf ByteArray.empty t136 2).size : Int) then ((spec_number.f k4 ((rdOf ByteArray.empty t136 2).extract ((ji57) : Int).toNat (rdOf ByteArray.empty t136 2).size)).bind fun bt159 => (if 3 < (y151.length : Int) then (if 3 < (t136.length : Int) then ((spec_unoctal.f k4 (rdOf ByteArray.empty t136 3)).bind fun bt163 => (if 4 < (y151.length : Int) then (if 4 < (t136.length : Int) then ((spec_unoctal.f k4 (rdOf ByteArray.empty t136 4)).bind fun bt167 => (if 5 < (y151.length : Int) then (if 0 ≤ (wrap64 (x9_2 + 2)) then (if (wrap64 (x9_2 + 2)) < (t136.length : Int) then ((spec_unoctal.f k4 (rdOf ByteArray.empty t136 (wrap64 (x9_2 + 2)))).bind fun bt171 => (if 6 < (y151.length : Int) then (if 5 < (t136.length : Int) then (if 0 ≤ (wrap64 (x9_2 + 1)) then (if (wrap64 (x9_2 + 1)) < (t136.length : Int) then (if 0 ≤ (wrap64 (x9_2 + 3)) then (if (wrap64 (x9_2 + 3)) < (t136.length : Int) then (if 6 ≤ x9_2 then (if x9_2 ≤ (t136.length : Int) then ((some ((t136.take (x9_2 : Int).toNat).drop 6 : List ByteArray)).bind fun y177 => (spec_MountsRead.l3 k4 x5_1 ((((y157.set (3 : Int).toNat bt159.2).set (4 : Int).toNat bt163.2).set (5 : Int).toNat bt167.2).set (6 : Int).toNat bt171.2) t132 (t132.length : Int) x25_1 y177 (y177.length : Int) 0 t145 t149 t155 bt159.1 bt163.1 bt167.1 (rdOf ByteArray.empty t136 5) (⟨#[]⟩ : ByteArray) (rdOf ByteArray.empty t136 (wrap64 (x9_2 + 1))) bt171.1 (rdOf ByteArray.empty t136 (wrap64 (x9_2 + 3))))) else (none)) else (none)) else (none)) else (none)) else (none)) else (none)) else (none)) else (none))) else (none)) else (none)) else (none))) else (none)) else (none))) else (none)) else (none))) else (none)) else (none)) = some (r1, r2, r3) := by first | (rw [hji57] at H; exact H) | (simp only [hji57] at H ⊢; exact H)
                           (try rw [hji57] at A54)
                           have hji57w : (IntKind.i64.wrap (x13_4 + 1)) = ji57 := (i64_w _).trans hji57
                           by_cases c58 : 0 ≤ (ji57)
                           ·rw [if_pos c58] at H
                            have c58b0 := eq_true c58
                            have c58b1 : decide (0 ≤ (ji57)) = true := decide_eq_true c58
                            clear c58
                            by_cases c59 : (ji57) ≤ ((rdOf ByteArray.empty t136 2).size : Int)
                            ·rw [if_pos c59] at H
                             have c59b0 := eq_true c59
                             have c59b1 : decide ((ji57) ≤ ((rdOf ByteArray.empty t136 2).size : Int)) = true := decide_eq_true c59
                             clear c59
                             replace H := Option.bind_eq_some_iff.mp H
                             obtain ⟨⟨t159, t160⟩, A600, H⟩ := H
                             have A60 := Aside0.mk A600
                             clear A600
                             by_cases c61 : 3 < (y151.length : Int)
                             ·rw [if_pos c61] at H
                              have c61b0 : decide (3 < (y151.length : Int)) = true := decide_eq_true c61
                              have c61b1 : decide (3 < y151.length) = true := decide_eq_true (by omega)
                              clear c61
                              obtain ⟨y161, hy161⟩ : ∃ y_ : List Bool, y_ = (y157.set (3 : Int).toNat t160) := ⟨_, rfl⟩
                              replace H : (if 3 < (t136.length : Int) then ((spec_unoctal.f k4 (rdOf ByteArray.empty t136 3)).bind fun bt163 => (if 4 < (y151.length : Int) then (if 4 < (t136.length : Int) then ((spec_unoctal.f k4 (rdOf ByteArray.empty t136 4)).bind fun bt167 => (if 5 < (y151.length : Int) then (if 0 ≤ (wrap64 (x9_2 + 2)) then (if (wrap64 (x9_2 + 2)) < (t136.length : Int) then ((spec_unoctal.f k4 (rdOf ByteArray.empty t136 (wrap64 (x9_2 + 2)))).bind fun bt171 => (if 6 < (y151.length : Int) then (if 5 < (t136.length : Int) then (if 0 ≤ (wrap64 (x9_2 + 1)) then (if (wrap64 (x9_2 + 1)) < (t136.length : Int) then (if 0 ≤ (wrap64 (x9_2 + 3)) then (if (wrap64 (x9_2 + 3)) < (t136.length : Int) then (if 6 ≤ x9_2 then (if x9_2 ≤ (t136.length : Int) then ((some ((t136.take (x9_2 : Int).toNat).drop 6 : List ByteArray)).bind fun y177 => (spec_MountsRead.l3 k4 x5_1 (((y161.set (4 : Int).toNat bt163.2).set (5 : Int).toNat bt167.2).set (6 : Int).toNat bt171.2) t132 (t132.length : Int) x25_1 y177 (y177.length : Int) 0 t145 t149 t155 t159 bt163.1 bt167.1 (rdOf ByteArray.empty t136 5) (⟨#[]⟩ : ByteArray) (rdOf ByteArray.empty t136 (wrap64 (x9_2 + 1))) bt171.1 (rdOf ByteArray.empty t136 (wrap64 (x9_2 + 3))))) else (none)) else (none)) else (none)) else (none)) else (none)) else (none)) else (none)) else (none))) else (none)) else (none)) else (none))) else (none)) else (none))) else (none)) = some (r1, r2, r3) := by first | (rw [hy161]; with_reducible exact H) | (have H2_ := (Option.bind_some _ _).symm.trans H; rw [hy161]; with_reducible exact H2_) | (have H2_ := (Option.bind_some _ _).symm.trans H; with_reducible exact H2_) | with_reducible exact H | (rw [hy161]; exact H) | exact H
                              have Ny161 := Aside0.mk hy161
                              clear hy161
                              by_cases c63 : 3 < (t136.length : Int)
                              ·rw [if_pos c63] at H
                               have c63b0 : decide (3 < (t136.length : Int)) = true := decide_eq_true c63
                               have c63b1 : decide (3 < t136.length) = true := decide_eq_true (by omega)
                               clear c63
                               replace H := Option.bind_eq_some_iff.mp H
                               obtain ⟨⟨t163, t164⟩, A640, H⟩ := H
                               have A64 := Aside0.mk A640
                               clear A640
                               by_cases c65 : 4 < (y151.length : Int)
                               ·rw [if_pos c65] at H
                                have c65b0 : decide (4 < (y151.length : Int)) = true := decide_eq_true c65
                                have c65b1 : decide (4 < y151.length) = true := decide_eq_true (by omega)
                                clear c65
                                obtain ⟨y165, hy165⟩ : ∃ y_ : List Bool, y_ = (y161.set (4 : Int).toNat t164) := ⟨_, rfl⟩
                                replace H : (if 4 < (t136.length : Int) then ((spec_unoctal.f k4 (rdOf ByteArray.empty t136 4)).bind fun bt167 => (if 5 < (y151.length : Int) then (if 0 ≤ (wrap64 (x9_2 + 2)) then (if (wrap64 (x9_2 + 2)) < (t136.length : Int) then ((spec_unoctal.f k4 (rdOf ByteArray.empty t136 (wrap64 (x9_2 + 2)))).bind fun bt171 => (if 6 < (y151.length : Int) then (if 5 < (t136.length : Int) then (if 0 ≤ (wrap64 (x9_2 + 1)) then (if (wrap64 (x9_2 + 1)) < (t136.length : Int) then (if 0 ≤ (wrap64 (x9_2 + 3)) then (if (wrap64 (x9_2 + 3)) < (t136.length : Int) then (if 6 ≤ x9_2 then (if x9_2 ≤ (t136.length : Int) then ((some ((t136.take (x9_2 : Int).toNat).drop 6 : List ByteArray)).bind fun y177 => (spec_MountsRead.l3 k4 x5_1 ((y165.set (5 : Int).toNat bt167.2).set (6 : Int).toNat bt171.2) t132 (t132.length : Int) x25_1 y177 (y177.length : Int) 0 t145 t149 t155 t159 t163 bt167.1 (rdOf ByteArray.empty t136 5) (⟨#[]⟩ : ByteArray) (rdOf ByteArray.empty t136 (wrap64 (x9_2 + 1))) bt171.1 (rdOf ByteArray.empty t136 (wrap64 (x9_2 + 3))))) else (none)) else (none)) else (none)) else (none)) else (none)) else (none)) else (none)) else (none))) else (none)) else (none)) else (none))) else (none)) = some (r1, r2, r3) := by first | (rw [hy165]; with_reducible exact H) | (have H2_ := (Option.bind_some _ _).symm.trans H; rw [hy165]; with_reducible exact H2_) | (have H2_ := (Option.bind_some _ _).symm.trans H; with_reducible exact H2_) | with_reducible exact H | (rw [hy165]; exact H) | exact H
                                have Ny165 := Aside0.mk hy165
                                clear hy165
                                by_cases c67 : 4 < (t136.length : Int)
                                ·rw [if_pos c67] at H
                                 have c67b0 : decide (4 < (t136.length : Int)) = true := decide_eq_true c67
                                 have c67b1 : decide (4 < t136.length) = true := decide_eq_true (by omega)
                                 clear c67
                                 replace H := Option.bind_eq_some_iff.mp H
                                 obtain ⟨⟨t167, t168⟩, A680, H⟩ := H
                                 have A68 := Aside0.mk A680
                                 clear A680
                                 by_cases c69 : 5 < (y151.length : Int)
                                 ·rw [if_pos c69] at H
                                  have c69b0 : decide (5 < (y151.length : Int)) = true := decide_eq_true c69
                                  have c69b1 : decide (5 < y151.length) = true := decide_eq_true (by omega)
                                  clear c69
                                  obtain ⟨y169, hy169⟩ : ∃ y_ : List Bool, y_ = (y165.set (5 : Int).toNat t168) := ⟨_, rfl⟩
                                  replace H : (if 0 ≤ (wrap64 (x9_2 + 2)) then (if (wrap64 (x9_2 + 2)) < (t136.length : Int) then ((spec_unoctal.f k4 (rdOf ByteArray.empty t136 (wrap64 (x9_2 + 2)))).bind fun bt171 => (if 6 < (y151.length : Int) then (if 5 < (t136.length : Int) then (if 0 ≤ (wrap64 (x9_2 + 1)) then (if (wrap64 (x9_2 + 1)) < (t136.length : Int) then (if 0 ≤ (wrap64 (x9_2 + 3)) then (if (wrap64 (x9_2 + 3)) < (t136.length : Int) then (if 6 ≤ x9_2 then (if x9_2 ≤ (t136.length : Int) then ((some ((t136.take (x9_2 : Int).toNat).drop 6 : List ByteArray)).bind fun y177 => (spec_MountsRead.l3 k4 x5_1 (y169.set (6 : Int).toNat bt171.2) t132 (t132.length : Int) x25_1 y177 (y177.length : Int) 0 t145 t149 t155 t159 t163 t167 (rdOf ByteArray.empty t136 5) (⟨#[]⟩ : ByteArray) (rdOf ByteArray.empty t136 (wrap64 (x9_2 + 1))) bt171.1 (rdOf ByteArray.empty t136 (wrap64 (x9_2 + 3))))) else (none)) else (none)) else (none)) else (none)) else (none)) else (none)) else (none)) else (none))) else (none)) else (none)) = some (r1, r2, r3) := by first | (rw [hy169]; with_reducible exact H) | (have H2_ := (Option.bind_some _ _).symm.trans H; rw [hy169]; with_reducible exact H2_) | (have H2_ := (Option.bind_some _ _).symm.trans H; with_reducible exact H2_) | with_reducible exact H | (rw [hy169]; exact H) | exact H
                                  have Ny169 := Aside0.mk hy169
                                  clear hy169
                                  obtain ⟨ji71, hji71⟩ : ∃ j_ : Int, (wrap64 (x9_2 + 2)) = j_ := ⟨_, rfl⟩
                                  replace H : (if 0 ≤ (ji71) then (if (ji71) < (t136.length : Int) then ((spec_unoctal.f k4 (rdOf ByteArray.empty t136 (ji71))).bind fun bt171 => (if 6 < (y151.length : Int) then (if 5 < (t136.length : Int) then (if 0 ≤ (wrap64 (x9_2 + 1)) then (if (wrap64 (x9_2 + 1)) < (t136.length : Int) then (if 0 ≤ (wrap64 (x9_2 + 3)) then (if (wrap64 (x9_2 + 3)) < (t136.length : Int) then (if 6 ≤ x9_2 then (if x9_2 ≤ (t136.length : Int) then ((some ((t136.take (x9_2 : Int).toNat).drop 6 : List ByteArray)).bind fun y177 => (spec_MountsRead.l3 k4 x5_1 (y169.set (6 : Int).toNat bt171.2) t132 (t132.length : Int) x25_1 y177 (y177.length : Int) 0 t145 t149 t155 t159 t163 t167 (rdOf ByteArray.empty t136 5) (⟨#[]⟩ : ByteArray) (rdOf ByteArray.empty t136 (wrap64 (x9_2 + 1))) bt171.1 (rdOf ByteArray.empty t136 (wrap64 (x9_2 + 3))))) else (none)) else (none)) else (none)) else (none)) else (none)) else (none)) else (none)) else (none))) else (none)) else (none)) = some (r1, r2, r3) := by first | (rw [hji71] at H; exact H) | (simp only [hji71] at H ⊢; exact H)
                                  (try rw [hji71] at A54)
                                  (try rw [hji71] at A60)
                                  (try rw [hji71] at A64)
                                  (try rw [hji71] at A68)
                                  have hji71w : (IntKind.i64.wrap (x9_2 + 2)) = ji71 := (i64_w _).trans hji71
                                  by_cases c72 : 0 ≤ (ji71)
                                  ·rw [if_pos c72] at H
                                   have c72b0 : decide (0 ≤ (ji71)) = true := decide_eq_true c72
                                   clear c72
                                   by_cases c73 : (ji71) < (t136.length : Int)
                                   ·rw [if_pos c73] at H
                                    have c73b0 : decide ((ji71) < (t136.length : Int)) = true := decide_eq_true c73
                                    clear c73
                                    replace H := Option.bind_eq_some_iff.mp H
                                    obtain ⟨⟨t171, t172⟩, A740, H⟩ := H
                                    have A74 := Aside0.mk A740
                                    clear A740
                                    by_cases c75 : 6 < (y151.length : Int)
                                    ·rw [if_pos c75] at H
                                     have c75b0 : decide (6 < (y151.length : Int)) = true := decide_eq_true c75
                                     have c75b1 : decide (6 < y151.length) = true := decide_eq_true (by omega)
                                     clear c75
                                     obtain ⟨y173, hy173⟩ : ∃ y_ : List Bool, y_ = (y169.set (6 : Int).toNat t172) := ⟨_, rfl⟩
                                     replace H : (if 5 < (t136.length : Int) then (if 0 ≤ (wrap64 (x9_2 + 1)) then (if (wrap64 (x9_2 + 1)) < (t136.length : Int) then (if 0 ≤ (wrap64 (x9_2 + 3)) then (if (wrap64 (x9_2 + 3)) < (t136.length : Int) then (if 6 ≤ x9_2 then (if x9_2 ≤ (t136.length : Int) then ((some ((t136.take (x9_2 : Int).toNat).drop 6 : List ByteArray)).bind fun y177 => (spec_MountsRead.l3 k4 x5_1 y173 t132 (t132.length : Int) x25_1 y177 (y177.length : Int) 0 t145 t149 t155 t159 t163 t167 (rdOf ByteArray.empty t136 5) (⟨#[]⟩ : ByteArray) (rdOf ByteArray.empty t136 (wrap64 (x9_2 + 1))) t171 (rdOf ByteArray.empty t136 (wrap64 (x9_2 + 3))))) else (none)) else (none)) else (none)) else (none)) else (none)) else (none)) else (none)) = some (r1, r2, r3) := by first | (rw [hy173]; with_reducible exact H) | (have H2_ := (Option.bind_some _ _).symm.trans H; rw [hy173]; with_reducible exact H2_) | (have H2_ := (Option.bind_some _ _).symm.trans H; with_reducible exact H2_) | with_reducible exact H | (rw [hy173]; exact H) | exact H
                                     have Ny173 := Aside0.mk hy173
                                     clear hy173
                                     by_cases c77 : 5 < (t136.length : Int)
                                     ·rw [if_pos c77] at H
                                      have c77b0 : decide (5 < (t136.length : Int)) = true := decide_eq_true c77
                                      have c77b1 : decide (5 < t136.length) = true := decide_eq_true (by omega)
                                      clear c77
                                      obtain ⟨ji78, hji78⟩ : ∃ j_ : Int, (wrap64 (x9_2 + 1)) = j_ := ⟨_, rfl⟩
                                      replace H : (if 0 ≤ (ji78) then (if (ji78) < (t136.length : Int) then (if 0 ≤ (wrap64 (x9_2 + 3)) then (if (wrap64 (x9_2 + 3)) < (t136.length : Int) then (if 6 ≤ x9_2 then (if x9_2 ≤ (t136.length : Int) then ((some ((t136.take (x9_2 : Int).toNat).drop 6 : List ByteArray)).bind fun y177 => (spec_MountsRead.l3 k4 x5_1 y173 t132 (t132.length : Int) x25_1 y177 (y177.length : Int) 0 t145 t149 t155 t159 t163 t167 (rdOf ByteArray.empty t136 5) (⟨#[]⟩ : ByteArray) (rdOf ByteArray.empty t136 (ji78)) t171 (rdOf ByteArray.empty t136 (wrap64 (x9_2 + 3))))) else (none)) else (none)) else (none)) else (none)) else (none)) else (none)) = some (r1, r2, r3) := by first | (rw [hji78] at H; exact H) | (simp only [hji78] at H ⊢; exact H)
                                      (try rw [hji78] at A54)
                                      (try rw [hji78] at A60)
                                      (try rw [hji78] at A64)
                                      (try rw [hji78] at A68)
                                      (try rw [hji78] at A74)
                                      have hji78w : (IntKind.i64.wrap (x9_2 + 1)) = ji78 := (i64_w _).trans hji78
                                      by_cases c79 : 0 ≤ (ji78)
                                      ·rw [if_pos c79] at H
                                       have c79b0 : decide (0 ≤ (ji78)) = true := decide_eq_true c79
                                       clear c79
                                       by_cases c80 : (ji78) < (t136.length : Int)
                                       ·rw [if_pos c80] at H
                                        have c80b0 : decide ((ji78) < (t136.length : Int)) = true := decide_eq_true c80
                                        clear c80
                                        obtain ⟨ji81, hji81⟩ : ∃ j_ : Int, (wrap64 (x9_2 + 3)) = j_ := ⟨_, rfl⟩
                                        replace H : (if 0 ≤ (ji81) then (if (ji81) < (t136.length : Int) then (if 6 ≤ x9_2 then (if x9_2 ≤ (t136.length : Int) then ((some ((t136.take (x9_2 : Int).toNat).drop 6 : List ByteArray)).bind fun y177 => (spec_MountsRead.l3 k4 x5_1 y173 t132 (t132.length : Int) x25_1 y177 (y177.length : Int) 0 t145 t149 t155 t159 t163 t167 (rdOf ByteArray.empty t136 5) (⟨#[]⟩ : ByteArray) (rdOf ByteArray.empty t136 (ji78)) t171 (rdOf ByteArray.empty t136 (ji81)))) else (none)) else (none)) else (none)) else (none)) = some (r1, r2, r3) := by first | (rw [hji81] at H; exact H) | (simp only [hji81] at H ⊢; exact H)
                                        (try rw [hji81] at A54)
                                        (try rw [hji81] at A60)
                                        (try rw [hji81] at A64)
                                        (try rw [hji81] at A68)
                                        (try rw [hji81] at A74)
                                        have hji81w : (IntKind.i64.wrap (x9_2 + 3)) = ji81 := (i64_w _).trans hji81
                                        by_cases c82 : 0 ≤ (ji81)
                                        ·rw [if_pos c82] at H
                                         have c82b0 : decide (0 ≤ (ji81)) = true := decide_eq_true c82
                                         clear c82
                                         by_cases c83 : (ji81) < (t136.length : Int)
                                         ·rw [if_pos c83] at H
                                          have c83b0 : decide ((ji81) < (t136.length : Int)) = true := decide_eq_true c83
                                          clear c83
                                          by_cases c84 : 6 ≤ x9_2
                                          ·rw [if_pos c84] at H
                                           have c84b0 := eq_true c84
                                           have c84b1 : decide (6 ≤ x9_2) = true := decide_eq_true c84
                                           clear c84
                                           by_cases c85 : x9_2 ≤ (t136.length : Int)
                                           ·rw [if_pos c85] at H
                                            have c85b0 := eq_true c85
                                            have c85b1 : decide (x9_2 ≤ (t136.length : Int)) = true := decide_eq_true c85
                                            clear c85
                                            obtain ⟨y177, hy177⟩ : ∃ y_ : List ByteArray, y_ = ((t136.take (x9_2 : Int).toNat).drop 6) := ⟨_, rfl⟩
                                            replace H : (spec_MountsRead.l3 k4 x5_1 y173 t132 (t132.length : Int) x25_1 y177 (y177.length : Int) 0 t145 t149 t155 t159 t163 t167 (rdOf ByteArray.empty t136 5) (⟨#[]⟩ : ByteArray) (rdOf ByteArray.empty t136 (ji78)) t171 (rdOf ByteArray.empty t136 (ji81))) = some (r1, r2, r3) := by first | (rw [hy177]; with_reducible exact H) | (have H2_ := (Option.bind_some _ _).symm.trans H; rw [hy177]; with_reducible exact H2_) | (have H2_ := (Option.bind_some _ _).symm.trans H; with_reducible exact H2_) | with_reducible exact H | (rw [hy177]; exact H) | exact H
                                            have Ny177 := Aside0.mk hy177
                                            clear hy177
                                            have H' := Aside0.mk H
                                            clear H
                                            have p154 : 0 ≤ (2 : Int) := (by omega)
                                            have q154 : 2 < (t136.length : Int) := of_decide_eq_true (by first | (with_reducible assumption) | assumption)
                                            obtain ⟨ad154, e154, hx154_0⟩ := Kd.at_string (Kd.R_reads' HO_8.out).2.2 2 p154 q154
                                            obtain rfl : ad144 = ad154 := (by injection e154)
                                            (try simp only [show (2 : Int).toNat = 2 from rfl, Nat.reduceMul, Nat.reduceEqDiff, Go.Addr.add, ↓reduceIte] at hx154_0)
                                            have qi154 : (2 < t136.length) = True := eq_true (by omega)
                                            (try rw [show ((2 : Int)).toNat = 2 from rfl] at hx154_0)
                                            replace p154 := eq_true p154
                                            replace q154 := eq_true q154
                                            try go_wp2_with (first | ((with_reducible refine gate_callee (f := 29) rfl ?_); refine goesL_ (some 105) rfl rfl Tryd.func29 (by kernel_rfl) rfl #[.string ((rdOf ByteArray.empty t136 2).extract 0 (x13_4 : Int).toNat)] rfl (by (try simp only [List.map_toArray, List.map_cons, List.map_nil]); first | done | rfl | (simp only [List.length_drop, List.length_take]; rfl)) ?_; (with_reducible refine (spec_number.calls k4 ((rdOf ByteArray.empty t136 2).extract 0 (x13_4 : Int).toNat) t155 t156 _ A54.out).mono ?_); rintro e w' ⟨rfl, ⟨nd, rfl⟩⟩; refine ⟨_, rfl, ?_⟩; (try (rw [drewN_self wr]; generalize hq_ : World.drewN wr _ = wr; have n0_ : Aside0 (Kd.R Kd.bool 4 wr w.heap.size (fun _ => True) (.slice (some ⟨go26, 0, none⟩) y151.length co26) y151) := ⟨by rw [← hq_]; exact (by (with_reducible repeat (first | apply Kd.R_alloc | apply Kd.R_drewN | apply Kd.R_drew)); exact HO_12.out)⟩; have n1_ : Aside0 (Kd.R Kd.string 9 wr w.heap.size (fun k_ => some k_ ≠ (.slice (some ad144) t136.length co19 : Value).ownBlock) (.slice (some ad135) t132.length co5) t132) := ⟨by rw [← hq_]; exact (by (with_reducible repeat (first | apply Kd.R_alloc | apply Kd.R_drewN | apply Kd.R_drew)); exact HO_23.out)⟩; have n2_ : Aside0 (Kd.R k62 62 wr w.heap.size (fun k_ => k_ ≠ gb140) u5 x5_1) := ⟨by rw [← hq_]; exact (by (with_reducible repeat (first | apply Kd.R_alloc | apply Kd.R_drewN | apply Kd.R_drew)); exact HO_5.out)⟩; have n3_ : Aside0 (Kd.R Kd.string 9 wr w.heap.size (fun k_ => some k_ ≠ (.slice (some ad135) t132.length co5 : Value).ownBlock) (.slice (some ad144) t136.length co19) t136) := ⟨by rw [← hq_]; exact (by (with_reducible repeat (first | apply Kd.R_alloc | apply Kd.R_drewN | apply Kd.R_drew)); exact HO_8.out)⟩; have n4_ : Aside0 (wr.heap[gb140]? = some (.cells #[.int .i64 t145, .int .i64 t149, .int .i64 0, .int .i64 0, .string (⟨#[]⟩ : ByteArray), .string (⟨#[]⟩ : ByteArray), .string (⟨#[]⟩ : ByteArray), .string (⟨#[]⟩ : ByteArray), .string (⟨#[]⟩ : ByteArray), .string (⟨#[]⟩ : ByteArray), .string (⟨#[]⟩ : ByteArray)] 62 (0, 0))) := ⟨by rw [← hq_]; exact (by refine bY ?_; exact BK140.out)⟩; have n5_ : Aside0 (Below w.heap.size w wr) := ⟨by rw [← hq_]; exact belS⟩; clear HO_12 HO_23 HO_5 HO_8 BK140 HB hq_; have HO_12 := n0_; have HO_23 := n1_; have HO_5 := n2_; have HO_8 := n3_; have BK140 := n4_; have HB := n5_; clear n0_ n1_ n2_ n3_ n4_ n5_)); obtain ⟨hcz86_0, hcz86_1, hcz86_2, hcz86_3, hcz86_4, hcz86_5, hcz86_6, hcz86_7, hcz86_8, hcz86_9, hcz86_10, hfz86_0, hfz86_1, hfz86_2, hfz86_3, hfz86_4, hfz86_5, hfz86_6, hfz86_7, hfz86_8, hfz86_9, hfz86_10⟩ := rows11 (w := wr) BK140) | ((with_reducible refine gate_store (t := 3) (p := 108) rfl ?_); refine store_event (t := 3) (p := 108) (v := ?vo_w87) (w1 := (wr.setCell ⟨gb140, 2, none⟩ (.int .i64 t155))) ?hg ?ho ?hn ?hr ?_; (case ho => rfl); (case hg => rfl); (case hn => rfl); (case hr => first | (go_simp; done) | (go_simp; rfl)); intro w87 hw; have n0_ : Aside0 (Kd.R k62 62 w87 w.heap.size (fun k_ => k_ ≠ gb140) u5 x5_1) := ⟨(by rw [hw]; exact (by (with_reducible repeat (first | apply Kd.R_alloc | apply Kd.R_drewN | apply Kd.R_drew)); exact Kd.R_mono (Kd.R_far (p := ⟨gb140, 2, none⟩) (Kd.R_mono HO_5.out (fun k_ hk => (⟨hk, hk⟩ : _ ∧ k_ ≠ gb140))) (fun _ hk => hk.2) (.int .i64 t155)) (fun _ hk => hk.1)))⟩; have n1_ : Aside0 (Kd.R Kd.string 9 w87 w.heap.size (fun k_ => some k_ ≠ (.slice (some ad135) t132.length co5 : Value).ownBlock) (.slice (some ad144) t136.length co19) t136) := ⟨(by rw [hw]; exact (by (with_reducible repeat (first | apply Kd.R_alloc | apply Kd.R_drewN | apply Kd.R_drew)); exact Kd.R_mono (Kd.R_far (p := ⟨gb140, 2, none⟩) (Kd.R_types HO_8.out BK140.out (by decide)) (fun _ hk => hk.2) (.int .i64 t155)) (fun _ hk => hk.1)))⟩; have n2_ : Aside0 (Kd.R Kd.bool 4 w87 w.heap.size (fun _ => True) (.slice (some ⟨go26, 0, none⟩) y151.length co26) y151) := ⟨(by rw [hw]; exact (by (with_reducible repeat (first | apply Kd.R_alloc | apply Kd.R_drewN | apply Kd.R_drew)); exact Kd.R_mono (Kd.R_far (p := ⟨gb140, 2, none⟩) (Kd.R_types HO_12.out BK140.out (by decide)) (fun _ hk => hk.2) (.int .i64 t155)) (fun _ hk => trivial)))⟩; have n3_ : Aside0 (Kd.R Kd.string 9 w87 w.heap.size (fun k_ => some k_ ≠ (.slice (some ad144) t136.length co19 : Value).ownBlock) (.slice (some ad135) t132.length co5) t132) := ⟨(by rw [hw]; exact (by (with_reducible repeat (first | apply Kd.R_alloc | apply Kd.R_drewN | apply Kd.R_drew)); exact Kd.R_mono (Kd.R_far (p := ⟨gb140, 2, none⟩) (Kd.R_types HO_23.out BK140.out (by decide)) (fun _ hk => hk.2) (.int .i64 t155)) (fun _ hk => hk.1)))⟩; have n4_ : Aside0 (w87.heap[gb140]? = some (.cells #[.int .i64 t145, .int .i64 t149, .int .i64 t155, .int .i64 0, .string (⟨#[]⟩ : ByteArray), .string (⟨#[]⟩ : ByteArray), .string (⟨#[]⟩ : ByteArray), .string (⟨#[]⟩ : ByteArray), .string (⟨#[]⟩ : ByteArray), .string (⟨#[]⟩ : ByteArray), .string (⟨#[]⟩ : ByteArray)] 62 (0, 0))) := ⟨(by rw [hw]; exact (by refine bY ?_; refine blk_put (cs := #[.int .i64 t145, .int .i64 t149, .int .i64 0, .int .i64 0, .string (⟨#[]⟩ : ByteArray), .string (⟨#[]⟩ : ByteArray), .string (⟨#[]⟩ : ByteArray), .string (⟨#[]⟩ : ByteArray), .string (⟨#[]⟩ : ByteArray), .string (⟨#[]⟩ : ByteArray), .string (⟨#[]⟩ : ByteArray)]) ?_ 2 _ rfl; refine bY ?_; exact BK140.out))⟩; have n5_ : Aside0 (Below w.heap.size w w87) := ⟨(by rw [hw]; exact belS)⟩; clear hw; clear HO_5; clear HO_8; clear HO_12; clear HO_23; clear BK140; clear HB; have HO_5 := n0_; have HO_8 := n1_; have HO_12 := n2_; have HO_23 := n3_; have BK140 := n4_; have HB := n5_; clear n0_ n1_ n2_ n3_ n4_ n5_; have p56 : 0 ≤ (2 : Int) := (by omega); have q56 : (2 : Int) < ((y151.length : Int) : Int) := of_decide_eq_true (by first | (with_reducible assumption) | assumption); have qi56 : (2 < y151.length) = True := eq_true (by omega); obtain ⟨hx56_0, hf56_0⟩ := Kd.R_celln false HO_12.out (2 : Int) p56 q56; (try rw [show ((2 : Int)).toNat = 2 from rfl] at hx56_0); (try simp only [Nat.reduceMul, Nat.zero_mul, Nat.zero_add, Nat.reduceAdd] at hx56_0); (try rw [show ((2 : Int)).toNat = 2 from rfl] at hf56_0); (try simp only [Nat.reduceMul, Nat.zero_mul, Nat.zero_add, Nat.reduceAdd] at hf56_0); replace p56 := eq_true p56; replace q56 := eq_true q56; obtain ⟨hy88_, hz88_⟩ := Kd.R_celln false HO_12.out (2 : Int) (by omega) (of_decide_eq_true (by first | (with_reducible assumption) | assumption)); (try simp only [Int.reduceToNat, Int.toNat_zero, Int.toNat_ofNat, Nat.reduceMul, Nat.zero_mul, Nat.zero_add] at hy88_ hz88_); (try rw [show ((2 : Int)).toNat = 2 from rfl] at hy88_); (try rw [show ((2 : Int)).toNat = 2 from rfl] at hz88_); have HP88 := Kd.R_putg HO_12.out (2 : Int) t156) | ((with_reducible refine gate_store (t := 4) (p := 109) rfl ?_); refine store_event (t := 4) (p := 109) (v := ?vo_w89) (w1 := (w87.setCell ⟨go26, (2 : Int).toNat, none⟩ (.bool t156))) ?hg ?ho ?hn ?hr ?_; (case ho => rfl); (case hg => rfl); (case hn => rfl); (case hr => first | (go_simp; done) | (go_simp; rfl)); intro w89 hw; have hg : w87.grownBy w89 (some go26) := (by rw [hw]; exact HP88.2); have hp_ : Kd.R Kd.bool 4 w89 w.heap.size (fun _ => True) (.slice (some ⟨go26, 0, none⟩) y151.length co26) y157 := (by rw [hw, Ny157.out]; exact HP88.1); clear HP88; have n0_ := Aside0.mk (Kd.R_over' (v := (.slice (some ⟨go26, 0, none⟩) y151.length co26)) (by (with_reducible repeat (first | apply Kd.R_alloc | apply Kd.R_drewN | apply Kd.R_drew)); exact HO_5.out) (Kd.R_typed HO_12.out) (by decide) hg); have n1_ := Aside0.mk (Kd.R_over' (v := (.slice (some ⟨go26, 0, none⟩) y151.length co26)) (by (with_reducible repeat (first | apply Kd.R_alloc | apply Kd.R_drewN | apply Kd.R_drew)); exact HO_8.out) (Kd.R_typed HO_12.out) (by decide) hg); have n2_ := Aside0.mk (hp_); have n3_ := Aside0.mk (Kd.R_over' (v := (.slice (some ⟨go26, 0, none⟩) y151.length co26)) (by (with_reducible repeat (first | apply Kd.R_alloc | apply Kd.R_drewN | apply Kd.R_drew)); exact HO_23.out) (Kd.R_typed HO_12.out) (by decide) hg); have n4_ := Aside0.mk (blk_grown (g := gb140) (o := .cells #[.int .i64 t145, .int .i64 t149, .int .i64 t155, .int .i64 0, .string (⟨#[]⟩ : ByteArray), .string (⟨#[]⟩ : ByteArray), .string (⟨#[]⟩ : ByteArray), .string (⟨#[]⟩ : ByteArray), .string (⟨#[]⟩ : ByteArray), .string (⟨#[]⟩ : ByteArray), .string (⟨#[]⟩ : ByteArray)] 62 (0, 0)) (by refine bY ?_; exact BK140.out) hg (Kd.R_ne HO_12.out BK140.out (by decide))); have n5_ := Aside0.mk ((by rw [hw]; exact below_set (HB.out) GB26.out : Below w.heap.size w w89)); clear HO_5; clear HO_8; clear HO_12; clear HO_23; clear BK140; clear HB; have HO_5 := n0_; have HO_8 := n1_; have HO_12 := n2_; have HO_23 := n3_; have BK140 := n4_; have HB := n5_; clear n0_ n1_ n2_ n3_ n4_ n5_; clear hg hw hp_; have p158 : 0 ≤ (2 : Int) := (by omega); have q158 : 2 < (t136.length : Int) := of_decide_eq_true (by first | (with_reducible assumption) | assumption); obtain ⟨ad158, e158, hx158_0⟩ := Kd.at_string (Kd.R_reads' HO_8.out).2.2 2 p158 q158; obtain rfl : ad144 = ad158 := (by injection e158); (try simp only [show (2 : Int).toNat = 2 from rfl, Nat.reduceMul, Nat.reduceEqDiff, Go.Addr.add, ↓reduceIte] at hx158_0); have qi158 : (2 < t136.length) = True := eq_true (by omega); (try rw [show ((2 : Int)).toNat = 2 from rfl] at hx158_0); replace p158 := eq_true p158; replace q158 := eq_true q158) | ((with_reducible refine gate_callee (f := 29) rfl ?_); refine goesL_ (some 118) rfl rfl Tryd.func29 (by kernel_rfl) rfl #[.string ((rdOf ByteArray.empty t136 2).extract ((ji57) : Int).toNat (rdOf ByteArray.empty t136 2).size)] rfl (by (try simp only [List.map_toArray, List.map_cons, List.map_nil]); first | done | (simp only [hji57]; rfl) | rfl | (simp only [List.length_drop, List.length_take]; rfl)) ?_; (with_reducible refine (spec_number.calls k4 ((rdOf ByteArray.empty t136 2).extract ((ji57) : Int).toNat (rdOf ByteArray.empty t136 2).size) t159 t160 _ A60.out).mono ?_); rintro e w' ⟨rfl, ⟨nd, rfl⟩⟩; refine ⟨_, rfl, ?_⟩; (try (rw [drewN_self w89]; generalize hq_ : World.drewN w89 _ = w89; have n0_ : Aside0 (Kd.R Kd.bool 4 w89 w.heap.size (fun _ => True) (.slice (some ⟨go26, 0, none⟩) y151.length co26) y157) := ⟨by rw [← hq_]; exact (by (with_reducible repeat (first | apply Kd.R_alloc | apply Kd.R_drewN | apply Kd.R_drew)); exact HO_12.out)⟩; have n1_ : Aside0 (Kd.R Kd.string 9 w89 w.heap.size (fun k_ => some k_ ≠ (.slice (some ad144) t136.length co19 : Value).ownBlock) (.slice (some ad135) t132.length co5) t132) := ⟨by rw [← hq_]; exact (by (with_reducible repeat (first | apply Kd.R_alloc | apply Kd.R_drewN | apply Kd.R_drew)); exact HO_23.out)⟩; have n2_ : Aside0 (Kd.R k62 62 w89 w.heap.size (fun k_ => k_ ≠ gb140) u5 x5_1) := ⟨by rw [← hq_]; exact (by (with_reducible repeat (first | apply Kd.R_alloc | apply Kd.R_drewN | apply Kd.R_drew)); exact HO_5.out)⟩; have n3_ : Aside0 (Kd.R Kd.string 9 w89 w.heap.size (fun k_ => some k_ ≠ (.slice (some ad135) t132.length co5 : Value).ownBlock) (.slice (some ad144) t136.length co19) t136) := ⟨by rw [← hq_]; exact (by (with_reducible repeat (first | apply Kd.R_alloc | apply Kd.R_drewN | apply Kd.R_drew)); exact HO_8.out)⟩; have n4_ : Aside0 (w89.heap[gb140]? = some (.cells #[.int .i64 t145, .int .i64 t149, .int .i64 t155, .int .i64 0, .string (⟨#[]⟩ : ByteArray), .string (⟨#[]⟩ : ByteArray), .string (⟨#[]⟩ : ByteArray), .string (⟨#[]⟩ : ByteArray), .string (⟨#[]⟩ : ByteArray), .string (⟨#[]⟩ : ByteArray), .string (⟨#[]⟩ : ByteArray)] 62 (0, 0))) := ⟨by rw [← hq_]; exact (by refine bY ?_; exact BK140.out)⟩; have n5_ : Aside0 (Below w.heap.size w w89) := ⟨by rw [← hq_]; exact belS⟩; clear HO_12 HO_23 HO_5 HO_8 BK140 HB hq_; have HO_12 := n0_; have HO_23 := n1_; have HO_5 := n2_; have HO_8 := n3_; have BK140 := n4_; have HB := n5_; clear n0_ n1_ n2_ n3_ n4_ n5_)); obtain ⟨hcz90_0, hcz90_1, hcz90_2, hcz90_3, hcz90_4, hcz90_5, hcz90_6, hcz90_7, hcz90_8, hcz90_9, hcz90_10, hfz90_0, hfz90_1, hfz90_2, hfz90_3, hfz90_4, hfz90_5, hfz90_6, hfz90_7, hfz90_8, hfz90_9, hfz90_10⟩ := rows11 (w := w89) BK140) | ((with_reducible refine gate_store (t := 3) (p := 121) rfl ?_); refine store_event (t := 3) (p := 121) (v := ?vo_w91) (w1 := (w89.setCell ⟨gb140, 3, none⟩ (.int .i64 t159))) ?hg ?ho ?hn ?hr ?_; (case ho => rfl); (case hg => rfl); (case hn => rfl); (case hr => first | (go_simp; done) | (go_simp; rfl)); intro w91 hw; have n0_ : Aside0 (Kd.R k62 62 w91 w.heap.size (fun k_ => k_ ≠ gb140) u5 x5_1) := ⟨(by rw [hw]; exact (by (with_reducible repeat (first | apply Kd.R_alloc | apply Kd.R_drewN | apply Kd.R_drew)); exact Kd.R_mono (Kd.R_far (p := ⟨gb140, 3, none⟩) (Kd.R_mono HO_5.out (fun k_ hk => (⟨hk, hk⟩ : _ ∧ k_ ≠ gb140))) (fun _ hk => hk.2) (.int .i64 t159)) (fun _ hk => hk.1)))⟩; have n1_ : Aside0 (Kd.R Kd.string 9 w91 w.heap.size (fun k_ => some k_ ≠ (.slice (some ad135) t132.length co5 : Value).ownBlock) (.slice (some ad144) t136.length co19) t136) := ⟨(by rw [hw]; exact (by (with_reducible repeat (first | apply Kd.R_alloc | apply Kd.R_drewN | apply Kd.R_drew)); exact Kd.R_mono (Kd.R_far (p := ⟨gb140, 3, none⟩) (Kd.R_types HO_8.out BK140.out (by decide)) (fun _ hk => hk.2) (.int .i64 t159)) (fun _ hk => hk.1)))⟩; have n2_ : Aside0 (Kd.R Kd.bool 4 w91 w.heap.size (fun _ => True) (.slice (some ⟨go26, 0, none⟩) y151.length co26) y157) := ⟨(by rw [hw]; exact (by (with_reducible repeat (first | apply Kd.R_alloc | apply Kd.R_drewN | apply Kd.R_drew)); exact Kd.R_mono (Kd.R_far (p := ⟨gb140, 3, none⟩) (Kd.R_types HO_12.out BK140.out (by decide)) (fun _ hk => hk.2) (.int .i64 t159)) (fun _ hk => trivial)))⟩; have n3_ : Aside0 (Kd.R Kd.string 9 w91 w.heap.size (fun k_ => some k_ ≠ (.slice (some ad144) t136.length co19 : Value).ownBlock) (.slice (some ad135) t132.length co5) t132) := ⟨(by rw [hw]; exact (by (with_reducible repeat (first | apply Kd.R_alloc | apply Kd.R_drewN | apply Kd.R_drew)); exact Kd.R_mono (Kd.R_far (p := ⟨gb140, 3, none⟩) (Kd.R_types HO_23.out BK140.out (by decide)) (fun _ hk => hk.2) (.int .i64 t159)) (fun _ hk => hk.1)))⟩; have n4_ : Aside0 (w91.heap[gb140]? = some (.cells #[.int .i64 t145, .int .i64 t149, .int .i64 t155, .int .i64 t159, .string (⟨#[]⟩ : ByteArray), .string (⟨#[]⟩ : ByteArray), .string (⟨#[]⟩ : ByteArray), .string (⟨#[]⟩ : ByteArray), .string (⟨#[]⟩ : ByteArray), .string (⟨#[]⟩ : ByteArray), .string (⟨#[]⟩ : ByteArray)] 62 (0, 0))) := ⟨(by rw [hw]; exact (by refine bY ?_; refine blk_put (cs := #[.int .i64 t145, .int .i64 t149, .int .i64 t155, .int .i64 0, .string (⟨#[]⟩ : ByteArray), .string (⟨#[]⟩ : ByteArray), .string (⟨#[]⟩ : ByteArray), .string (⟨#[]⟩ : ByteArray), .string (⟨#[]⟩ : ByteArray), .string (⟨#[]⟩ : ByteArray), .string (⟨#[]⟩ : ByteArray)]) ?_ 3 _ rfl; refine bY ?_; exact BK140.out))⟩; have n5_ : Aside0 (Below w.heap.size w w91) := ⟨(by rw [hw]; exact belS)⟩; clear hw; clear HO_5; clear HO_8; clear HO_12; clear HO_23; clear BK140; clear HB; have HO_5 := n0_; have HO_8 := n1_; have HO_12 := n2_; have HO_23 := n3_; have BK140 := n4_; have HB := n5_; clear n0_ n1_ n2_ n3_ n4_ n5_; have p62 : 0 ≤ (3 : Int) := (by omega); have q62 : (3 : Int) < ((y151.length : Int) : Int) := of_decide_eq_true (by first | (with_reducible assumption) | assumption); have qi62 : (3 < y151.length) = True := eq_true (by omega); obtain ⟨hx62_0, hf62_0⟩ := Kd.R_celln false HO_12.out (3 : Int) p62 q62; (try rw [show ((3 : Int)).toNat = 3 from rfl] at hx62_0); (try simp only [Nat.reduceMul, Nat.zero_mul, Nat.zero_add, Nat.reduceAdd] at hx62_0); (try rw [show ((3 : Int)).toNat = 3 from rfl] at hf62_0); (try simp only [Nat.reduceMul, Nat.zero_mul, Nat.zero_add, Nat.reduceAdd] at hf62_0); replace p62 := eq_true p62; replace q62 := eq_true q62; obtain ⟨hy92_, hz92_⟩ := Kd.R_celln false HO_12.out (3 : Int) (by omega) (of_decide_eq_true (by first | (with_reducible assumption) | assumption)); (try simp only [Int.reduceToNat, Int.toNat_zero, Int.toNat_ofNat, Nat.reduceMul, Nat.zero_mul, Nat.zero_add] at hy92_ hz92_); (try rw [show ((3 : Int)).toNat = 3 from rfl] at hy92_); (try rw [show ((3 : Int)).toNat = 3 from rfl] at hz92_); have HP92 := Kd.R_putg HO_12.out (3 : Int) t160) | ((with_reducible refine gate_store (t := 4) (p := 122) rfl ?_); refine store_event (t := 4) (p := 122) (v := ?vo_w93) (w1 := (w91.setCell ⟨go26, (3 : Int).toNat, none⟩ (.bool t160))) ?hg ?ho ?hn ?hr ?_; (case ho => rfl); (case hg => rfl); (case hn => rfl); (case hr => first | (go_simp; done) | (go_simp; rfl)); intro w93 hw; have hg : w91.grownBy w93 (some go26) := (by rw [hw]; exact HP92.2); have hp_ : Kd.R Kd.bool 4 w93 w.heap.size (fun _ => True) (.slice (some ⟨go26, 0, none⟩) y151.length co26) y161 := (by rw [hw, Ny161.out]; exact HP92.1); clear HP92; have n0_ := Aside0.mk (Kd.R_over' (v := (.slice (some ⟨go26, 0, none⟩) y151.length co26)) (by (with_reducible repeat (first | apply Kd.R_alloc | apply Kd.R_drewN | apply Kd.R_drew)); exact HO_5.out) (Kd.R_typed HO_12.out) (by decide) hg); have n1_ := Aside0.mk (Kd.R_over' (v := (.slice (some ⟨go26, 0, none⟩) y151.length co26)) (by (with_reducible repeat (first | apply Kd.R_alloc | apply Kd.R_drewN | apply Kd.R_drew)); exact HO_8.out) (Kd.R_typed HO_12.out) (by decide) hg); have n2_ := Aside0.mk (hp_); have n3_ := Aside0.mk (Kd.R_over' (v := (.slice (some ⟨go26, 0, none⟩) y151.length co26)) (by (with_reducible repeat (first | apply Kd.R_alloc | apply Kd.R_drewN | apply Kd.R_drew)); exact HO_23.out) (Kd.R_typed HO_12.out) (by decide) hg); have n4_ := Aside0.mk (blk_grown (g := gb140) (o := .cells #[.int .i64 t145, .int .i64 t149, .int .i64 t155, .int .i64 t159, .string (⟨#[]⟩ : ByteArray), .string (⟨#[]⟩ : ByteArray), .string (⟨#[]⟩ : ByteArray), .string (⟨#[]⟩ : ByteArray), .string (⟨#[]⟩ : ByteArray), .string (⟨#[]⟩ : ByteArray), .string (⟨#[]⟩ : ByteArray)] 62 (0, 0)) (by refine bY ?_; exact BK140.out) hg (Kd.R_ne HO_12.out BK140.out (by decide))); have n5_ := Aside0.mk ((by rw [hw]; exact below_set (HB.out) GB26.out : Below w.heap.size w w93)); clear HO_5; clear HO_8; clear HO_12; clear HO_23; clear BK140; clear HB; have HO_5 := n0_; have HO_8 := n1_; have HO_12 := n2_; have HO_23 := n3_; have BK140 := n4_; have HB := n5_; clear n0_ n1_ n2_ n3_ n4_ n5_; clear hg hw hp_; have p162 : 0 ≤ (3 : Int) := (by omega); have q162 : 3 < (t136.length : Int) := of_decide_eq_true (by first | (with_reducible assumption) | assumption); obtain ⟨ad162, e162, hx162_0⟩ := Kd.at_string (Kd.R_reads' HO_8.out).2.2 3 p162 q162; obtain rfl : ad144 = ad162 := (by injection e162); (try simp only [show (3 : Int).toNat = 3 from rfl, Nat.reduceMul, Nat.reduceEqDiff, Go.Addr.add, ↓reduceIte] at hx162_0); have qi162 : (3 < t136.length) = True := eq_true (by omega); (try rw [show ((3 : Int)).toNat = 3 from rfl] at hx162_0); replace p162 := eq_true p162; replace q162 := eq_true q162) | ((with_reducible refine gate_callee (f := 30) rfl ?_); refine goesL_ (some 128) rfl rfl Tryd.func30 (by kernel_rfl) rfl #[.string (rdOf ByteArray.empty t136 3)] rfl (by (try simp only [List.map_toArray, List.map_cons, List.map_nil]); first | done | rfl | (simp only [List.length_drop, List.length_take]; rfl)) ?_; (with_reducible refine (spec_unoctal.calls k4 (rdOf ByteArray.empty t136 3) t163 t164 _ A64.out).mono ?_); rintro e w94 ⟨rfl, hb⟩; refine ⟨_, rfl, ?_⟩; have n0_ := Aside0.mk (Kd.R_below (by (with_reducible repeat (first | apply Kd.R_alloc | apply Kd.R_drewN | apply Kd.R_drew)); exact HO_5.out) hb); have n1_ := Aside0.mk (Kd.R_below (by (with_reducible repeat (first | apply Kd.R_alloc | apply Kd.R_drewN | apply Kd.R_drew)); exact HO_8.out) hb); have n2_ := Aside0.mk (Kd.R_below (by (with_reducible repeat (first | apply Kd.R_alloc | apply Kd.R_drewN | apply Kd.R_drew)); exact HO_12.out) hb); have n3_ := Aside0.mk (Kd.R_below (by (with_reducible repeat (first | apply Kd.R_alloc | apply Kd.R_drewN | apply Kd.R_drew)); exact HO_23.out) hb); have n4_ := Aside0.mk (blk_below (g := gb140) (o := .cells #[.int .i64 t145, .int .i64 t149, .int .i64 t155, .int .i64 t159, .string (⟨#[]⟩ : ByteArray), .string (⟨#[]⟩ : ByteArray), .string (⟨#[]⟩ : ByteArray), .string (⟨#[]⟩ : ByteArray), .string (⟨#[]⟩ : ByteArray), .string (⟨#[]⟩ : ByteArray), .string (⟨#[]⟩ : ByteArray)] 62 (0, 0)) (by refine bY ?_; exact BK140.out) hb); have n5_ := Aside0.mk (below_step belS hb); clear HO_5; clear HO_8; clear HO_12; clear HO_23; clear BK140; clear HB; have HO_5 := n0_; have HO_8 := n1_; have HO_12 := n2_; have HO_23 := n3_; have BK140 := n4_; have HB := n5_; clear n0_ n1_ n2_ n3_ n4_ n5_; (try clear hb); (try clear hb2); (try clear hk); (try clear hi); obtain ⟨hcz95_0, hcz95_1, hcz95_2, hcz95_3, hcz95_4, hcz95_5, hcz95_6, hcz95_7, hcz95_8, hcz95_9, hcz95_10, hfz95_0, hfz95_1, hfz95_2, hfz95_3, hfz95_4, hfz95_5, hfz95_6, hfz95_7, hfz95_8, hfz95_9, hfz95_10⟩ := rows11 (w := w94) BK140) | ((with_reducible refine gate_store (t := 9) (p := 131) rfl ?_); refine store_event (t := 9) (p := 131) (v := ?vo_w96) (w1 := (w94.setCell ⟨gb140, 4, none⟩ (.string t163))) ?hg ?ho ?hn ?hr ?_; (case ho => rfl); (case hg => rfl); (case hn => rfl); (case hr => first | (go_simp; done) | (go_simp; rfl)); intro w96 hw; have n0_ : Aside0 (Kd.R k62 62 w96 w.heap.size (fun k_ => k_ ≠ gb140) u5 x5_1) := ⟨(by rw [hw]; exact (by (with_reducible repeat (first | apply Kd.R_alloc | apply Kd.R_drewN | apply Kd.R_drew)); exact Kd.R_mono (Kd.R_far (p := ⟨gb140, 4, none⟩) (Kd.R_mono HO_5.out (fun k_ hk => (⟨hk, hk⟩ : _ ∧ k_ ≠ gb140))) (fun _ hk => hk.2) (.string t163)) (fun _ hk => hk.1)))⟩; have n1_ : Aside0 (Kd.R Kd.string 9 w96 w.heap.size (fun k_ => some k_ ≠ (.slice (some ad135) t132.length co5 : Value).ownBlock) (.slice (some ad144) t136.length co19) t136) := ⟨(by rw [hw]; exact (by (with_reducible repeat (first | apply Kd.R_alloc | apply Kd.R_drewN | apply Kd.R_drew)); exact Kd.R_mono (Kd.R_far (p := ⟨gb140, 4, none⟩) (Kd.R_types HO_8.out BK140.out (by decide)) (fun _ hk => hk.2) (.string t163)) (fun _ hk => hk.1)))⟩; have n2_ : Aside0 (Kd.R Kd.bool 4 w96 w.heap.size (fun _ => True) (.slice (some ⟨go26, 0, none⟩) y151.length co26) y161) := ⟨(by rw [hw]; exact (by (with_reducible repeat (first | apply Kd.R_alloc | apply Kd.R_drewN | apply Kd.R_drew)); exact Kd.R_mono (Kd.R_far (p := ⟨gb140, 4, none⟩) (Kd.R_types HO_12.out BK140.out (by decide)) (fun _ hk => hk.2) (.string t163)) (fun _ hk => trivial)))⟩; have n3_ : Aside0 (Kd.R Kd.string 9 w96 w.heap.size (fun k_ => some k_ ≠ (.slice (some ad144) t136.length co19 : Value).ownBlock) (.slice (some ad135) t132.length co5) t132) := ⟨(by rw [hw]; exact (by (with_reducible repeat (first | apply Kd.R_alloc | apply Kd.R_drewN | apply Kd.R_drew)); exact Kd.R_mono (Kd.R_far (p := ⟨gb140, 4, none⟩) (Kd.R_types HO_23.out BK140.out (by decide)) (fun _ hk => hk.2) (.string t163)) (fun _ hk => hk.1)))⟩; have n4_ : Aside0 (w96.heap[gb140]? = some (.cells #[.int .i64 t145, .int .i64 t149, .int .i64 t155, .int .i64 t159, .string t163, .string (⟨#[]⟩ : ByteArray), .string (⟨#[]⟩ : ByteArray), .string (⟨#[]⟩ : ByteArray), .string (⟨#[]⟩ : ByteArray), .string (⟨#[]⟩ : ByteArray), .string (⟨#[]⟩ : ByteArray)] 62 (0, 0))) := ⟨(by rw [hw]; exact (by refine bY ?_; refine blk_put (cs := #[.int .i64 t145, .int .i64 t149, .int .i64 t155, .int .i64 t159, .string (⟨#[]⟩ : ByteArray), .string (⟨#[]⟩ : ByteArray), .string (⟨#[]⟩ : ByteArray), .string (⟨#[]⟩ : ByteArray), .string (⟨#[]⟩ : ByteArray), .string (⟨#[]⟩ : ByteArray), .string (⟨#[]⟩ : ByteArray)]) ?_ 4 _ rfl; refine bY ?_; exact BK140.out))⟩; have n5_ : Aside0 (Below w.heap.size w w96) := ⟨(by rw [hw]; exact belS)⟩; clear hw; clear HO_5; clear HO_8; clear HO_12; clear HO_23; clear BK140; clear HB; have HO_5 := n0_; have HO_8 := n1_; have HO_12 := n2_; have HO_23 := n3_; have BK140 := n4_; have HB := n5_; clear n0_ n1_ n2_ n3_ n4_ n5_; have p66 : 0 ≤ (4 : Int) := (by omega); have q66 : (4 : Int) < ((y151.length : Int) : Int) := of_decide_eq_true (by first | (with_reducible assumption) | assumption); have qi66 : (4 < y151.length) = True := eq_true (by omega); obtain ⟨hx66_0, hf66_0⟩ := Kd.R_celln false HO_12.out (4 : Int) p66 q66; (try rw [show ((4 : Int)).toNat = 4 from rfl] at hx66_0); (try simp only [Nat.reduceMul, Nat.zero_mul, Nat.zero_add, Nat.reduceAdd] at hx66_0); (try rw [show ((4 : Int)).toNat = 4 from rfl] at hf66_0); (try simp only [Nat.reduceMul, Nat.zero_mul, Nat.zero_add, Nat.reduceAdd] at hf66_0); replace p66 := eq_true p66; replace q66 := eq_true q66; obtain ⟨hy97_, hz97_⟩ := Kd.R_celln false HO_12.out (4 : Int) (by omega) (of_decide_eq_true (by first | (with_reducible assumption) | assumption)); (try simp only [Int.reduceToNat, Int.toNat_zero, Int.toNat_ofNat, Nat.reduceMul, Nat.zero_mul, Nat.zero_add] at hy97_ hz97_); (try rw [show ((4 : Int)).toNat = 4 from rfl] at hy97_); (try rw [show ((4 : Int)).toNat = 4 from rfl] at hz97_); have HP97 := Kd.R_putg HO_12.out (4 : Int) t164) | ((with_reducible refine gate_store (t := 4) (p := 132) rfl ?_); refine store_event (t := 4) (p := 132) (v := ?vo_w98) (w1 := (w96.setCell ⟨go26, (4 : Int).toNat, none⟩ (.bool t164))) ?hg ?ho ?hn ?hr ?_; (case ho => rfl); (case hg => rfl); (case hn => rfl); (case hr => first | (go_simp; done) | (go_simp; rfl)); intro w98 hw; have hg : w96.grownBy w98 (some go26) := (by rw [hw]; exact HP97.2); have hp_ : Kd.R Kd.bool 4 w98 w.heap.size (fun _ => True) (.slice (some ⟨go26, 0, none⟩) y151.length co26) y165 := (by rw [hw, Ny165.out]; exact HP97.1); clear HP97; have n0_ := Aside0.mk (Kd.R_over' (v := (.slice (some ⟨go26, 0, none⟩) y151.length co26)) (by (with_reducible repeat (first | apply Kd.R_alloc | apply Kd.R_drewN | apply Kd.R_drew)); exact HO_5.out) (Kd.R_typed HO_12.out) (by decide) hg); have n1_ := Aside0.mk (Kd.R_over' (v := (.slice (some ⟨go26, 0, none⟩) y151.length co26)) (by (with_reducible repeat (first | apply Kd.R_alloc | apply Kd.R_drewN | apply Kd.R_drew)); exact HO_8.out) (Kd.R_typed HO_12.out) (by decide) hg); have n2_ := Aside0.mk (hp_); have n3_ := Aside0.mk (Kd.R_over' (v := (.slice (some ⟨go26, 0, none⟩) y151.length co26)) (by (with_reducible repeat (first | apply Kd.R_alloc | apply Kd.R_drewN | apply Kd.R_drew)); exact HO_23.out) (Kd.R_typed HO_12.out) (by decide) hg); have n4_ := Aside0.mk (blk_grown (g := gb140) (o := .cells #[.int .i64 t145, .int .i64 t149, .int .i64 t155, .int .i64 t159, .string t163, .string (⟨#[]⟩ : ByteArray), .string (⟨#[]⟩ : ByteArray), .string (⟨#[]⟩ : ByteArray), .string (⟨#[]⟩ : ByteArray), .string (⟨#[]⟩ : ByteArray), .string (⟨#[]⟩ : ByteArray)] 62 (0, 0)) (by refine bY ?_; exact BK140.out) hg (Kd.R_ne HO_12.out BK140.out (by decide))); have n5_ := Aside0.mk ((by rw [hw]; exact below_set (HB.out) GB26.out : Below w.heap.size w w98)); clear HO_5; clear HO_8; clear HO_12; clear HO_23; clear BK140; clear HB; have HO_5 := n0_; have HO_8 := n1_; have HO_12 := n2_; have HO_23 := n3_; have BK140 := n4_; have HB := n5_; clear n0_ n1_ n2_ n3_ n4_ n5_; clear hg hw hp_; have p166 : 0 ≤ (4 : Int) := (by omega); have q166 : 4 < (t136.length : Int) := of_decide_eq_true (by first | (with_reducible assumption) | assumption); obtain ⟨ad166, e166, hx166_0⟩ := Kd.at_string (Kd.R_reads' HO_8.out).2.2 4 p166 q166; obtain rfl : ad144 = ad166 := (by injection e166); (try simp only [show (4 : Int).toNat = 4 from rfl, Nat.reduceMul, Nat.reduceEqDiff, Go.Addr.add, ↓reduceIte] at hx166_0); have qi166 : (4 < t136.length) = True := eq_true (by omega); (try rw [show ((4 : Int)).toNat = 4 from rfl] at hx166_0); replace p166 := eq_true p166; replace q166 := eq_true q166) | ((with_reducible refine gate_callee (f := 30) rfl ?_); refine goesL_ (some 138) rfl rfl Tryd.func30 (by kernel_rfl) rfl #[.string (rdOf ByteArray.empty t136 4)] rfl (by (try simp only [List.map_toArray, List.map_cons, List.map_nil]); first | done | rfl | (simp only [List.length_drop, List.length_take]; rfl)) ?_; (with_reducible refine (spec_unoctal.calls k4 (rdOf ByteArray.empty t136 4) t167 t168 _ A68.out).mono ?_); rintro e w99 ⟨rfl, hb⟩; refine ⟨_, rfl, ?_⟩; have n0_ := Aside0.mk (Kd.R_below (by (with_reducible repeat (first | apply Kd.R_alloc | apply Kd.R_drewN | apply Kd.R_drew)); exact HO_5.out) hb); have n1_ := Aside0.mk (Kd.R_below (by (with_reducible repeat (first | apply Kd.R_alloc | apply Kd.R_drewN | apply Kd.R_drew)); exact HO_8.out) hb); have n2_ := Aside0.mk (Kd.R_below (by (with_reducible repeat (first | apply Kd.R_alloc | apply Kd.R_drewN | apply Kd.R_drew)); exact HO_12.out) hb); have n3_ := Aside0.mk (Kd.R_below (by (with_reducible repeat (first | apply Kd.R_alloc | apply Kd.R_drewN | apply Kd.R_drew)); exact HO_23.out) hb); have n4_ := Aside0.mk (blk_below (g := gb140) (o := .cells #[.int .i64 t145, .int .i64 t149, .int .i64 t155, .int .i64 t159, .string t163, .string (⟨#[]⟩ : ByteArray), .string (⟨#[]⟩ : ByteArray), .string (⟨#[]⟩ : ByteArray), .string (⟨#[]⟩ : ByteArray), .string (⟨#[]⟩ : ByteArray), .string (⟨#[]⟩ : ByteArray)] 62 (0, 0)) (by refine bY ?_; exact BK140.out) hb); have n5_ := Aside0.mk (below_step belS hb); clear HO_5; clear HO_8; clear HO_12; clear HO_23; clear BK140; clear HB; have HO_5 := n0_; have HO_8 := n1_; have HO_12 := n2_; have HO_23 := n3_; have BK140 := n4_; have HB := n5_; clear n0_ n1_ n2_ n3_ n4_ n5_; (try clear hb); (try clear hb2); (try clear hk); (try clear hi); obtain ⟨hcz100_0, hcz100_1, hcz100_2, hcz100_3, hcz100_4, hcz100_5, hcz100_6, hcz100_7, hcz100_8, hcz100_9, hcz100_10, hfz100_0, hfz100_1, hfz100_2, hfz100_3, hfz100_4, hfz100_5, hfz100_6, hfz100_7, hfz100_8, hfz100_9, hfz100_10⟩ := rows11 (w := w99) BK140) | ((with_reducible refine gate_store (t := 9) (p := 141) rfl ?_); refine store_event (t := 9) (p := 141) (v := ?vo_w101) (w1 := (w99.setCell ⟨gb140, 5, none⟩ (.string t167))) ?hg ?ho ?hn ?hr ?_; (case ho => rfl); (case hg => rfl); (case hn => rfl); (case hr => first | (go_simp; done) | (go_simp; rfl)); intro w101 hw; have n0_ : Aside0 (Kd.R k62 62 w101 w.heap.size (fun k_ => k_ ≠ gb140) u5 x5_1) := ⟨(by rw [hw]; exact (by (with_reducible repeat (first | apply Kd.R_alloc | apply Kd.R_drewN | apply Kd.R_drew)); exact Kd.R_mono (Kd.R_far (p := ⟨gb140, 5, none⟩) (Kd.R_mono HO_5.out (fun k_ hk => (⟨hk, hk⟩ : _ ∧ k_ ≠ gb140))) (fun _ hk => hk.2) (.string t167)) (fun _ hk => hk.1)))⟩; have n1_ : Aside0 (Kd.R Kd.string 9 w101 w.heap.size (fun k_ => some k_ ≠ (.slice (some ad135) t132.length co5 : Value).ownBlock) (.slice (some ad144) t136.length co19) t136) := ⟨(by rw [hw]; exact (by (with_reducible repeat (first | apply Kd.R_alloc | apply Kd.R_drewN | apply Kd.R_drew)); exact Kd.R_mono (Kd.R_far (p := ⟨gb140, 5, none⟩) (Kd.R_types HO_8.out BK140.out (by decide)) (fun _ hk => hk.2) (.string t167)) (fun _ hk => hk.1)))⟩; have n2_ : Aside0 (Kd.R Kd.bool 4 w101 w.heap.size (fun _ => True) (.slice (some ⟨go26, 0, none⟩) y151.length co26) y165) := ⟨(by rw [hw]; exact (by (with_reducible repeat (first | apply Kd.R_alloc | apply Kd.R_drewN | apply Kd.R_drew)); exact Kd.R_mono (Kd.R_far (p := ⟨gb140, 5, none⟩) (Kd.R_types HO_12.out BK140.out (by decide)) (fun _ hk => hk.2) (.string t167)) (fun _ hk => trivial)))⟩; have n3_ : Aside0 (Kd.R Kd.string 9 w101 w.heap.size (fun k_ => some k_ ≠ (.slice (some ad144) t136.length co19 : Value).ownBlock) (.slice (some ad135) t132.length co5) t132) := ⟨(by rw [hw]; exact (by (with_reducible repeat (first | apply Kd.R_alloc | apply Kd.R_drewN | apply Kd.R_drew)); exact Kd.R_mono (Kd.R_far (p := ⟨gb140, 5, none⟩) (Kd.R_types HO_23.out BK140.out (by decide)) (fun _ hk => hk.2) (.string t167)) (fun _ hk => hk.1)))⟩; have n4_ : Aside0 (w101.heap[gb140]? = some (.cells #[.int .i64 t145, .int .i64 t149, .int .i64 t155, .int .i64 t159, .string t163, .string t167, .string (⟨#[]⟩ : ByteArray), .string (⟨#[]⟩ : ByteArray), .string (⟨#[]⟩ : ByteArray), .string (⟨#[]⟩ : ByteArray), .string (⟨#[]⟩ : ByteArray)] 62 (0, 0))) := ⟨(by rw [hw]; exact (by refine bY ?_; refine blk_put (cs := #[.int .i64 t145, .int .i64 t149, .int .i64 t155, .int .i64 t159, .string t163, .string (⟨#[]⟩ : ByteArray), .string (⟨#[]⟩ : ByteArray), .string (⟨#[]⟩ : ByteArray), .string (⟨#[]⟩ : ByteArray), .string (⟨#[]⟩ : ByteArray), .string (⟨#[]⟩ : ByteArray)]) ?_ 5 _ rfl; refine bY ?_; exact BK140.out))⟩; have n5_ : Aside0 (Below w.heap.size w w101) := ⟨(by rw [hw]; exact belS)⟩; clear hw; clear HO_5; clear HO_8; clear HO_12; clear HO_23; clear BK140; clear HB; have HO_5 := n0_; have HO_8 := n1_; have HO_12 := n2_; have HO_23 := n3_; have BK140 := n4_; have HB := n5_; clear n0_ n1_ n2_ n3_ n4_ n5_; have p70 : 0 ≤ (5 : Int) := (by omega); have q70 : (5 : Int) < ((y151.length : Int) : Int) := of_decide_eq_true (by first | (with_reducible assumption) | assumption); have qi70 : (5 < y151.length) = True := eq_true (by omega); obtain ⟨hx70_0, hf70_0⟩ := Kd.R_celln false HO_12.out (5 : Int) p70 q70; (try rw [show ((5 : Int)).toNat = 5 from rfl] at hx70_0); (try simp only [Nat.reduceMul, Nat.zero_mul, Nat.zero_add, Nat.reduceAdd] at hx70_0); (try rw [show ((5 : Int)).toNat = 5 from rfl] at hf70_0); (try simp only [Nat.reduceMul, Nat.zero_mul, Nat.zero_add, Nat.reduceAdd] at hf70_0); replace p70 := eq_true p70; replace q70 := eq_true q70; obtain ⟨hy102_, hz102_⟩ := Kd.R_celln false HO_12.out (5 : Int) (by omega) (of_decide_eq_true (by first | (with_reducible assumption) | assumption)); (try simp only [Int.reduceToNat, Int.toNat_zero, Int.toNat_ofNat, Nat.reduceMul, Nat.zero_mul, Nat.zero_add] at hy102_ hz102_); (try rw [show ((5 : Int)).toNat = 5 from rfl] at hy102_); (try rw [show ((5 : Int)).toNat = 5 from rfl] at hz102_); have HP102 := Kd.R_putg HO_12.out (5 : Int) t168) | ((with_reducible refine gate_store (t := 4) (p := 142) rfl ?_); refine store_event (t := 4) (p := 142) (v := ?vo_w103) (w1 := (w101.setCell ⟨go26, (5 : Int).toNat, none⟩ (.bool t168))) ?hg ?ho ?hn ?hr ?_; (case ho => rfl); (case hg => rfl); (case hn => rfl); (case hr => first | (go_simp; done) | (go_simp; rfl)); intro w103 hw; have hg : w101.grownBy w103 (some go26) := (by rw [hw]; exact HP102.2); have hp_ : Kd.R Kd.bool 4 w103 w.heap.size (fun _ => True) (.slice (some ⟨go26, 0, none⟩) y151.length co26) y169 := (by rw [hw, Ny169.out]; exact HP102.1); clear HP102; have n0_ := Aside0.mk (Kd.R_over' (v := (.slice (some ⟨go26, 0, none⟩) y151.length co26)) (by (with_reducible repeat (first | apply Kd.R_alloc | apply Kd.R_drewN | apply Kd.R_drew)); exact HO_5.out) (Kd.R_typed HO_12.out) (by decide) hg); have n1_ := Aside0.mk (Kd.R_over' (v := (.slice (some ⟨go26, 0, none⟩) y151.length co26)) (by (with_reducible repeat (first | apply Kd.R_alloc | apply Kd.R_drewN | apply Kd.R_drew)); exact HO_8.out) (Kd.R_typed HO_12.out) (by decide) hg); have n2_ := Aside0.mk (hp_); have n3_ := Aside0.mk (Kd.R_over' (v := (.slice (some ⟨go26, 0, none⟩) y151.length co26)) (by (with_reducible repeat (first | apply Kd.R_alloc | apply Kd.R_drewN | apply Kd.R_drew)); exact HO_23.out) (Kd.R_typed HO_12.out) (by decide) hg); have n4_ := Aside0.mk (blk_grown (g := gb140) (o := .cells #[.int .i64 t145, .int .i64 t149, .int .i64 t155, .int .i64 t159, .string t163, .string t167, .string (⟨#[]⟩ : ByteArray), .string (⟨#[]⟩ : ByteArray), .string (⟨#[]⟩ : ByteArray), .string (⟨#[]⟩ : ByteArray), .string (⟨#[]⟩ : ByteArray)] 62 (0, 0)) (by refine bY ?_; exact BK140.out) hg (Kd.R_ne HO_12.out BK140.out (by decide))); have n5_ := Aside0.mk ((by rw [hw]; exact below_set (HB.out) GB26.out : Below w.heap.size w w103)); clear HO_5; clear HO_8; clear HO_12; clear HO_23; clear BK140; clear HB; have HO_5 := n0_; have HO_8 := n1_; have HO_12 := n2_; have HO_23 := n3_; have BK140 := n4_; have HB := n5_; clear n0_ n1_ n2_ n3_ n4_ n5_; clear hg hw hp_; have p170 : 0 ≤ ((ji71) : Int) := of_decide_eq_true (by first | (with_reducible assumption) | assumption); have q170 : (ji71) < (t136.length : Int) := of_decide_eq_true (by first | (with_reducible assumption) | assumption); obtain ⟨ad170, e170, hx170_0⟩ := Kd.at_string (Kd.R_reads' HO_8.out).2.2 (ji71) p170 q170; obtain rfl : ad144 = ad170 := (by injection e170); replace p170 := eq_true p170; replace q170 := eq_true q170) | ((with_reducible refine gate_callee (f := 30) rfl ?_); refine goesL_ (some 150) rfl rfl Tryd.func30 (by kernel_rfl) rfl #[.string (rdOf ByteArray.empty t136 (ji71))] rfl (by (try simp only [List.map_toArray, List.map_cons, List.map_nil]); first | done | (simp only [hji71]; rfl) | rfl | (simp only [List.length_drop, List.length_take]; rfl)) ?_; (with_reducible refine (spec_unoctal.calls k4 (rdOf ByteArray.empty t136 (ji71)) t171 t172 _ A74.out).mono ?_); rintro e w104 ⟨rfl, hb⟩; refine ⟨_, rfl, ?_⟩; have n0_ := Aside0.mk (Kd.R_below (by (with_reducible repeat (first | apply Kd.R_alloc | apply Kd.R_drewN | apply Kd.R_drew)); exact HO_5.out) hb); have n1_ := Aside0.mk (Kd.R_below (by (with_reducible repeat (first | apply Kd.R_alloc | apply Kd.R_drewN | apply Kd.R_drew)); exact HO_8.out) hb); have n2_ := Aside0.mk (Kd.R_below (by (with_reducible repeat (first | apply Kd.R_alloc | apply Kd.R_drewN | apply Kd.R_drew)); exact HO_12.out) hb); have n3_ := Aside0.mk (Kd.R_below (by (with_reducible repeat (first | apply Kd.R_alloc | apply Kd.R_drewN | apply Kd.R_drew)); exact HO_23.out) hb); have n4_ := Aside0.mk (blk_below (g := gb140) (o := .cells #[.int .i64 t145, .int .i64 t149, .int .i64 t155, .int .i64 t159, .string t163, .string t167, .string (⟨#[]⟩ : ByteArray), .string (⟨#[]⟩ : ByteArray), .string (⟨#[]⟩ : ByteArray), .string (⟨#[]⟩ : ByteArray), .string (⟨#[]⟩ : ByteArray)] 62 (0, 0)) (by refine bY ?_; exact BK140.out) hb); have n5_ := Aside0.mk (below_step belS hb); clear HO_5; clear HO_8; clear HO_12; clear HO_23; clear BK140; clear HB; have HO_5 := n0_; have HO_8 := n1_; have HO_12 := n2_; have HO_23 := n3_; have BK140 := n4_; have HB := n5_; clear n0_ n1_ n2_ n3_ n4_ n5_; (try clear hb); (try clear hb2); (try clear hk); (try clear hi); obtain ⟨hcz105_0, hcz105_1, hcz105_2, hcz105_3, hcz105_4, hcz105_5, hcz105_6, hcz105_7, hcz105_8, hcz105_9, hcz105_10, hfz105_0, hfz105_1, hfz105_2, hfz105_3, hfz105_4, hfz105_5, hfz105_6, hfz105_7, hfz105_8, hfz105_9, hfz105_10⟩ := rows11 (w := w104) BK140) | ((with_reducible refine gate_store (t := 9) (p := 153) rfl ?_); refine store_event (t := 9) (p := 153) (v := ?vo_w106) (w1 := (w104.setCell ⟨gb140, 9, none⟩ (.string t171))) ?hg ?ho ?hn ?hr ?_; (case ho => rfl); (case hg => rfl); (case hn => rfl); (case hr => first | (go_simp; done) | (go_simp; rfl)); intro w106 hw; have n0_ : Aside0 (Kd.R k62 62 w106 w.heap.size (fun k_ => k_ ≠ gb140) u5 x5_1) := ⟨(by rw [hw]; exact (by (with_reducible repeat (first | apply Kd.R_alloc | apply Kd.R_drewN | apply Kd.R_drew)); exact Kd.R_mono (Kd.R_far (p := ⟨gb140, 9, none⟩) (Kd.R_mono HO_5.out (fun k_ hk => (⟨hk, hk⟩ : _ ∧ k_ ≠ gb140))) (fun _ hk => hk.2) (.string t171)) (fun _ hk => hk.1)))⟩; have n1_ : Aside0 (Kd.R Kd.string 9 w106 w.heap.size (fun k_ => some k_ ≠ (.slice (some ad135) t132.length co5 : Value).ownBlock) (.slice (some ad144) t136.length co19) t136) := ⟨(by rw [hw]; exact (by (with_reducible repeat (first | apply Kd.R_alloc | apply Kd.R_drewN | apply Kd.R_drew)); exact Kd.R_mono (Kd.R_far (p := ⟨gb140, 9, none⟩) (Kd.R_types HO_8.out BK140.out (by decide)) (fun _ hk => hk.2) (.string t171)) (fun _ hk => hk.1)))⟩; have n2_ : Aside0 (Kd.R Kd.bool 4 w106 w.heap.size (fun _ => True) (.slice (some ⟨go26, 0, none⟩) y151.length co26) y169) := ⟨(by rw [hw]; exact (by (with_reducible repeat (first | apply Kd.R_alloc | apply Kd.R_drewN | apply Kd.R_drew)); exact Kd.R_mono (Kd.R_far (p := ⟨gb140, 9, none⟩) (Kd.R_types HO_12.out BK140.out (by decide)) (fun _ hk => hk.2) (.string t171)) (fun _ hk => trivial)))⟩; have n3_ : Aside0 (Kd.R Kd.string 9 w106 w.heap.size (fun k_ => some k_ ≠ (.slice (some ad144) t136.length co19 : Value).ownBlock) (.slice (some ad135) t132.length co5) t132) := ⟨(by rw [hw]; exact (by (with_reducible repeat (first | apply Kd.R_alloc | apply Kd.R_drewN | apply Kd.R_drew)); exact Kd.R_mono (Kd.R_far (p := ⟨gb140, 9, none⟩) (Kd.R_types HO_23.out BK140.out (by decide)) (fun _ hk => hk.2) (.string t171)) (fun _ hk => hk.1)))⟩; have n4_ : Aside0 (w106.heap[gb140]? = some (.cells #[.int .i64 t145, .int .i64 t149, .int .i64 t155, .int .i64 t159, .string t163, .string t167, .string (⟨#[]⟩ : ByteArray), .string (⟨#[]⟩ : ByteArray), .string (⟨#[]⟩ : ByteArray), .string t171, .string (⟨#[]⟩ : ByteArray)] 62 (0, 0))) := ⟨(by rw [hw]; exact (by refine bY ?_; refine blk_put (cs := #[.int .i64 t145, .int .i64 t149, .int .i64 t155, .int .i64 t159, .string t163, .string t167, .string (⟨#[]⟩ : ByteArray), .string (⟨#[]⟩ : ByteArray), .string (⟨#[]⟩ : ByteArray), .string (⟨#[]⟩ : ByteArray), .string (⟨#[]⟩ : ByteArray)]) ?_ 9 _ rfl; refine bY ?_; exact BK140.out))⟩; have n5_ : Aside0 (Below w.heap.size w w106) := ⟨(by rw [hw]; exact belS)⟩; clear hw; clear HO_5; clear HO_8; clear HO_12; clear HO_23; clear BK140; clear HB; have HO_5 := n0_; have HO_8 := n1_; have HO_12 := n2_; have HO_23 := n3_; have BK140 := n4_; have HB := n5_; clear n0_ n1_ n2_ n3_ n4_ n5_; have p76 : 0 ≤ (6 : Int) := (by omega); have q76 : (6 : Int) < ((y151.length : Int) : Int) := of_decide_eq_true (by first | (with_reducible assumption) | assumption); have qi76 : (6 < y151.length) = True := eq_true (by omega); obtain ⟨hx76_0, hf76_0⟩ := Kd.R_celln false HO_12.out (6 : Int) p76 q76; (try rw [show ((6 : Int)).toNat = 6 from rfl] at hx76_0); (try simp only [Nat.reduceMul, Nat.zero_mul, Nat.zero_add, Nat.reduceAdd] at hx76_0); (try rw [show ((6 : Int)).toNat = 6 from rfl] at hf76_0); (try simp only [Nat.reduceMul, Nat.zero_mul, Nat.zero_add, Nat.reduceAdd] at hf76_0); replace p76 := eq_true p76; replace q76 := eq_true q76; obtain ⟨hy107_, hz107_⟩ := Kd.R_celln false HO_12.out (6 : Int) (by omega) (of_decide_eq_true (by first | (with_reducible assumption) | assumption)); (try simp only [Int.reduceToNat, Int.toNat_zero, Int.toNat_ofNat, Nat.reduceMul, Nat.zero_mul, Nat.zero_add] at hy107_ hz107_); (try rw [show ((6 : Int)).toNat = 6 from rfl] at hy107_); (try rw [show ((6 : Int)).toNat = 6 from rfl] at hz107_); have HP107 := Kd.R_putg HO_12.out (6 : Int) t172) | ((with_reducible refine gate_store (t := 4) (p := 154) rfl ?_); refine store_event (t := 4) (p := 154) (v := ?vo_w108) (w1 := (w106.setCell ⟨go26, (6 : Int).toNat, none⟩ (.bool t172))) ?hg ?ho ?hn ?hr ?_; (case ho => rfl); (case hg => rfl); (case hn => rfl); (case hr => first | (go_simp; done) | (go_simp; rfl)); intro w108 hw; have hg : w106.grownBy w108 (some go26) := (by rw [hw]; exact HP107.2); have hp_ : Kd.R Kd.bool 4 w108 w.heap.size (fun _ => True) (.slice (some ⟨go26, 0, none⟩) y151.length co26) y173 := (by rw [hw, Ny173.out]; exact HP107.1); clear HP107; have n0_ := Aside0.mk (Kd.R_over' (v := (.slice (some ⟨go26, 0, none⟩) y151.length co26)) (by (with_reducible repeat (first | apply Kd.R_alloc | apply Kd.R_drewN | apply Kd.R_drew)); exact HO_5.out) (Kd.R_typed HO_12.out) (by decide) hg); have n1_ := Aside0.mk (Kd.R_over' (v := (.slice (some ⟨go26, 0, none⟩) y151.length co26)) (by (with_reducible repeat (first | apply Kd.R_alloc | apply Kd.R_drewN | apply Kd.R_drew)); exact HO_8.out) (Kd.R_typed HO_12.out) (by decide) hg); have n2_ := Aside0.mk (hp_); have n3_ := Aside0.mk (Kd.R_over' (v := (.slice (some ⟨go26, 0, none⟩) y151.length co26)) (by (with_reducible repeat (first | apply Kd.R_alloc | apply Kd.R_drewN | apply Kd.R_drew)); exact HO_23.out) (Kd.R_typed HO_12.out) (by decide) hg); have n4_ := Aside0.mk (blk_grown (g := gb140) (o := .cells #[.int .i64 t145, .int .i64 t149, .int .i64 t155, .int .i64 t159, .string t163, .string t167, .string (⟨#[]⟩ : ByteArray), .string (⟨#[]⟩ : ByteArray), .string (⟨#[]⟩ : ByteArray), .string t171, .string (⟨#[]⟩ : ByteArray)] 62 (0, 0)) (by refine bY ?_; exact BK140.out) hg (Kd.R_ne HO_12.out BK140.out (by decide))); have n5_ := Aside0.mk ((by rw [hw]; exact below_set (HB.out) GB26.out : Below w.heap.size w w108)); clear HO_5; clear HO_8; clear HO_12; clear HO_23; clear BK140; clear HB; have HO_5 := n0_; have HO_8 := n1_; have HO_12 := n2_; have HO_23 := n3_; have BK140 := n4_; have HB := n5_; clear n0_ n1_ n2_ n3_ n4_ n5_; clear hg hw hp_))
                                            have n0_ := Aside0.mk (Kd.R_drew HO_5.out)
                                            have n1_ := Aside0.mk (Kd.R_drew HO_8.out)
                                            have n2_ := Aside0.mk (Kd.R_drew HO_12.out)
                                            have n3_ := Aside0.mk (Kd.R_drew HO_23.out)
                                            have n4_ := Aside0.mk (blk_drew BK140.out)
                                            have n5_ := Aside0.mk (below_drew1 HB.out)
                                            clear HO_5
                                            clear HO_8
                                            clear HO_12
                                            clear HO_23
                                            clear BK140
                                            clear HB
                                            have HO_5 := n0_
                                            have HO_8 := n1_
                                            have HO_12 := n2_
                                            have HO_23 := n3_
                                            have BK140 := n4_
                                            have HB := n5_
                                            clear n0_ n1_ n2_ n3_ n4_ n5_
                                            have p174 : 0 ≤ (5 : Int) := (by omega)
                                            have q174 : 5 < (t136.length : Int) := of_decide_eq_true (by first | (with_reducible assumption) | assumption)
                                            obtain ⟨ad174, e174, hx174_0⟩ := Kd.at_string (Kd.R_reads' HO_8.out).2.2 5 p174 q174
                                            obtain rfl : ad144 = ad174 := (by injection e174)
                                            (try simp only [show (5 : Int).toNat = 5 from rfl, Nat.reduceMul, Nat.reduceEqDiff, Go.Addr.add, ↓reduceIte] at hx174_0)
                                            have qi174 : (5 < t136.length) = True := eq_true (by omega)
                                            (try rw [show ((5 : Int)).toNat = 5 from rfl] at hx174_0)
                                            replace p174 := eq_true p174
                                            replace q174 := eq_true q174
                                            have p175 : 0 ≤ ((ji78) : Int) := of_decide_eq_true (by first | (with_reducible assumption) | assumption)
                                            have q175 : (ji78) < (t136.length : Int) := of_decide_eq_true (by first | (with_reducible assumption) | assumption)
                                            obtain ⟨ad175, e175, hx175_0⟩ := Kd.at_string (Kd.R_reads' HO_8.out).2.2 (ji78) p175 q175
                                            obtain rfl : ad144 = ad175 := (by injection e175)
                                            replace p175 := eq_true p175
                                            replace q175 := eq_true q175
                                            have p176 : 0 ≤ ((ji81) : Int) := of_decide_eq_true (by first | (with_reducible assumption) | assumption)
                                            have q176 : (ji81) < (t136.length : Int) := of_decide_eq_true (by first | (with_reducible assumption) | assumption)
                                            obtain ⟨ad176, e176, hx176_0⟩ := Kd.at_string (Kd.R_reads' HO_8.out).2.2 (ji81) p176 q176
                                            obtain rfl : ad144 = ad176 := (by injection e176)
                                            replace p176 := eq_true p176
                                            replace q176 := eq_true q176
                                            refine start_ (n := 19) (S := fun w' => w'.cell? ⟨ad144.block, ad144.off + 5, none⟩ = some (.string (rdOf ByteArray.empty t136 5)) ∧ w'.cell? (ad144.add ((ji78)).toNat) = some (.string (rdOf ByteArray.empty t136 (ji78))) ∧ w'.cell? (ad144.add ((ji81)).toNat) = some (.string (rdOf ByteArray.empty t136 (ji81)))) (ds := []) (tfA 0 19) (by kernel_rfl) rfl rfl ⟨hx174_0, hx175_0, hx176_0⟩ (fun hHeld => ?_); refine with_tabW spec_MountsRead.tab34 spec_MountsRead.bits34 (fun HT_ HW_ => ?_)
                                            generalize w108.drew = w109 at HO_5 HO_8 HO_12 HO_23 BK140 HB hx174_0 hx175_0 hx176_0 hHeld ⊢
                                            refine pure_ (i := 0) (N := some 155) (v := ?_) (a' := ?_) (tfA 1 18) rfl rfl (any_of HT_.out (by kernel_rfl)) (fun _ _ _ h => h) (Or.inl ⟨by rfl, ?_⟩) ?_ ?_
                                            rotate_left
                                            ·intro w'
                                             go_simp
                                             with_reducible rfl
                                            rotate_left
                                            ·simp only [Act.put, sA, s0, s1, i64_w, i32_w]
                                             rfl
                                            refine pure_ (i := 1) (N := some 156) (v := ?_) (a' := ?_) (tfA 2 17) rfl rfl (any_of HT_.out (by kernel_rfl)) (fun _ _ _ h => h) (Or.inl ⟨by rfl, ?_⟩) ?_ ?_
                                            rotate_left
                                            ·intro w'
                                             go_simp
                                             with_reducible rfl
                                            rotate_left
                                            ·simp only [Act.put, sA, s0, s1, i64_w, i32_w]
                                             rfl
                                            refine pure_ (i := 3) (N := some 158) (v := ?_) (a' := ?_) (bnA 19 11) rfl rfl (any_of HT_.out (by kernel_rfl)) (fun _ _ _ h => h) (Or.inl ⟨by rfl, ?_⟩) ?_ ?_
                                            rotate_left
                                            ·intro w'
                                             go_simp
                                             with_reducible rfl
                                            rotate_left
                                            ·simp only [Act.put, sA, s0, s1, i64_w, i32_w]
                                             rfl
                                            refine pure_ (i := 4) (N := some 159) (v := ?_) (a' := ?_) (bnA 19 27) rfl rfl (any_of HT_.out (by kernel_rfl)) (fun _ _ _ h => h) (Or.inl ⟨by rfl, ?_⟩) ?_ ?_
                                            rotate_left
                                            ·intro w'
                                             go_simp
                                             with_reducible rfl
                                            rotate_left
                                            ·simp only [Act.put, sA, s0, s1, i64_w, i32_w]
                                             rfl
                                            refine pure_ (i := 5) (N := some 160) (v := ?_) (a' := ?_) (bnA 19 59) rfl rfl (any_of HT_.out (by kernel_rfl)) (fun _ _ _ h => h) (Or.inl ⟨by rfl, ?_⟩) ?_ ?_
                                            rotate_left
                                            ·intro w'
                                             go_simp
                                             with_reducible rfl
                                            rotate_left
                                            ·simp only [Act.put, sA, s0, s1, i64_w, i32_w]
                                             rfl
                                            refine pure_ (i := 6) (N := some 161) (v := ?_) (a' := ?_) (bnA 19 123) rfl rfl (any_of HT_.out (by kernel_rfl)) (fun _ _ _ h => h) (Or.inl ⟨by rfl, ?_⟩) ?_ ?_
                                            rotate_left
                                            ·intro w'
                                             go_simp
                                             with_reducible rfl
                                            rotate_left
                                            ·simp only [Act.put, sA, s0, s1, i64_w, i32_w]
                                             rfl
                                            refine pure_ (i := 8) (N := some 163) (v := ?_) (a' := ?_) (bnA 19 379) rfl rfl (any_of HT_.out (by kernel_rfl)) (fun _ _ _ h => h) (Or.inl ⟨by rfl, ?_⟩) ?_ ?_
                                            rotate_left
                                            ·intro w'
                                             go_simp
                                             with_reducible rfl
                                            rotate_left
                                            ·simp only [Act.put, sA, s0, s1, i64_w, i32_w]
                                             rfl
                                            refine pure_ (i := 9) (N := some 164) (v := ?_) (a' := ?_) (bnA 19 891) rfl rfl (any_of HT_.out (by kernel_rfl)) (fun _ _ _ h => h) (Or.inl ⟨by rfl, ?_⟩) ?_ ?_
                                            rotate_left
                                            ·intro w'
                                             go_simp
                                             with_reducible rfl
                                            rotate_left
                                            ·simp only [Act.put, sA, s0, s1, i64_w, i32_w]
                                             rfl
                                            refine pure_ (i := 10) (N := some 165) (v := ?_) (a' := ?_) (bnA 19 1915) rfl rfl (any_of HT_.out (by kernel_rfl)) (fun _ _ _ h => h) (Or.inl ⟨by rfl, ?_⟩) ?_ ?_
                                            rotate_left
                                            ·intro w'
                                             go_simp
                                             with_reducible rfl
                                            rotate_left
                                            ·simp only [Act.put, sA, s0, s1, i64_w, i32_w]
                                             rfl
                                            refine pure_ (i := 11) (N := some 166) (v := ?_) (a' := ?_) (bnA 19 3963) rfl rfl (any_of HT_.out (by kernel_rfl)) (fun _ _ _ h => h) (Or.inl ⟨by rfl, ?_⟩) ?_ ?_
                                            rotate_left
                                            ·intro w'
                                             go_simp
                                             with_reducible rfl
                                            rotate_left
                                            ·simp only [Act.put, sA, s0, s1, i64_w, i32_w]
                                             rfl
                                            refine take_ (i := 2) (N := some 157) (v := ?_) (a' := ?_) (bnA 19 3967) rfl rfl (take_ofW HT_.out HW_.out (by kernel_rfl)) (fun _ _ _ h => h) (Or.inl ⟨by rfl, ?_⟩) hHeld ?_ ?_
                                            rotate_left
                                            ·rintro w' ⟨s0, s1, s2⟩
                                             go_simp
                                             with_reducible rfl
                                            rotate_left
                                            ·simp only [Act.put, sA, s0, s1, i64_w, i32_w]
                                             rfl
                                            refine pure_ (i := 13) (N := some 168) (v := ?_) (a' := ?_) (bnA 19 12159) rfl rfl (any_of HT_.out (by kernel_rfl)) (fun _ _ _ h => h) (Or.inl ⟨by rfl, ?_⟩) ?_ ?_
                                            rotate_left
                                            ·intro w'
                                             go_simp
                                             with_reducible rfl
                                            rotate_left
                                            ·simp only [Act.put, sA, s0, s1, i64_w, i32_w]
                                             rfl
                                            refine take_ (i := 7) (N := some 162) (v := ?_) (a' := ?_) (bnA 19 12287) rfl rfl (take_ofW HT_.out HW_.out (by kernel_rfl)) (fun _ _ _ h => h) (Or.inl ⟨by rfl, ?_⟩) hHeld ?_ ?_
                                            rotate_left
                                            ·rintro w' ⟨s0, s1, s2⟩
                                             go_simp
                                             with_reducible rfl
                                            rotate_left
                                            ·simp only [Act.put, sA, s0, s1, i64_w, i32_w]
                                             rfl
                                            refine take_ (i := 12) (N := some 167) (v := ?_) (a' := ?_) (tfA 14 5) rfl rfl (take_ofW HT_.out HW_.out (by kernel_rfl)) (fun _ _ _ h => h) (Or.inl ⟨by rfl, ?_⟩) hHeld ?_ ?_
                                            rotate_left
                                            ·rintro w' ⟨s0, s1, s2⟩
                                             go_simp
                                             with_reducible rfl
                                            rotate_left
                                            ·simp only [Act.put, sA, s0, s1, i64_w, i32_w]
                                             rfl
                                            refine one_ (i := 14) (N := none) (tfA 15 4) rfl rfl (one_of HT_.out (by kernel_rfl)) (by decide) (fun K hK => ?_)
                                            have hs110 : w109.cell? ⟨gb140, 6, none⟩ = some (.string (⟨#[]⟩ : ByteArray)) := (blk_cell BK140.out 6).trans rfl
                                            have hfs110 := blk_frozen BK140.out 6
                                            refine skip_ (w1 := ?_) (by rfl) rfl ?_ ?_
                                            rotate_left
                                            ·go_simp
                                             rfl
                                            refine hK.out _ _ ⟨((cell_far (p := ⟨gb140, _, none⟩) (by first | (dsimp only; exact Kd.own_blk (Kd.R_ne HO_8.out BK140.out (by decide))) | (rw [add_block]; exact Kd.own_blk (Kd.R_ne HO_8.out BK140.out (by decide)))) _).trans (hHeld.1)), ((cell_far (p := ⟨gb140, _, none⟩) (by first | (dsimp only; exact Kd.own_blk (Kd.R_ne HO_8.out BK140.out (by decide))) | (rw [add_block]; exact Kd.own_blk (Kd.R_ne HO_8.out BK140.out (by decide)))) _).trans (hHeld.2.1)), ((cell_far (p := ⟨gb140, _, none⟩) (by first | (dsimp only; exact Kd.own_blk (Kd.R_ne HO_8.out BK140.out (by decide))) | (rw [add_block]; exact Kd.own_blk (Kd.R_ne HO_8.out BK140.out (by decide)))) _).trans (hHeld.2.2))⟩ (fun hHeld => ?_)
                                            clear hK K
                                            refine pure_ (i := 15) (N := some 169) (v := ?_) (a' := ?_) (tfA 16 3) rfl rfl (any_of HT_.out (by kernel_rfl)) (fun _ _ _ h => h) (Or.inl ⟨by rfl, ?_⟩) ?_ ?_
                                            rotate_left
                                            ·intro w'
                                             go_simp
                                             with_reducible rfl
                                            rotate_left
                                            ·simp only [Act.put, sA, s0, s1, i64_w, i32_w]
                                             rfl
                                            refine one_ (i := 16) (N := none) (tfA 17 2) rfl rfl (one_of HT_.out (by kernel_rfl)) (by decide) (fun K hK => ?_)
                                            have hs111 : w109.cell? ⟨gb140, 8, none⟩ = some (.string (⟨#[]⟩ : ByteArray)) := (blk_cell BK140.out 8).trans rfl
                                            have hfs111 := blk_frozen BK140.out 8
                                            refine skip_ (w1 := ?_) (by rfl) rfl ?_ ?_
                                            rotate_left
                                            ·go_simp
                                             rfl
                                            refine hK.out _ _ ⟨((cell_far (p := ⟨gb140, _, none⟩) (by first | (dsimp only; exact Kd.own_blk (Kd.R_ne HO_8.out BK140.out (by decide))) | (rw [add_block]; exact Kd.own_blk (Kd.R_ne HO_8.out BK140.out (by decide)))) _).trans (hHeld.1)), ((cell_far (p := ⟨gb140, _, none⟩) (by first | (dsimp only; exact Kd.own_blk (Kd.R_ne HO_8.out BK140.out (by decide))) | (rw [add_block]; exact Kd.own_blk (Kd.R_ne HO_8.out BK140.out (by decide)))) _).trans (hHeld.2.1)), ((cell_far (p := ⟨gb140, _, none⟩) (by first | (dsimp only; exact Kd.own_blk (Kd.R_ne HO_8.out BK140.out (by decide))) | (rw [add_block]; exact Kd.own_blk (Kd.R_ne HO_8.out BK140.out (by decide)))) _).trans (hHeld.2.2))⟩ (fun hHeld => ?_)
                                            clear hK K
                                            refine pure_ (i := 17) (N := some 170) (v := ?_) (a' := ?_) (tfA 18 1) rfl rfl (any_of HT_.out (by kernel_rfl)) (fun _ _ _ h => h) (Or.inl ⟨by rfl, ?_⟩) ?_ ?_
                                            rotate_left
                                            ·intro w'
                                             go_simp
                                             with_reducible rfl
                                            rotate_left
                                            ·simp only [Act.put, sA, s0, s1, i64_w, i32_w]
                                             rfl
                                            refine one_ (i := 18) (N := none) (tfA 19 0) rfl rfl (one_of HT_.out (by kernel_rfl)) (by decide) (fun K hK => ?_)
                                            have hs112 : w109.cell? ⟨gb140, 10, none⟩ = some (.string (⟨#[]⟩ : ByteArray)) := (blk_cell BK140.out 10).trans rfl
                                            have hfs112 := blk_frozen BK140.out 10
                                            refine skip_ (w1 := ?_) (by rfl) rfl ?_ ?_
                                            rotate_left
                                            ·go_simp
                                             rfl
                                            refine hK.out _ _ ⟨((cell_far (p := ⟨gb140, _, none⟩) (by first | (dsimp only; exact Kd.own_blk (Kd.R_ne HO_8.out BK140.out (by decide))) | (rw [add_block]; exact Kd.own_blk (Kd.R_ne HO_8.out BK140.out (by decide)))) _).trans (hHeld.1)), ((cell_far (p := ⟨gb140, _, none⟩) (by first | (dsimp only; exact Kd.own_blk (Kd.R_ne HO_8.out BK140.out (by decide))) | (rw [add_block]; exact Kd.own_blk (Kd.R_ne HO_8.out BK140.out (by decide)))) _).trans (hHeld.2.1)), ((cell_far (p := ⟨gb140, _, none⟩) (by first | (dsimp only; exact Kd.own_blk (Kd.R_ne HO_8.out BK140.out (by decide))) | (rw [add_block]; exact Kd.own_blk (Kd.R_ne HO_8.out BK140.out (by decide)))) _).trans (hHeld.2.2))⟩ (fun hHeld => ?_)
                                            clear hK K
                                            refine done_ (done_of HT_.out (by kernel_rfl)) ?_
                                            have n0_ : Aside0 (Kd.R k62 62 (((w109.setCell ⟨gb140, 6, none⟩ (.string (rdOf ByteArray.empty t136 5))).setCell ⟨gb140, 8, none⟩ (.string (rdOf ByteArray.empty t136 (ji78)))).setCell ⟨gb140, 10, none⟩ (.string (rdOf ByteArray.empty t136 (ji81)))) w.heap.size (fun k_ => k_ ≠ gb140) u5 x5_1) := ⟨by (with_reducible repeat (first | apply Kd.R_alloc | apply Kd.R_drewN | apply Kd.R_drew)); exact Kd.R_mono (Kd.R_far (p := ⟨gb140, 10, none⟩) (Kd.R_far (p := ⟨gb140, 8, none⟩) (Kd.R_far (p := ⟨gb140, 6, none⟩) (Kd.R_mono HO_5.out (fun k_ hk => (⟨hk, hk⟩ : _ ∧ k_ ≠ gb140))) (fun _ hk => hk.2) (.string (rdOf ByteArray.empty t136 5))) (fun _ hk => hk.2) (.string (rdOf ByteArray.empty t136 (ji78)))) (fun _ hk => hk.2) (.string (rdOf ByteArray.empty t136 (ji81)))) (fun _ hk => hk.1)⟩
                                            have n1_ : Aside0 (Kd.R Kd.string 9 (((w109.setCell ⟨gb140, 6, none⟩ (.string (rdOf ByteArray.empty t136 5))).setCell ⟨gb140, 8, none⟩ (.string (rdOf ByteArray.empty t136 (ji78)))).setCell ⟨gb140, 10, none⟩ (.string (rdOf ByteArray.empty t136 (ji81)))) w.heap.size (fun k_ => some k_ ≠ (.slice (some ad135) t132.length co5 : Value).ownBlock) (.slice (some ad144) t136.length co19) t136) := ⟨by (with_reducible repeat (first | apply Kd.R_alloc | apply Kd.R_drewN | apply Kd.R_drew)); exact Kd.R_mono (Kd.R_far (p := ⟨gb140, 10, none⟩) (Kd.R_far (p := ⟨gb140, 8, none⟩) (Kd.R_far (p := ⟨gb140, 6, none⟩) (Kd.R_types HO_8.out BK140.out (by decide)) (fun _ hk => hk.2) (.string (rdOf ByteArray.empty t136 5))) (fun _ hk => hk.2) (.string (rdOf ByteArray.empty t136 (ji78)))) (fun _ hk => hk.2) (.string (rdOf ByteArray.empty t136 (ji81)))) (fun _ hk => hk.1)⟩
                                            have n2_ : Aside0 (Kd.R Kd.bool 4 (((w109.setCell ⟨gb140, 6, none⟩ (.string (rdOf ByteArray.empty t136 5))).setCell ⟨gb140, 8, none⟩ (.string (rdOf ByteArray.empty t136 (ji78)))).setCell ⟨gb140, 10, none⟩ (.string (rdOf ByteArray.empty t136 (ji81)))) w.heap.size (fun _ => True) (.slice (some ⟨go26, 0, none⟩) y151.length co26) y173) := ⟨by (with_reducible repeat (first | apply Kd.R_alloc | apply Kd.R_drewN | apply Kd.R_drew)); exact Kd.R_mono (Kd.R_far (p := ⟨gb140, 10, none⟩) (Kd.R_far (p := ⟨gb140, 8, none⟩) (Kd.R_far (p := ⟨gb140, 6, none⟩) (Kd.R_types HO_12.out BK140.out (by decide)) (fun _ hk => hk.2) (.string (rdOf ByteArray.empty t136 5))) (fun _ hk => hk.2) (.string (rdOf ByteArray.empty t136 (ji78)))) (fun _ hk => hk.2) (.string (rdOf ByteArray.empty t136 (ji81)))) (fun _ hk => trivial)⟩
                                            have n3_ : Aside0 (Kd.R Kd.string 9 (((w109.setCell ⟨gb140, 6, none⟩ (.string (rdOf ByteArray.empty t136 5))).setCell ⟨gb140, 8, none⟩ (.string (rdOf ByteArray.empty t136 (ji78)))).setCell ⟨gb140, 10, none⟩ (.string (rdOf ByteArray.empty t136 (ji81)))) w.heap.size (fun k_ => some k_ ≠ (.slice (some ad144) t136.length co19 : Value).ownBlock) (.slice (some ad135) t132.length co5) t132) := ⟨by (with_reducible repeat (first | apply Kd.R_alloc | apply Kd.R_drewN | apply Kd.R_drew)); exact Kd.R_mono (Kd.R_far (p := ⟨gb140, 10, none⟩) (Kd.R_far (p := ⟨gb140, 8, none⟩) (Kd.R_far (p := ⟨gb140, 6, none⟩) (Kd.R_types HO_23.out BK140.out (by decide)) (fun _ hk => hk.2) (.string (rdOf ByteArray.empty t136 5))) (fun _ hk => hk.2) (.string (rdOf ByteArray.empty t136 (ji78)))) (fun _ hk => hk.2) (.string (rdOf ByteArray.empty t136 (ji81)))) (fun _ hk => hk.1)⟩
                                            have n4_ : Aside0 ((((w109.setCell ⟨gb140, 6, none⟩ (.string (rdOf ByteArray.empty t136 5))).setCell ⟨gb140, 8, none⟩ (.string (rdOf ByteArray.empty t136 (ji78)))).setCell ⟨gb140, 10, none⟩ (.string (rdOf ByteArray.empty t136 (ji81)))).heap[gb140]? = some (.cells #[.int .i64 t145, .int .i64 t149, .int .i64 t155, .int .i64 t159, .string t163, .string t167, .string (rdOf ByteArray.empty t136 5), .string (⟨#[]⟩ : ByteArray), .string (rdOf ByteArray.empty t136 (ji78)), .string t171, .string (rdOf ByteArray.empty t136 (ji81))] 62 (0, 0))) := ⟨by refine bY ?_; refine blk_put (cs := #[.int .i64 t145, .int .i64 t149, .int .i64 t155, .int .i64 t159, .string t163, .string t167, .string (rdOf ByteArray.empty t136 5), .string (⟨#[]⟩ : ByteArray), .string (rdOf ByteArray.empty t136 (ji78)), .string t171, .string (⟨#[]⟩ : ByteArray)]) ?_ 10 _ rfl; refine bY ?_; refine blk_put (cs := #[.int .i64 t145, .int .i64 t149, .int .i64 t155, .int .i64 t159, .string t163, .string t167, .string (rdOf ByteArray.empty t136 5), .string (⟨#[]⟩ : ByteArray), .string (⟨#[]⟩ : ByteArray), .string t171, .string (⟨#[]⟩ : ByteArray)]) ?_ 8 _ rfl; refine bY ?_; refine blk_put (cs := #[.int .i64 t145, .int .i64 t149, .int .i64 t155, .int .i64 t159, .string t163, .string t167, .string (⟨#[]⟩ : ByteArray), .string (⟨#[]⟩ : ByteArray), .string (⟨#[]⟩ : ByteArray), .string t171, .string (⟨#[]⟩ : ByteArray)]) ?_ 6 _ rfl; refine bY ?_; exact BK140.out⟩
                                            have n5_ : Aside0 (Below w.heap.size w (((w109.setCell ⟨gb140, 6, none⟩ (.string (rdOf ByteArray.empty t136 5))).setCell ⟨gb140, 8, none⟩ (.string (rdOf ByteArray.empty t136 (ji78)))).setCell ⟨gb140, 10, none⟩ (.string (rdOf ByteArray.empty t136 (ji81))))) := ⟨by repeat (first | (with_reducible first | exact HB.out | apply below_alloc | apply pw_below_drewN | apply below_drew1 | refine below_set ?_ GE140.out) | exact HB.out)⟩
                                            (try clear HO_5)
                                            (try clear HO_8)
                                            (try clear HO_12)
                                            (try clear HO_23)
                                            (try clear BK140)
                                            (try clear HB)
                                            generalize (((w109.setCell ⟨gb140, 6, none⟩ (.string (rdOf ByteArray.empty t136 5))).setCell ⟨gb140, 8, none⟩ (.string (rdOf ByteArray.empty t136 (ji78)))).setCell ⟨gb140, 10, none⟩ (.string (rdOf ByteArray.empty t136 (ji81)))) = w113 at n0_ n1_ n2_ n3_ n4_ n5_ ⊢
                                            have HO_5 := n0_
                                            have HO_8 := n1_
                                            have HO_12 := n2_
                                            have HO_23 := n3_
                                            have BK140 := n4_
                                            have HB := n5_
                                            clear n0_ n1_ n2_ n3_ n4_ n5_
                                            have q114 : (x9_2 : Int) ≤ ((t136.length : Int) : Int) := of_decide_eq_true (by first | (with_reducible assumption) | assumption)
                                            obtain ⟨i0114, hi0114, _, hsz114, _⟩ := info_parts info9
                                            have hroom114 : t136.length ≤ co19 := (Kd.R_reads' HO_8.out).2.1
                                            have hC114 : Kd.C Kd.string _ (some ad144) t136.length t136 := (Kd.R_reads' HO_8.out).2.2
                                            have ql114 : (6 : Int) ≤ (x9_2 : Int) := of_decide_eq_true (by first | (with_reducible assumption) | assumption)
                                            have hcut114 := cut_mid (P := Tryd.prog) 31 9 .i64 .i64 Tryd.underlying31 hi0114 1 hsz114 (some ad144) t136.length co19 6 x9_2 (by omega) ql114 q114 hroom114
                                            have hr114 := Kd.C_mid (lo := (6 : Int).toNat) (hi := (x9_2 : Int).toNat) (c := co19) hC114 (by omega) (by omega) hroom114
                                            obtain ⟨A114, hA114⟩ : ∃ A1, A1 = (if co19 = (6 : Int).toNat then (some ad144) else ((some ad144) : Option Addr).map (·.add ((6 : Int).toNat * 1))) := ⟨_, rfl⟩
                                            obtain ⟨c114, hc114⟩ : ∃ c1, c1 = co19 - (6 : Int).toNat := ⟨_, rfl⟩
                                            have hy114 : y177.length = (x9_2 : Int).toNat - (6 : Int).toNat := (by rw [Ny177.out, List.length_drop, List.length_take] <;> omega)
                                            rw [show ((t136).take (x9_2 : Int).toNat).drop (6 : Int).toNat = y177 from Ny177.out.symm] at hr114
                                            replace hr114 : Kd.C Kd.string _ A114 y177.length y177 := (by rw [hA114]; exact hr114)
                                            rw [← hy114, ← hA114, ← hc114] at hcut114
                                            have HR180 := Aside0.mk hr114
                                            have HC180 := Aside0.mk (show y177.length ≤ c114 from by rw [hy114, hc114]; exact Nat.sub_le_sub_right (Nat.le_trans (by omega) hroom114) _)
                                            clear hr114 hC114 hroom114 hi0114 hsz114 hc114
                                            have KY114 := Aside0.mk hy114
                                            have KA114 := Aside0.mk hA114
                                            clear hy114 hA114
                                            have KL114 := Aside0.mk (show (x9_2 : Int).toNat ≤ t136.length from by omega)
                                            have KM114 := Aside0.mk (show 6 ≤ (x9_2 : Int).toNat from by omega)
                                            replace q114 := eq_true q114
                                            try go_wp2
                                            go_loopg [175] k4 (fun kq v175 w' => ∃ (x175_5 : Int) (x141007_5 : ByteArray), v175 = .int .i64 x175_5 ∧ Aside0 (spec_MountsRead.l3 kq x5_1 y173 t132 (t132.length : Int) x25_1 y177 (y177.length : Int) x175_5 t145 t149 t155 t159 t163 t167 (rdOf ByteArray.empty t136 5) x141007_5 (rdOf ByteArray.empty t136 (ji78)) t171 (rdOf ByteArray.empty t136 (ji81)) = some (r1, r2, r3)) ∧ Aside0 (kq ≤ k4) ∧ Aside0 (Kd.R k62 62 w' w.heap.size (fun k_ => k_ ≠ gb140) u5 x5_1) ∧ Aside0 (Kd.R Kd.bool 4 w' w.heap.size (fun _ => True) (.slice (some ⟨go26, 0, none⟩) y151.length co26) y173) ∧ Aside0 (Kd.R Kd.string 9 w' w.heap.size (fun _ => True) (.slice (some ad135) t132.length co5) t132) ∧ Aside0 (Kd.R Kd.string 9 w' w.heap.size (fun _ => True) (.slice (some ad144) t136.length co19) t136) ∧ Aside0 (w'.heap[gb140]? = some (.cells #[.int .i64 t145, .int .i64 t149, .int .i64 t155, .int .i64 t159, .string t163, .string t167, .string (rdOf ByteArray.empty t136 5), .string x141007_5, .string (rdOf ByteArray.empty t136 (ji78)), .string t171, .string (rdOf ByteArray.empty t136 (ji81))] 62 (0, 0))) ∧ Aside0 (Kd.C Kd.string w' A114 y177.length y177) ∧ Aside0 (Below w.heap.size w w'))
                                            case atStart => exact ⟨(0), ((⟨#[]⟩ : ByteArray)), (by first | rfl | (simp; done) | (simp [*]; done) | (simp [bne_nil]; done) | (simp [bne_nil, *]; done)), H', ⟨Nat.le_refl _⟩, ⟨by (try simp only [hl12_4]); (with_reducible repeat (first | apply Kd.R_alloc | apply Kd.R_drewN | apply Kd.R_drew)); exact HO_5.out⟩, ⟨by (try simp only [hl12_4]); (with_reducible repeat (first | apply Kd.R_alloc | apply Kd.R_drewN | apply Kd.R_drew)); exact HO_12.out⟩, ⟨by (try simp only [hl12_4]); (with_reducible repeat (first | apply Kd.R_alloc | apply Kd.R_drewN | apply Kd.R_drew)); exact Kd.R_mono HO_23.out (fun _ hk => trivial)⟩, ⟨by (try simp only [hl12_4]); (with_reducible repeat (first | apply Kd.R_alloc | apply Kd.R_drewN | apply Kd.R_drew)); exact Kd.R_mono HO_8.out (fun _ hk => trivial)⟩, ⟨by (try simp only [hl12_4]); refine bY ?_; exact BK140.out⟩, ⟨by repeat (first | (with_reducible exact HR180.out) | (with_reducible refine Kd.C_alloc ?_ _) | (with_reducible refine Kd.C_drewN ?_ _) | (with_reducible refine Kd.C_drew ?_) | exact HR180.out)⟩, ⟨by repeat (first | (with_reducible first | exact HB.out | apply below_alloc | apply pw_below_drewN | apply below_drew1 | refine below_set ?_ GE140.out) | exact HB.out)⟩⟩
                                            case round =>
                                             clear H'
                                             try clear c1
                                             try clear p1
                                             try clear q1
                                             try clear hx1
                                             try clear qi1
                                             try clear c2
                                             try clear p2
                                             try clear q2
                                             try clear hx2
                                             try clear c3
                                             try clear p3
                                             try clear q3
                                             try clear hx3
                                             try clear c4
                                             try clear p4
                                             try clear q4
                                             try clear hx4
                                             try clear c5
                                             try clear p5
                                             try clear q5
                                             try clear hx5
                                             try clear qi5
                                             try clear hf5
                                             try clear c6
                                             try clear p6
                                             try clear q6
                                             try clear hx6
                                             try clear qi6
                                             try clear hf6
                                             try clear c7
                                             try clear p7
                                             try clear q7
                                             try clear hx7
                                             try clear qi7
                                             try clear hf7
                                             try clear c8
                                             try clear c11
                                             try clear q11
                                             try clear p13
                                             try clear q13
                                             try clear hx13
                                             try clear p14
                                             try clear q14
                                             try clear hx14
                                             try clear p15
                                             try clear q15
                                             try clear hx15
                                             try clear qi15
                                             try clear p16
                                             try clear q16
                                             try clear hx16
                                             try clear qi16
                                             try clear p17
                                             try clear q17
                                             try clear hx17
                                             try clear qi17
                                             try clear p26
                                             try clear q26
                                             try clear hx26
                                             try clear c29
                                             try clear c30
                                             try clear p30
                                             try clear q30
                                             try clear hx30
                                             try clear c43
                                             try clear c43b0
                                             try clear c44
                                             try clear c44b0
                                             try clear c44b1
                                             try clear c45
                                             try clear c45b0
                                             try clear c46
                                             try clear c46b0
                                             try clear p47
                                             try clear q47
                                             try clear hx47
                                             try clear c48
                                             try clear c48b0
                                             try clear c48b1
                                             try clear c49
                                             try clear c49b0
                                             try clear c50
                                             try clear c50b0
                                             try clear c51
                                             try clear c51b0
                                             try clear c51b1
                                             try clear c52
                                             try clear c52b0
                                             try clear c52b1
                                             try clear c53
                                             try clear c53b0
                                             try clear c53b1
                                             try clear c55
                                             try clear c55b0
                                             try clear c55b1
                                             try clear p56
                                             try clear q56
                                             try clear hx56
                                             try clear qi56
                                             try clear hf56
                                             try clear c58
                                             try clear c58b0
                                             try clear c58b1
                                             try clear c59
                                             try clear c59b0
                                             try clear c59b1
                                             try clear c61
                                             try clear c61b0
                                             try clear c61b1
                                             try clear p62
                                             try clear q62
                                             try clear hx62
                                             try clear qi62
                                             try clear hf62
                                             try clear c63
                                             try clear c63b0
                                             try clear c63b1
                                             try clear p64
                                             try clear c65
                                             try clear c65b0
                                             try clear c65b1
                                             try clear p66
                                             try clear q66
                                             try clear hx66
                                             try clear qi66
                                             try clear hf66
                                             try clear c67
                                             try clear c67b0
                                             try clear c67b1
                                             try clear c69
                                             try clear c69b0
                                             try clear c69b1
                                             try clear p70
                                             try clear q70
                                             try clear hx70
                                             try clear qi70
                                             try clear hf70
                                             try clear c72
                                             try clear c72b0
                                             try clear c73
                                             try clear c73b0
                                             try clear c75
                                             try clear c75b0
                                             try clear c75b1
                                             try clear p76
                                             try clear q76
                                             try clear hx76
                                             try clear qi76
                                             try clear hf76
                                             try clear c77
                                             try clear c77b0
                                             try clear c77b1
                                             try clear c79
                                             try clear c79b0
                                             try clear c80
                                             try clear c80b0
                                             try clear c82
                                             try clear c82b0
                                             try clear c83
                                             try clear c83b0
                                             try clear c84
                                             try clear c84b0
                                             try clear c84b1
                                             try clear c85
                                             try clear c85b0
                                             try clear c85b1
                                             try clear c114
                                             try clear q114
                                             try clear hcz100_0
                                             try clear hcz100_1
                                             try clear hcz100_10
                                             try clear hcz100_2
                                             try clear hcz100_3
                                             try clear hcz100_4
                                             try clear hcz100_5
                                             try clear hcz100_6
                                             try clear hcz100_7
                                             try clear hcz100_8
                                             try clear hcz100_9
                                             try clear hcz105_0
                                             try clear hcz105_1
                                             try clear hcz105_10
                                             try clear hcz105_2
                                             try clear hcz105_3
                                             try clear hcz105_4
                                             try clear hcz105_5
                                             try clear hcz105_6
                                             try clear hcz105_7
                                             try clear hcz105_8
                                             try clear hcz105_9
                                             try clear hcz86_0
                                             try clear hcz86_1
                                             try clear hcz86_10
                                             try clear hcz86_2
                                             try clear hcz86_3
                                             try clear hcz86_4
                                             try clear hcz86_5
                                             try clear hcz86_6
                                             try clear hcz86_7
                                             try clear hcz86_8
                                             try clear hcz86_9
                                             try clear hcz90_0
                                             try clear hcz90_1
                                             try clear hcz90_10
                                             try clear hcz90_2
                                             try clear hcz90_3
                                             try clear hcz90_4
                                             try clear hcz90_5
                                             try clear hcz90_6
                                             try clear hcz90_7
                                             try clear hcz90_8
                                             try clear hcz90_9
                                             try clear hcz95_0
                                             try clear hcz95_1
                                             try clear hcz95_10
                                             try clear hcz95_2
                                             try clear hcz95_3
                                             try clear hcz95_4
                                             try clear hcz95_5
                                             try clear hcz95_6
                                             try clear hcz95_7
                                             try clear hcz95_8
                                             try clear hcz95_9
                                             try clear hfz100_0
                                             try clear hfz100_1
                                             try clear hfz100_10
                                             try clear hfz100_2
                                             try clear hfz100_3
                                             try clear hfz100_4
                                             try clear hfz100_5
                                             try clear hfz100_6
                                             try clear hfz100_7
                                             try clear hfz100_8
                                             try clear hfz100_9
                                             try clear hfz105_0
                                             try clear hfz105_1
                                             try clear hfz105_10
                                             try clear hfz105_2
                                             try clear hfz105_3
                                             try clear hfz105_4
                                             try clear hfz105_5
                                             try clear hfz105_6
                                             try clear hfz105_7
                                             try clear hfz105_8
                                             try clear hfz105_9
                                             try clear hfz39_0
                                             try clear hfz39_1
                                             try clear hfz39_10
                                             try clear hfz39_2
                                             try clear hfz39_3
                                             try clear hfz39_4
                                             try clear hfz39_5
                                             try clear hfz39_6
                                             try clear hfz39_7
                                             try clear hfz39_8
                                             try clear hfz39_9
                                             try clear hfz86_0
                                             try clear hfz86_1
                                             try clear hfz86_10
                                             try clear hfz86_2
                                             try clear hfz86_3
                                             try clear hfz86_4
                                             try clear hfz86_5
                                             try clear hfz86_6
                                             try clear hfz86_7
                                             try clear hfz86_8
                                             try clear hfz86_9
                                             try clear hfz90_0
                                             try clear hfz90_1
                                             try clear hfz90_10
                                             try clear hfz90_2
                                             try clear hfz90_3
                                             try clear hfz90_4
                                             try clear hfz90_5
                                             try clear hfz90_6
                                             try clear hfz90_7
                                             try clear hfz90_8
                                             try clear hfz90_9
                                             try clear hfz95_0
                                             try clear hfz95_1
                                             try clear hfz95_10
                                             try clear hfz95_2
                                             try clear hfz95_3
                                             try clear hfz95_4
                                             try clear hfz95_5
                                             try clear hfz95_6
                                             try clear hfz95_7
                                             try clear hfz95_8
                                             try clear hfz95_9
                                             try clear hx135_0
                                             try clear hx139_0
                                             try clear hx144_0
                                             try clear hx148_0
                                             try clear hx152_0
                                             try clear hx153_0
                                             try clear hx154_0
                                             try clear hx158_0
                                             try clear hx162_0
                                             try clear hx166_0
                                             try clear hx170_0
                                             try clear hx174_0
                                             try clear hx175_0
                                             try clear hx176_0
                                             try clear hx26_0
                                             try clear hx30_0
                                             try clear hx56_0
                                             try clear hx62_0
                                             try clear hx66_0
                                             try clear hx70_0
                                             try clear hx76_0
                                             try clear p1
                                             try clear p13
                                             try clear p135
                                             try clear p139
                                             try clear p144
                                             try clear p148
                                             try clear p152
                                             try clear p153
                                             try clear p154
                                             try clear p158
                                             try clear p162
                                             try clear p166
                                             try clear p170
                                             try clear p174
                                             try clear p175
                                             try clear p176
                                             try clear p2
                                             try clear p26
                                             try clear p30
                                             try clear p47
                                             try clear p56
                                             try clear p6
                                             try clear p62
                                             try clear p66
                                             try clear p70
                                             try clear p76
                                             try clear q1
                                             try clear q114
                                             try clear q13
                                             try clear q135
                                             try clear q139
                                             try clear q144
                                             try clear q148
                                             try clear q152
                                             try clear q153
                                             try clear q154
                                             try clear q158
                                             try clear q162
                                             try clear q166
                                             try clear q170
                                             try clear q174
                                             try clear q175
                                             try clear q176
                                             try clear q26
                                             try clear q30
                                             try clear q47
                                             try clear q56
                                             try clear q62
                                             try clear q66
                                             try clear q70
                                             try clear q76
                                             obtain ⟨x175_5, x141007_5, rfl, HA, HK5, HO_5, HO_12, HO_23, HO_F, BK140, HR180, HB⟩ := hrel
                                             have hl12_5 := (Kd.R_reads' HO_12.out).1
                                             rw [hl12_5] at HO_12
                                             (try simp only [hl12_5])
                                             (try simp only [hl12_5] at BK140)
                                             (try simp only [hl12_5] at HO_5)
                                             (try simp only [hl12_5] at HO_23)
                                             cases gk with
                                             | zero => exact absurd HA.out (by simp [spec_MountsRead.l3])
                                             | succ k5 =>
                                              have H := HA.out
                                              clear HA
                                              simp only [spec_MountsRead.l3] at H
                                              by_cases c115 : x175_5 < (y177.length : Int)
                                              ·rw [if_pos c115] at H
                                               have c115b0 : decide (x175_5 < (y177.length : Int)) = true := decide_eq_true c115
                                               clear c115
                                               by_cases c116 : 0 ≤ x175_5
                                               ·rw [if_pos c116] at H
                                                have c116b0 : decide (0 ≤ x175_5) = true := decide_eq_true c116
                                                clear c116
                                                by_cases c117 : x175_5 < (y177.length : Int)
                                                ·rw [if_pos c117] at H
                                                 have c117b0 : decide (x175_5 < (y177.length : Int)) = true := decide_eq_true c117
                                                 clear c117
                                                 by_cases c118 : x175_5 > 0
                                                 ·rw [if_pos c118] at H
                                                  have c118b0 : decide (0 < x175_5) = true := decide_eq_true c118
                                                  clear c118
                                                  by_cases c119 : x141007_5.size + 1 ≤ 9223372036854775807
                                                  ·rw [if_pos c119] at H
                                                   have c119b0 := eq_true c119
                                                   have c119b1 : decide (x141007_5.size + 1 ≤ 9223372036854775807) = true := decide_eq_true c119
                                                   try have c119b2 : (9223372036854775807 < x141007_5.size + 1) = False := eq_false (Nat.not_lt.2 c119)
                                                   by_cases c120 : (x141007_5 ++ (⟨#[32]⟩ : ByteArray)).size + (rdOf ByteArray.empty y177 x175_5).size ≤ 9223372036854775807
                                                   ·rw [if_pos c120] at H
                                                    have c120b0 := eq_true c120
                                                    have c120b1 : decide ((x141007_5 ++ (⟨#[32]⟩ : ByteArray)).size + (rdOf ByteArray.empty y177 x175_5).size ≤ 9223372036854775807) = true := decide_eq_true c120
                                                    try have c120b2 : (9223372036854775807 < (x141007_5 ++ (⟨#[32]⟩ : ByteArray)).size + (rdOf ByteArray.empty y177 x175_5).size) = False := eq_false (Nat.not_lt.2 c120)
                                                    have H' := Aside0.mk H
                                                    clear H
                                                    have p181 : 0 ≤ (x175_5 : Int) := of_decide_eq_true (by first | (with_reducible assumption) | assumption)
                                                    have q181 : x175_5 < (y177.length : Int) := of_decide_eq_true (by first | (with_reducible assumption) | assumption)
                                                    obtain ⟨ad181, e181, hx181_0⟩ := Kd.at_string HR180.out x175_5 p181 q181
                                                    cases e181
                                                    replace p181 := eq_true p181
                                                    replace q181 := eq_true q181
                                                    obtain ⟨hcz121_0, hcz121_1, hcz121_2, hcz121_3, hcz121_4, hcz121_5, hcz121_6, hcz121_7, hcz121_8, hcz121_9, hcz121_10, hfz121_0, hfz121_1, hfz121_2, hfz121_3, hfz121_4, hfz121_5, hfz121_6, hfz121_7, hfz121_8, hfz121_9, hfz121_10⟩ := rows11 (w := wr) BK140
                                                    go_wp2
                                                    (try simp only [← hl12_5])
                                                    go_roundg k5
                                                    case measure => have := HK1.out; have := HK2.out; have := HJ17.out; have := HK4.out; have := HK5.out; omega
                                                    case rel => exact ⟨(wrap64 (x175_5 + 1)), ((x141007_5 ++ (⟨#[32]⟩ : ByteArray)) ++ (rdOf ByteArray.empty y177 x175_5)), (by first | rfl | (simp; done) | (simp [*]; done) | (simp [bne_nil]; done) | (simp [bne_nil, *]; done)), H', ⟨by have := HK1.out; have := HK2.out; have := HJ17.out; have := HK4.out; have := HK5.out; omega⟩, ⟨by (try simp only [hl12_4]); (try simp only [hl12_5]); (with_reducible repeat (first | apply Kd.R_alloc | apply Kd.R_drewN | apply Kd.R_drew)); exact Kd.R_mono (Kd.R_far (p := ⟨gb140, 7, none⟩) (Kd.R_far (p := ⟨gb140, 7, none⟩) (Kd.R_mono HO_5.out (fun k_ hk => (⟨hk, hk⟩ : _ ∧ k_ ≠ gb140))) (fun _ hk => hk.2) (.string (x141007_5 ++ (⟨#[32]⟩ : ByteArray)))) (fun _ hk => hk.2) (.string ((x141007_5 ++ (⟨#[32]⟩ : ByteArray)) ++ (rdOf ByteArray.empty y177 x175_5)))) (fun _ hk => hk.1)⟩, ⟨by (try simp only [hl12_4]); (try simp only [hl12_5]); (with_reducible repeat (first | apply Kd.R_alloc | apply Kd.R_drewN | apply Kd.R_drew)); exact Kd.R_mono (Kd.R_far (p := ⟨gb140, 7, none⟩) (Kd.R_far (p := ⟨gb140, 7, none⟩) (Kd.R_types HO_12.out BK140.out (by decide)) (fun _ hk => hk.2) (.string (x141007_5 ++ (⟨#[32]⟩ : ByteArray)))) (fun _ hk => hk.2) (.string ((x141007_5 ++ (⟨#[32]⟩ : ByteArray)) ++ (rdOf ByteArray.empty y177 x175_5)))) (fun _ hk => trivial)⟩, ⟨by (try simp only [hl12_4]); (try simp only [hl12_5]); (with_reducible repeat (first | apply Kd.R_alloc | apply Kd.R_drewN | apply Kd.R_drew)); exact Kd.R_mono (Kd.R_far (p := ⟨gb140, 7, none⟩) (Kd.R_far (p := ⟨gb140, 7, none⟩) (Kd.R_types HO_23.out BK140.out (by decide)) (fun _ hk => hk.2) (.string (x141007_5 ++ (⟨#[32]⟩ : ByteArray)))) (fun _ hk => hk.2) (.string ((x141007_5 ++ (⟨#[32]⟩ : ByteArray)) ++ (rdOf ByteArray.empty y177 x175_5)))) (fun _ hk => trivial)⟩, ⟨by (try simp only [hl12_4]); (try simp only [hl12_5]); (with_reducible repeat (first | apply Kd.R_alloc | apply Kd.R_drewN | apply Kd.R_drew)); exact Kd.R_mono (Kd.R_far (p := ⟨gb140, 7, none⟩) (Kd.R_far (p := ⟨gb140, 7, none⟩) (Kd.R_types HO_F.out BK140.out (by decide)) (fun _ hk => hk.2) (.string (x141007_5 ++ (⟨#[32]⟩ : ByteArray)))) (fun _ hk => hk.2) (.string ((x141007_5 ++ (⟨#[32]⟩ : ByteArray)) ++ (rdOf ByteArray.empty y177 x175_5)))) (fun _ hk => trivial)⟩, ⟨by (try simp only [hl12_4]); (try simp only [hl12_5]); refine bY ?_; refine blk_put (cs := #[.int .i64 t145, .int .i64 t149, .int .i64 t155, .int .i64 t159, .string t163, .string t167, .string (rdOf ByteArray.empty t136 5), .string (x141007_5 ++ (⟨#[32]⟩ : ByteArray)), .string (rdOf ByteArray.empty t136 (ji78)), .string t171, .string (rdOf ByteArray.empty t136 (ji81))]) ?_ 7 _ rfl; refine bY ?_; refine blk_put (cs := #[.int .i64 t145, .int .i64 t149, .int .i64 t155, .int .i64 t159, .string t163, .string t167, .string (rdOf ByteArray.empty t136 5), .string x141007_5, .string (rdOf ByteArray.empty t136 (ji78)), .string t171, .string (rdOf ByteArray.empty t136 (ji81))]) ?_ 7 _ rfl; refine bY ?_; exact BK140.out⟩, ⟨cut_seen (ad := ad144) (co := co19) (b := w.heap.size) (ok := fun _ => True) (by (try simp only [hl12_4]); (try simp only [hl12_5]); (with_reducible repeat (first | apply Kd.R_alloc | apply Kd.R_drewN | apply Kd.R_drew)); exact Kd.R_mono (Kd.R_far (p := ⟨gb140, 7, none⟩) (Kd.R_far (p := ⟨gb140, 7, none⟩) (Kd.R_types HO_F.out BK140.out (by decide)) (fun _ hk => hk.2) (.string (x141007_5 ++ (⟨#[32]⟩ : ByteArray)))) (fun _ hk => hk.2) (.string ((x141007_5 ++ (⟨#[32]⟩ : ByteArray)) ++ (rdOf ByteArray.empty y177 x175_5)))) (fun _ hk => trivial)) Ny177.out KA114.out (show (6 : Int).toNat ≤ _ from KM114.out) KL114.out⟩, ⟨by repeat (first | (with_reducible first | exact HB.out | apply below_alloc | apply pw_below_drewN | apply below_drew1 | refine below_set ?_ GE140.out) | exact HB.out)⟩⟩
                                                   ·rw [if_neg c120] at H
                                                    exact absurd H (by simp)
                                                  ·rw [if_neg c119] at H
                                                   exact absurd H (by simp)
                                                 ·rw [if_neg c118] at H
                                                  have c118b0 : decide (0 < x175_5) = false := decide_eq_false c118
                                                  clear c118
                                                  by_cases c122 : x141007_5.size + (rdOf ByteArray.empty y177 x175_5).size ≤ 9223372036854775807
                                                  ·rw [if_pos c122] at H
                                                   have c122b0 := eq_true c122
                                                   have c122b1 : decide (x141007_5.size + (rdOf ByteArray.empty y177 x175_5).size ≤ 9223372036854775807) = true := decide_eq_true c122
                                                   try have c122b2 : (9223372036854775807 < x141007_5.size + (rdOf ByteArray.empty y177 x175_5).size) = False := eq_false (Nat.not_lt.2 c122)
                                                   have H' := Aside0.mk H
                                                   clear H
                                                   have p181 : 0 ≤ (x175_5 : Int) := of_decide_eq_true (by first | (with_reducible assumption) | assumption)
                                                   have q181 : x175_5 < (y177.length : Int) := of_decide_eq_true (by first | (with_reducible assumption) | assumption)
                                                   obtain ⟨ad181, e181, hx181_0⟩ := Kd.at_string HR180.out x175_5 p181 q181
                                                   cases e181
                                                   replace p181 := eq_true p181
                                                   replace q181 := eq_true q181
                                                   obtain ⟨hcz123_0, hcz123_1, hcz123_2, hcz123_3, hcz123_4, hcz123_5, hcz123_6, hcz123_7, hcz123_8, hcz123_9, hcz123_10, hfz123_0, hfz123_1, hfz123_2, hfz123_3, hfz123_4, hfz123_5, hfz123_6, hfz123_7, hfz123_8, hfz123_9, hfz123_10⟩ := rows11 (w := wr) BK140
                                                   go_wp2
                                                   (try simp only [← hl12_5])
                                                   go_roundg k5
                                                   case measure => have := HK1.out; have := HK2.out; have := HJ17.out; have := HK4.out; have := HK5.out; omega
                                                   case rel => exact ⟨(wrap64 (x175_5 + 1)), (x141007_5 ++ (rdOf ByteArray.empty y177 x175_5)), (by first | rfl | (simp; done) | (simp [*]; done) | (simp [bne_nil]; done) | (simp [bne_nil, *]; done)), H', ⟨by have := HK1.out; have := HK2.out; have := HJ17.out; have := HK4.out; have := HK5.out; omega⟩, ⟨by (try simp only [hl12_4]); (try simp only [hl12_5]); (with_reducible repeat (first | apply Kd.R_alloc | apply Kd.R_drewN | apply Kd.R_drew)); exact Kd.R_mono (Kd.R_far (p := ⟨gb140, 7, none⟩) (Kd.R_mono HO_5.out (fun k_ hk => (⟨hk, hk⟩ : _ ∧ k_ ≠ gb140))) (fun _ hk => hk.2) (.string (x141007_5 ++ (rdOf ByteArray.empty y177 x175_5)))) (fun _ hk => hk.1)⟩, ⟨by (try simp only [hl12_4]); (try simp only [hl12_5]); (with_reducible repeat (first | apply Kd.R_alloc | apply Kd.R_drewN | apply Kd.R_drew)); exact Kd.R_mono (Kd.R_far (p := ⟨gb140, 7, none⟩) (Kd.R_types HO_12.out BK140.out (by decide)) (fun _ hk => hk.2) (.string (x141007_5 ++ (rdOf ByteArray.empty y177 x175_5)))) (fun _ hk => trivial)⟩, ⟨by (try simp only [hl12_4]); (try simp only [hl12_5]); (with_reducible repeat (first | apply Kd.R_alloc | apply Kd.R_drewN | apply Kd.R_drew)); exact Kd.R_mono (Kd.R_far (p := ⟨gb140, 7, none⟩) (Kd.R_types HO_23.out BK140.out (by decide)) (fun _ hk => hk.2) (.string (x141007_5 ++ (rdOf ByteArray.empty y177 x175_5)))) (fun _ hk => trivial)⟩, ⟨by (try simp only [hl12_4]); (try simp only [hl12_5]); (with_reducible repeat (first | apply Kd.R_alloc | apply Kd.R_drewN | apply Kd.R_drew)); exact Kd.R_mono (Kd.R_far (p := ⟨gb140, 7, none⟩) (Kd.R_types HO_F.out BK140.out (by decide)) (fun _ hk => hk.2) (.string (x141007_5 ++ (rdOf ByteArray.empty y177 x175_5)))) (fun _ hk => trivial)⟩, ⟨by (try simp only [hl12_4]); (try simp only [hl12_5]); refine bY ?_; refine blk_put (cs := #[.int .i64 t145, .int .i64 t149, .int .i64 t155, .int .i64 t159, .string t163, .string t167, .string (rdOf ByteArray.empty t136 5), .string x141007_5, .string (rdOf ByteArray.empty t136 (ji78)), .string t171, .string (rdOf ByteArray.empty t136 (ji81))]) ?_ 7 _ rfl; refine bY ?_; exact BK140.out⟩, ⟨cut_seen (ad := ad144) (co := co19) (b := w.heap.size) (ok := fun _ => True) (by (try simp only [hl12_4]); (try simp only [hl12_5]); (with_reducible repeat (first | apply Kd.R_alloc | apply Kd.R_drewN | apply Kd.R_drew)); exact Kd.R_mono (Kd.R_far (p := ⟨gb140, 7, none⟩) (Kd.R_types HO_F.out BK140.out (by decide)) (fun _ hk => hk.2) (.string (x141007_5 ++ (rdOf ByteArray.empty y177 x175_5)))) (fun _ hk => trivial)) Ny177.out KA114.out (show (6 : Int).toNat ≤ _ from KM114.out) KL114.out⟩, ⟨by repeat (first | (with_reducible first | exact HB.out | apply below_alloc | apply pw_below_drewN | apply below_drew1 | refine below_set ?_ GE140.out) | exact HB.out)⟩⟩
                                                  ·rw [if_neg c122] at H
                                                   exact absurd H (by simp)
                                                ·rw [if_neg c117] at H
                                                 exact absurd H (by simp)
                                               ·rw [if_neg c116] at H
                                                exact absurd H (by simp)
                                              ·rw [if_neg c115] at H
                                               have c115b0 : decide (x175_5 < (y177.length : Int)) = false := decide_eq_false c115
                                               clear c115
                                               have H' := Aside0.mk H
                                               clear H
                                               go_wp2
                                               go_loopg [194] k5 (fun kq v194 w' => ∃ (x194_6 : Int), v194 = .int .i64 x194_6 ∧ Aside0 (spec_MountsRead.l4 kq x5_1 t132 (t132.length : Int) x25_1 y173 (y173.length : Int) x194_6 t145 t149 t155 t159 t163 t167 (rdOf ByteArray.empty t136 5) x141007_5 (rdOf ByteArray.empty t136 (ji78)) t171 (rdOf ByteArray.empty t136 (ji81)) = some (r1, r2, r3)) ∧ Aside0 (kq ≤ k5) ∧ Aside0 (Kd.R k62 62 w' w.heap.size (fun k_ => k_ ≠ gb140) u5 x5_1) ∧ Aside0 (Kd.R Kd.string 9 w' w.heap.size (fun _ => True) (.slice (some ad135) t132.length co5) t132) ∧ Aside0 (Kd.R Kd.bool 4 w' w.heap.size (fun _ => True) (.slice (some ⟨go26, 0, none⟩) y173.length co26) y173) ∧ Aside0 (w'.heap[gb140]? = some (.cells #[.int .i64 t145, .int .i64 t149, .int .i64 t155, .int .i64 t159, .string t163, .string t167, .string (rdOf ByteArray.empty t136 5), .string x141007_5, .string (rdOf ByteArray.empty t136 (ji78)), .string t171, .string (rdOf ByteArray.empty t136 (ji81))] 62 (0, 0))) ∧ Aside0 (Kd.C Kd.string w' A114 y177.length y177) ∧ Aside0 (Below w.heap.size w w'))
                                               case atStart => exact ⟨(0), (by first | rfl | (simp; done) | (simp [*]; done) | (simp [bne_nil]; done) | (simp [bne_nil, *]; done)), H', ⟨Nat.le_refl _⟩, ⟨by (try simp only [hl12_4]); (try simp only [hl12_5]); (with_reducible repeat (first | apply Kd.R_alloc | apply Kd.R_drewN | apply Kd.R_drew)); exact HO_5.out⟩, ⟨by (try simp only [hl12_4]); (try simp only [hl12_5]); (with_reducible repeat (first | apply Kd.R_alloc | apply Kd.R_drewN | apply Kd.R_drew)); exact HO_23.out⟩, ⟨by (try simp only [hl12_4]); (try simp only [hl12_5]); (with_reducible repeat (first | apply Kd.R_alloc | apply Kd.R_drewN | apply Kd.R_drew)); exact HO_12.out⟩, ⟨by (try simp only [hl12_4]); (try simp only [hl12_5]); refine bY ?_; exact BK140.out⟩, ⟨by repeat (first | (with_reducible exact HR180.out) | (with_reducible refine Kd.C_alloc ?_ _) | (with_reducible refine Kd.C_drewN ?_ _) | (with_reducible refine Kd.C_drew ?_) | exact HR180.out)⟩, ⟨by repeat (first | (with_reducible first | exact HB.out | apply below_alloc | apply pw_below_drewN | apply below_drew1 | refine below_set ?_ GE140.out) | exact HB.out)⟩⟩
                                               case round =>
                                                clear H'
                                                try clear c1
                                                try clear p1
                                                try clear q1
                                                try clear hx1
                                                try clear qi1
                                                try clear c2
                                                try clear p2
                                                try clear q2
                                                try clear hx2
                                                try clear c3
                                                try clear p3
                                                try clear q3
                                                try clear hx3
                                                try clear c4
                                                try clear p4
                                                try clear q4
                                                try clear hx4
                                                try clear c5
                                                try clear p5
                                                try clear q5
                                                try clear hx5
                                                try clear qi5
                                                try clear hf5
                                                try clear c6
                                                try clear p6
                                                try clear q6
                                                try clear hx6
                                                try clear qi6
                                                try clear hf6
                                                try clear c7
                                                try clear p7
                                                try clear q7
                                                try clear hx7
                                                try clear qi7
                                                try clear hf7
                                                try clear c8
                                                try clear c11
                                                try clear q11
                                                try clear c12
                                                try clear p13
                                                try clear q13
                                                try clear hx13
                                                try clear p14
                                                try clear q14
                                                try clear hx14
                                                try clear p15
                                                try clear q15
                                                try clear hx15
                                                try clear qi15
                                                try clear p16
                                                try clear q16
                                                try clear hx16
                                                try clear qi16
                                                try clear p17
                                                try clear q17
                                                try clear hx17
                                                try clear qi17
                                                try clear p18
                                                try clear q18
                                                try clear hx18
                                                try clear p26
                                                try clear q26
                                                try clear hx26
                                                try clear c29
                                                try clear c30
                                                try clear p30
                                                try clear q30
                                                try clear hx30
                                                try clear c43
                                                try clear c43b0
                                                try clear c44
                                                try clear c44b0
                                                try clear c44b1
                                                try clear c45
                                                try clear c45b0
                                                try clear c46
                                                try clear c46b0
                                                try clear p47
                                                try clear q47
                                                try clear hx47
                                                try clear c48
                                                try clear c48b0
                                                try clear c48b1
                                                try clear c49
                                                try clear c49b0
                                                try clear c50
                                                try clear c50b0
                                                try clear c51
                                                try clear c51b0
                                                try clear c51b1
                                                try clear c52
                                                try clear c52b0
                                                try clear c52b1
                                                try clear c53
                                                try clear c53b0
                                                try clear c53b1
                                                try clear c55
                                                try clear c55b0
                                                try clear c55b1
                                                try clear p56
                                                try clear q56
                                                try clear hx56
                                                try clear qi56
                                                try clear hf56
                                                try clear c58
                                                try clear c58b0
                                                try clear c58b1
                                                try clear c59
                                                try clear c59b0
                                                try clear c59b1
                                                try clear c61
                                                try clear c61b0
                                                try clear c61b1
                                                try clear p62
                                                try clear q62
                                                try clear hx62
                                                try clear qi62
                                                try clear hf62
                                                try clear c63
                                                try clear c63b0
                                                try clear c63b1
                                                try clear p64
                                                try clear c65
                                                try clear c65b0
                                                try clear c65b1
                                                try clear p66
                                                try clear q66
                                                try clear hx66
                                                try clear qi66
                                                try clear hf66
                                                try clear c67
                                                try clear c67b0
                                                try clear c67b1
                                                try clear c69
                                                try clear c69b0
                                                try clear c69b1
                                                try clear p70
                                                try clear q70
                                                try clear hx70
                                                try clear qi70
                                                try clear hf70
                                                try clear c72
                                                try clear c72b0
                                                try clear c73
                                                try clear c73b0
                                                try clear c75
                                                try clear c75b0
                                                try clear c75b1
                                                try clear p76
                                                try clear q76
                                                try clear hx76
                                                try clear qi76
                                                try clear hf76
                                                try clear c77
                                                try clear c77b0
                                                try clear c77b1
                                                try clear c79
                                                try clear c79b0
                                                try clear c80
                                                try clear c80b0
                                                try clear c82
                                                try clear c82b0
                                                try clear c83
                                                try clear c83b0
                                                try clear c84
                                                try clear c84b0
                                                try clear c84b1
                                                try clear c85
                                                try clear c85b0
                                                try clear c85b1
                                                try clear c114
                                                try clear q114
                                                try clear c115
                                                try clear c115b0
                                                try clear c116
                                                try clear c116b0
                                                try clear c117
                                                try clear c117b0
                                                try clear c118
                                                try clear c118b0
                                                try clear c119
                                                try clear c119b0
                                                try clear c119b1
                                                try clear c119b2
                                                try clear c120
                                                try clear c120b0
                                                try clear c120b1
                                                try clear c120b2
                                                try clear c122
                                                try clear c122b0
                                                try clear c122b1
                                                try clear c122b2
                                                try clear hcz100_0
                                                try clear hcz100_1
                                                try clear hcz100_10
                                                try clear hcz100_2
                                                try clear hcz100_3
                                                try clear hcz100_4
                                                try clear hcz100_5
                                                try clear hcz100_6
                                                try clear hcz100_7
                                                try clear hcz100_8
                                                try clear hcz100_9
                                                try clear hcz105_0
                                                try clear hcz105_1
                                                try clear hcz105_10
                                                try clear hcz105_2
                                                try clear hcz105_3
                                                try clear hcz105_4
                                                try clear hcz105_5
                                                try clear hcz105_6
                                                try clear hcz105_7
                                                try clear hcz105_8
                                                try clear hcz105_9
                                                try clear hcz121_0
                                                try clear hcz121_1
                                                try clear hcz121_10
                                                try clear hcz121_2
                                                try clear hcz121_3
                                                try clear hcz121_4
                                                try clear hcz121_5
                                                try clear hcz121_6
                                                try clear hcz121_7
                                                try clear hcz121_8
                                                try clear hcz121_9
                                                try clear hcz123_0
                                                try clear hcz123_1
                                                try clear hcz123_10
                                                try clear hcz123_2
                                                try clear hcz123_3
                                                try clear hcz123_4
                                                try clear hcz123_5
                                                try clear hcz123_6
                                                try clear hcz123_7
                                                try clear hcz123_8
                                                try clear hcz123_9
                                                try clear hcz86_0
                                                try clear hcz86_1
                                                try clear hcz86_10
                                                try clear hcz86_2
                                                try clear hcz86_3
                                                try clear hcz86_4
                                                try clear hcz86_5
                                                try clear hcz86_6
                                                try clear hcz86_7
                                                try clear hcz86_8
                                                try clear hcz86_9
                                                try clear hcz90_0
                                                try clear hcz90_1
                                                try clear hcz90_10
                                                try clear hcz90_2
                                                try clear hcz90_3
                                                try clear hcz90_4
                                                try clear hcz90_5
                                                try clear hcz90_6
                                                try clear hcz90_7
                                                try clear hcz90_8
                                                try clear hcz90_9
                                                try clear hcz95_0
                                                try clear hcz95_1
                                                try clear hcz95_10
                                                try clear hcz95_2
                                                try clear hcz95_3
                                                try clear hcz95_4
                                                try clear hcz95_5
                                                try clear hcz95_6
                                                try clear hcz95_7
                                                try clear hcz95_8
                                                try clear hcz95_9
                                                try clear hfz100_0
                                                try clear hfz100_1
                                                try clear hfz100_10
                                                try clear hfz100_2
                                                try clear hfz100_3
                                                try clear hfz100_4
                                                try clear hfz100_5
                                                try clear hfz100_6
                                                try clear hfz100_7
                                                try clear hfz100_8
                                                try clear hfz100_9
                                                try clear hfz105_0
                                                try clear hfz105_1
                                                try clear hfz105_10
                                                try clear hfz105_2
                                                try clear hfz105_3
                                                try clear hfz105_4
                                                try clear hfz105_5
                                                try clear hfz105_6
                                                try clear hfz105_7
                                                try clear hfz105_8
                                                try clear hfz105_9
                                                try clear hfz121_0
                                                try clear hfz121_1
                                                try clear hfz121_10
                                                try clear hfz121_2
                                                try clear hfz121_3
                                                try clear hfz121_4
                                                try clear hfz121_5
                                                try clear hfz121_6
                                                try clear hfz121_7
                                                try clear hfz121_8
                                                try clear hfz121_9
                                                try clear hfz123_0
                                                try clear hfz123_1
                                                try clear hfz123_10
                                                try clear hfz123_2
                                                try clear hfz123_3
                                                try clear hfz123_4
                                                try clear hfz123_5
                                                try clear hfz123_6
                                                try clear hfz123_7
                                                try clear hfz123_8
                                                try clear hfz123_9
                                                try clear hfz39_0
                                                try clear hfz39_1
                                                try clear hfz39_10
                                                try clear hfz39_2
                                                try clear hfz39_3
                                                try clear hfz39_4
                                                try clear hfz39_5
                                                try clear hfz39_6
                                                try clear hfz39_7
                                                try clear hfz39_8
                                                try clear hfz39_9
                                                try clear hfz86_0
                                                try clear hfz86_1
                                                try clear hfz86_10
                                                try clear hfz86_2
                                                try clear hfz86_3
                                                try clear hfz86_4
                                                try clear hfz86_5
                                                try clear hfz86_6
                                                try clear hfz86_7
                                                try clear hfz86_8
                                                try clear hfz86_9
                                                try clear hfz90_0
                                                try clear hfz90_1
                                                try clear hfz90_10
                                                try clear hfz90_2
                                                try clear hfz90_3
                                                try clear hfz90_4
                                                try clear hfz90_5
                                                try clear hfz90_6
                                                try clear hfz90_7
                                                try clear hfz90_8
                                                try clear hfz90_9
                                                try clear hfz95_0
                                                try clear hfz95_1
                                                try clear hfz95_10
                                                try clear hfz95_2
                                                try clear hfz95_3
                                                try clear hfz95_4
                                                try clear hfz95_5
                                                try clear hfz95_6
                                                try clear hfz95_7
                                                try clear hfz95_8
                                                try clear hfz95_9
                                                try clear hx135_0
                                                try clear hx139_0
                                                try clear hx144_0
                                                try clear hx148_0
                                                try clear hx152_0
                                                try clear hx153_0
                                                try clear hx154_0
                                                try clear hx158_0
                                                try clear hx162_0
                                                try clear hx166_0
                                                try clear hx170_0
                                                try clear hx174_0
                                                try clear hx175_0
                                                try clear hx176_0
                                                try clear hx181_0
                                                try clear hx26_0
                                                try clear hx30_0
                                                try clear hx56_0
                                                try clear hx62_0
                                                try clear hx66_0
                                                try clear hx70_0
                                                try clear hx76_0
                                                try clear p1
                                                try clear p13
                                                try clear p135
                                                try clear p139
                                                try clear p14
                                                try clear p144
                                                try clear p148
                                                try clear p15
                                                try clear p152
                                                try clear p153
                                                try clear p154
                                                try clear p158
                                                try clear p16
                                                try clear p162
                                                try clear p166
                                                try clear p17
                                                try clear p170
                                                try clear p174
                                                try clear p175
                                                try clear p176
                                                try clear p181
                                                try clear p2
                                                try clear p26
                                                try clear p3
                                                try clear p30
                                                try clear p4
                                                try clear p47
                                                try clear p5
                                                try clear p56
                                                try clear p6
                                                try clear p62
                                                try clear p64
                                                try clear p66
                                                try clear p7
                                                try clear p70
                                                try clear p76
                                                try clear q1
                                                try clear q11
                                                try clear q114
                                                try clear q13
                                                try clear q135
                                                try clear q139
                                                try clear q14
                                                try clear q144
                                                try clear q148
                                                try clear q15
                                                try clear q152
                                                try clear q153
                                                try clear q154
                                                try clear q158
                                                try clear q16
                                                try clear q162
                                                try clear q166
                                                try clear q17
                                                try clear q170
                                                try clear q174
                                                try clear q175
                                                try clear q176
                                                try clear q181
                                                try clear q2
                                                try clear q26
                                                try clear q3
                                                try clear q30
                                                try clear q4
                                                try clear q47
                                                try clear q5
                                                try clear q56
                                                try clear q6
                                                try clear q62
                                                try clear q66
                                                try clear q7
                                                try clear q70
                                                try clear q76
                                                obtain ⟨x194_6, rfl, HA, HK6, HO_5, HO_23, HO_192, BK140, HR180, HB⟩ := hrel
                                                cases gk with
                                                | zero => exact absurd HA.out (by simp [spec_MountsRead.l4])
                                                | succ k6 =>
                                                 have H := HA.out
                                                 clear HA
                                                 simp only [spec_MountsRead.l4] at H
                                                 by_cases c124 : x194_6 < (y173.length : Int)
                                                 ·rw [if_pos c124] at H
                                                  have c124b0 : decide (x194_6 < (y173.length : Int)) = true := decide_eq_true c124
                                                  clear c124
                                                  by_cases c125 : 0 ≤ x194_6
                                                  ·rw [if_pos c125] at H
                                                   have c125b0 : decide (0 ≤ x194_6) = true := decide_eq_true c125
                                                   clear c125
                                                   by_cases c126 : x194_6 < (y173.length : Int)
                                                   ·rw [if_pos c126] at H
                                                    have c126b0 : decide (x194_6 < (y173.length : Int)) = true := decide_eq_true c126
                                                    clear c126
                                                    obtain ⟨bq127, hbq127⟩ : ∃ b_ : Bool, b_ = (rdOf false y173 x194_6) := ⟨_, rfl⟩
                                                    replace H : (if bq127 = true then (spec_MountsRead.l4 k6 x5_1 t132 (t132.length : Int) x25_1 y173 (y173.length : Int) (wrap64 (x194_6 + 1)) t145 t149 t155 t159 t163 t167 (rdOf ByteArray.empty t136 5) x141007_5 (rdOf ByteArray.empty t136 (ji78)) t171 (rdOf ByteArray.empty t136 (ji81))) else (some (([] : List (S62)), false, 2))) = some (r1, r2, r3) := by rw [← hbq127] at H; exact H
                                                    have Nbq127 := Aside0.mk hbq127
                                                    clear hbq127
                                                    by_cases c128 : bq127 = true
                                                    ·subst c128
                                                     have H1 : (spec_MountsRead.l4 k6 x5_1 t132 (t132.length : Int) x25_1 y173 (y173.length : Int) (wrap64 (x194_6 + 1)) t145 t149 t155 t159 t163 t167 (rdOf ByteArray.empty t136 5) x141007_5 (rdOf ByteArray.empty t136 (ji78)) t171 (rdOf ByteArray.empty t136 (ji81))) = some (r1, r2, r3) := by rw [if_pos rfl] at H; exact H
                                                     clear H
                                                     have H := H1
                                                     clear H1
                                                     have H' := Aside0.mk H
                                                     clear H
                                                     have p182 : 0 ≤ (x194_6 : Int) := of_decide_eq_true (by first | (with_reducible assumption) | assumption)
                                                     have q182 : x194_6 < (y173.length : Int) := of_decide_eq_true (by first | (with_reducible assumption) | assumption)
                                                     obtain ⟨ad182, e182, hx182_0⟩ := Kd.at_bool (Kd.R_reads' HO_192.out).2.2 x194_6 p182 q182
                                                     (try rw [← Nbq127.out] at hx182_0)
                                                     obtain rfl : (⟨go26, 0, none⟩ : Addr) = ad182 := (by injection e182)
                                                     (first | simp only [add_plain] at hx182_0 | simp only [add_at] at hx182_0 | simp only [Addr.add, Nat.zero_add] at hx182_0 | skip)
                                                     replace p182 := eq_true p182
                                                     replace q182 := eq_true q182
                                                     go_wp2
                                                     go_roundg k6
                                                     case measure => have := HK1.out; have := HK2.out; have := HJ17.out; have := HK4.out; have := HK5.out; have := HK6.out; omega
                                                     case rel => exact ⟨(wrap64 (x194_6 + 1)), (by first | rfl | (simp; done) | (simp [*]; done) | (simp [bne_nil]; done) | (simp [bne_nil, *]; done)), H', ⟨by have := HK1.out; have := HK2.out; have := HJ17.out; have := HK4.out; have := HK5.out; have := HK6.out; omega⟩, ⟨by (try simp only [hl12_4]); (try simp only [hl12_5]); (with_reducible repeat (first | apply Kd.R_alloc | apply Kd.R_drewN | apply Kd.R_drew)); exact HO_5.out⟩, ⟨by (try simp only [hl12_4]); (try simp only [hl12_5]); (with_reducible repeat (first | apply Kd.R_alloc | apply Kd.R_drewN | apply Kd.R_drew)); exact HO_23.out⟩, ⟨by (try simp only [hl12_4]); (try simp only [hl12_5]); (with_reducible repeat (first | apply Kd.R_alloc | apply Kd.R_drewN | apply Kd.R_drew)); exact HO_192.out⟩, ⟨by (try simp only [hl12_4]); (try simp only [hl12_5]); refine bY ?_; exact BK140.out⟩, ⟨by repeat (first | (with_reducible exact HR180.out) | (with_reducible refine Kd.C_alloc ?_ _) | (with_reducible refine Kd.C_drewN ?_ _) | (with_reducible refine Kd.C_drew ?_) | exact HR180.out)⟩, ⟨by repeat (first | (with_reducible first | exact HB.out | apply below_alloc | apply pw_below_drewN | apply below_drew1 | refine below_set ?_ GE140.out) | exact HB.out)⟩⟩
                                                    ·replace c128 := Bool.eq_false_iff.mpr c128
                                                     subst c128
                                                     have H1 : (some (([] : List (S62)), false, 2)) = some (r1, r2, r3) := by rw [if_neg (show ¬ (false = true) by decide)] at H; exact H
                                                     clear H
                                                     have H := H1
                                                     clear H1
                                                     simp only [Option.some.injEq, Prod.mk.injEq] at H
                                                     obtain ⟨rfl, rfl, rfl⟩ := H
                                                     have p182 : 0 ≤ (x194_6 : Int) := of_decide_eq_true (by first | (with_reducible assumption) | assumption)
                                                     have q182 : x194_6 < (y173.length : Int) := of_decide_eq_true (by first | (with_reducible assumption) | assumption)
                                                     obtain ⟨ad182, e182, hx182_0⟩ := Kd.at_bool (Kd.R_reads' HO_192.out).2.2 x194_6 p182 q182
                                                     (try rw [← Nbq127.out] at hx182_0)
                                                     obtain rfl : (⟨go26, 0, none⟩ : Addr) = ad182 := (by injection e182)
                                                     (first | simp only [add_plain] at hx182_0 | simp only [add_at] at hx182_0 | simp only [Addr.add, Nat.zero_add] at hx182_0 | skip)
                                                     replace p182 := eq_true p182
                                                     replace q182 := eq_true q182
                                                     go_wp2
                                                     go_ret3
                                                     exact ⟨_, by first | rfl | (simp [errW_none, errW_some] <;> rfl) | (simp only [← hji57, ← hji71, ← hji78, ← hji81]; first | rfl | (simp [errW_none, errW_some] <;> rfl)) | (simp [*, errW_none, errW_some] <;> rfl), by first | exact Kd.R_nil _ _ _ _ _ | exact Kd.N_nil _ _ _ _ _ | exact Kd.V_nil _ _ _ _ _ | exact Kd.Q_nil _ _ _ _ _ | exact Kd.S_nil _ _ _ _ _, by repeat (first | (with_reducible first | exact HB.out | apply below_alloc | apply pw_below_drewN | apply below_drew1 | refine below_set ?_ GE140.out) | exact HB.out)⟩
                                                   ·rw [if_neg c126] at H
                                                    exact absurd H (by simp)
                                                  ·rw [if_neg c125] at H
                                                   exact absurd H (by simp)
                                                 ·rw [if_neg c124] at H
                                                  have c124b0 : decide (x194_6 < (y173.length : Int)) = false := decide_eq_false c124
                                                  clear c124
                                                  replace H := Option.bind_eq_some_iff.mp H
                                                  obtain ⟨t183, A1290, H⟩ := H
                                                  have A129 := Aside0.mk A1290
                                                  clear A1290
                                                  by_cases c130 : t183 = true
                                                  ·subst c130
                                                   have H1 : (if x5_1.length < 977343669134 then (spec_MountsRead.l0 k6 (x5_1 ++ [(⟨t145, t149, t155, t159, t163, t167, (rdOf ByteArray.empty t136 5), x141007_5, (rdOf ByteArray.empty t136 (ji78)), t171, (rdOf ByteArray.empty t136 (ji81))⟩ : S62)]) t132 (t132.length : Int) (wrap64 (x25_1 + 1))) else (none)) = some (r1, r2, r3) := by rw [if_pos rfl] at H; exact H
                                                   clear H
                                                   have H := H1
                                                   clear H1
                                                   by_cases c131 : x5_1.length < 977343669134
                                                   ·rw [if_pos c131] at H
                                                    have LMc131 := Aside0.mk c131
                                                    clear c131
                                                    obtain ⟨y184, hy184⟩ : ∃ y_ : List (S62), y_ = (x5_1 ++ [(⟨t145, t149, t155, t159, t163, t167, (rdOf ByteArray.empty t136 5), x141007_5, (rdOf ByteArray.empty t136 (ji78)), t171, (rdOf ByteArray.empty t136 (ji81))⟩ : S62)]) := ⟨_, rfl⟩
                                                    replace H : (spec_MountsRead.l0 k6 y184 t132 (t132.length : Int) (wrap64 (x25_1 + 1))) = some (r1, r2, r3) := by first | (rw [hy184]; with_reducible exact H) | (have H2_ := (Option.bind_some _ _).symm.trans H; rw [hy184]; with_reducible exact H2_) | (have H2_ := (Option.bind_some _ _).symm.trans H; with_reducible exact H2_) | with_reducible exact H | (rw [hy184]; exact H) | exact H
                                                    have Ny184 := Aside0.mk hy184
                                                    clear hy184
                                                    have H' := Aside0.mk H
                                                    clear H
                                                    obtain ⟨hcz132_0, hcz132_1, hcz132_2, hcz132_3, hcz132_4, hcz132_5, hcz132_6, hcz132_7, hcz132_8, hcz132_9, hcz132_10, hfz132_0, hfz132_1, hfz132_2, hfz132_3, hfz132_4, hfz132_5, hfz132_6, hfz132_7, hfz132_8, hfz132_9, hfz132_10⟩ := rows11 (w := wr) BK140
                                                    go_wp2_with (first | ((with_reducible refine gate_callee (f := 31) rfl ?_); refine goesL_ (some 202) rfl rfl Tryd.func31 (by kernel_rfl) rfl #[.agg #[.int .i64 t145, .int .i64 t149, .int .i64 t155, .int .i64 t159, .string t163, .string t167, .string (rdOf ByteArray.empty t136 5), .string x141007_5, .string (rdOf ByteArray.empty t136 (ji78)), .string t171, .string (rdOf ByteArray.empty t136 (ji81))]] rfl (by (try simp only [List.map_toArray, List.map_cons, List.map_nil]); first | done | (simp only [hji78, hji81]; rfl) | rfl | (simp only [List.length_drop, List.length_take]; rfl)) ?_; (with_reducible refine (spec_mountValid.calls k6 t145 t149 t155 t159 t163 t167 (rdOf ByteArray.empty t136 5) x141007_5 (rdOf ByteArray.empty t136 (ji78)) t171 (rdOf ByteArray.empty t136 (ji81)) true _ A129.out).mono ?_); rintro e w133 ⟨rfl, hb⟩; refine ⟨_, rfl, ?_⟩; have n0_ := Aside0.mk (Kd.R_below (by (with_reducible repeat (first | apply Kd.R_alloc | apply Kd.R_drewN | apply Kd.R_drew)); exact HO_5.out) hb); have n1_ := Aside0.mk (Kd.R_below (by (with_reducible repeat (first | apply Kd.R_alloc | apply Kd.R_drewN | apply Kd.R_drew)); exact HO_23.out) hb); have n2_ := Aside0.mk (Kd.R_below (by (with_reducible repeat (first | apply Kd.R_alloc | apply Kd.R_drewN | apply Kd.R_drew)); exact HO_192.out) hb); have n3_ := Aside0.mk (blk_below (g := gb140) (o := .cells #[.int .i64 t145, .int .i64 t149, .int .i64 t155, .int .i64 t159, .string t163, .string t167, .string (rdOf ByteArray.empty t136 5), .string x141007_5, .string (rdOf ByteArray.empty t136 (ji78)), .string t171, .string (rdOf ByteArray.empty t136 (ji81))] 62 (0, 0)) (by refine bY ?_; exact BK140.out) hb); have n4_ := Aside0.mk (Kd.C_below (by repeat (first | (with_reducible exact HR180.out) | (with_reducible refine Kd.C_alloc ?_ _) | (with_reducible refine Kd.C_drewN ?_ _) | (with_reducible refine Kd.C_drew ?_) | exact HR180.out)) hb); have n5_ := Aside0.mk (below_step belS hb); clear HO_5; clear HO_23; clear HO_192; clear BK140; clear HR180; clear HB; have HO_5 := n0_; have HO_23 := n1_; have HO_192 := n2_; have BK140 := n3_; have HR180 := n4_; have HB := n5_; clear n0_ n1_ n2_ n3_ n4_ n5_; (try clear hb); (try clear hb2); (try clear hk); (try clear hi); obtain ⟨hcz134_0, hcz134_1, hcz134_2, hcz134_3, hcz134_4, hcz134_5, hcz134_6, hcz134_7, hcz134_8, hcz134_9, hcz134_10, hfz134_0, hfz134_1, hfz134_2, hfz134_3, hfz134_4, hfz134_5, hfz134_6, hfz134_7, hfz134_8, hfz134_9, hfz134_10⟩ := rows11 (w := w133) BK140) | ((with_reducible refine gate_builtin (b := .append) (xs := #[.tmp 204, .tmp 206]) rfl ?_); (try (refine gate_guard (by rfl) ?_; dsimp only)); at_builtin; refine Kd.R_append k62 (w0 := w) w.heap.size rfl (.tmp 204) (.tmp 206) 40 62 (.agg #[(.int .i64 0), (.int .i64 0), (.int .i64 0), (.int .i64 0), (.string ⟨#[]⟩), (.string ⟨#[]⟩), (.string ⟨#[]⟩), (.string ⟨#[]⟩), (.string ⟨#[]⟩), (.string ⟨#[]⟩), (.string ⟨#[]⟩)]) 144 rfl Tryd.underlying40 info62 rfl (by decide) (by omega) u5 x5_1 (⟨t145, t149, t155, t159, t163, t167, (rdOf ByteArray.empty t136 5), x141007_5, (rdOf ByteArray.empty t136 (ji78)), t171, (rdOf ByteArray.empty t136 (ji81))⟩ : S62) [.int .i64 t145, .int .i64 t149, .int .i64 t155, .int .i64 t159, .string t163, .string t167, .string (rdOf ByteArray.empty t136 5), .string x141007_5, .string (rdOf ByteArray.empty t136 (ji78)), .string t171, .string (rdOf ByteArray.empty t136 (ji81))] (fun k_ => k_ ≠ gb140) (fun _ => False) rfl rfl ?aP (fun _ hk => hk.elim) ?aF ?aO ?aB ?aS ?aL ?_; (case aP => exact k62_mkM _ _ _ (⟨t145, t149, t155, t159, t163, t167, (rdOf ByteArray.empty t136 5), x141007_5, (rdOf ByteArray.empty t136 (ji78)), t171, (rdOf ByteArray.empty t136 (ji81))⟩ : S62)); (case aB => exact belS); (case aF => exact (fun k_ hk => Kd.freshB (g := gb140) (o := .cells #[.int .i64 t145, .int .i64 t149, .int .i64 t155, .int .i64 t159, .string t163, .string t167, .string (rdOf ByteArray.empty t136 5), .string x141007_5, .string (rdOf ByteArray.empty t136 (ji78)), .string t171, .string (rdOf ByteArray.empty t136 (ji81))] 62 (0, 0)) (by refine bY ?_; exact BK140.out) k_ hk)); (case aO => exact (by (with_reducible repeat (first | apply Kd.R_alloc | apply Kd.R_drewN | apply Kd.R_drew)); exact HO_5.out)); (case aS => exact (below_size belS)); (case aL => have := LMc131.out; omega); intro v185 w135 ho hb hg hat; rw [← Ny184.out] at ho; have n0_ := Aside0.mk (Kd.R_over' (by (with_reducible repeat (first | apply Kd.R_alloc | apply Kd.R_drewN | apply Kd.R_drew)); exact HO_23.out) (Kd.R_typed (by (with_reducible repeat (first | apply Kd.R_alloc | apply Kd.R_drewN | apply Kd.R_drew)); exact HO_5.out)) (by decide) hg); have n1_ := Aside0.mk (Kd.R_over' (by (with_reducible repeat (first | apply Kd.R_alloc | apply Kd.R_drewN | apply Kd.R_drew)); exact HO_192.out) (Kd.R_typed (by (with_reducible repeat (first | apply Kd.R_alloc | apply Kd.R_drewN | apply Kd.R_drew)); exact HO_5.out)) (by decide) hg); have n2_ := Aside0.mk (blk_grown (g := gb140) (o := .cells #[.int .i64 t145, .int .i64 t149, .int .i64 t155, .int .i64 t159, .string t163, .string t167, .string (rdOf ByteArray.empty t136 5), .string x141007_5, .string (rdOf ByteArray.empty t136 (ji78)), .string t171, .string (rdOf ByteArray.empty t136 (ji81))] 62 (0, 0)) (by refine bY ?_; exact BK140.out) hg (Kd.R_away HO_5.out (fun _ hk => hk))); have n3_ := Aside0.mk (hb); have n4_ := Aside0.mk (ho); clear HO_23; clear HO_192; clear BK140; clear HB; clear HO_5; have HO_23 := n0_; have HO_192 := n1_; have BK140 := n2_; have HB := n3_; have HO186 := n4_; clear n0_ n1_ n2_ n3_ n4_; clear ho hb hg hat))
                                                    (try simp only [← hl12_4, ← hl12_5])
                                                    go_roundg k6
                                                    case measure => have := HK1.out; have := HK2.out; have := HJ17.out; have := HK4.out; have := HK5.out; have := HK6.out; omega
                                                    case rel => exact ⟨(y184), (wrap64 (x25_1 + 1)), (by first | rfl | (simp; done) | (simp [*]; done) | (simp [bne_nil]; done) | (simp [bne_nil, *]; done)), H', ⟨by have := HK1.out; have := HK2.out; have := HJ17.out; have := HK4.out; have := HK5.out; have := HK6.out; omega⟩, ⟨by (try simp only [hl12_4]); (try simp only [hl12_5]); (with_reducible repeat (first | apply Kd.R_alloc | apply Kd.R_drewN | apply Kd.R_drew)); exact Kd.R_mono HO186.out (fun _ hk => trivial)⟩, ⟨by (try simp only [hl12_4]); (try simp only [hl12_5]); (with_reducible repeat (first | apply Kd.R_alloc | apply Kd.R_drewN | apply Kd.R_drew)); exact HO_23.out⟩, ⟨by repeat (first | (with_reducible first | exact HB.out | apply below_alloc | apply pw_below_drewN | apply below_drew1 | refine below_set ?_ GE140.out) | exact HB.out)⟩⟩
                                                   ·rw [if_neg c131] at H
                                                    exact absurd H (by simp)
                                                  ·replace c130 := Bool.eq_false_iff.mpr c130
                                                   subst c130
                                                   have H1 : (some (([] : List (S62)), false, 2)) = some (r1, r2, r3) := by rw [if_neg (show ¬ (false = true) by decide)] at H; exact H
                                                   clear H
                                                   have H := H1
                                                   clear H1
                                                   simp only [Option.some.injEq, Prod.mk.injEq] at H
                                                   obtain ⟨rfl, rfl, rfl⟩ := H
                                                   obtain ⟨hcz136_0, hcz136_1, hcz136_2, hcz136_3, hcz136_4, hcz136_5, hcz136_6, hcz136_7, hcz136_8, hcz136_9, hcz136_10, hfz136_0, hfz136_1, hfz136_2, hfz136_3, hfz136_4, hfz136_5, hfz136_6, hfz136_7, hfz136_8, hfz136_9, hfz136_10⟩ := rows11 (w := wr) BK140
                                                   go_wp2_with (first | ((with_reducible refine gate_callee (f := 31) rfl ?_); refine goesL_ (some 202) rfl rfl Tryd.func31 (by kernel_rfl) rfl #[.agg #[.int .i64 t145, .int .i64 t149, .int .i64 t155, .int .i64 t159, .string t163, .string t167, .string (rdOf ByteArray.empty t136 5), .string x141007_5, .string (rdOf ByteArray.empty t136 (ji78)), .string t171, .string (rdOf ByteArray.empty t136 (ji81))]] rfl (by (try simp only [List.map_toArray, List.map_cons, List.map_nil]); first | done | (simp only [hji78, hji81]; rfl) | rfl | (simp only [List.length_drop, List.length_take]; rfl)) ?_; (with_reducible refine (spec_mountValid.calls k6 t145 t149 t155 t159 t163 t167 (rdOf ByteArray.empty t136 5) x141007_5 (rdOf ByteArray.empty t136 (ji78)) t171 (rdOf ByteArray.empty t136 (ji81)) false _ A129.out).mono ?_); rintro e w137 ⟨rfl, hb⟩; refine ⟨_, rfl, ?_⟩; have n0_ := Aside0.mk (Kd.R_below (by (with_reducible repeat (first | apply Kd.R_alloc | apply Kd.R_drewN | apply Kd.R_drew)); exact HO_5.out) hb); have n1_ := Aside0.mk (Kd.R_below (by (with_reducible repeat (first | apply Kd.R_alloc | apply Kd.R_drewN | apply Kd.R_drew)); exact HO_23.out) hb); have n2_ := Aside0.mk (Kd.R_below (by (with_reducible repeat (first | apply Kd.R_alloc | apply Kd.R_drewN | apply Kd.R_drew)); exact HO_192.out) hb); have n3_ := Aside0.mk (blk_below (g := gb140) (o := .cells #[.int .i64 t145, .int .i64 t149, .int .i64 t155, .int .i64 t159, .string t163, .string t167, .string (rdOf ByteArray.empty t136 5), .string x141007_5, .string (rdOf ByteArray.empty t136 (ji78)), .string t171, .string (rdOf ByteArray.empty t136 (ji81))] 62 (0, 0)) (by refine bY ?_; exact BK140.out) hb); have n4_ := Aside0.mk (Kd.C_below (by repeat (first | (with_reducible exact HR180.out) | (with_reducible refine Kd.C_alloc ?_ _) | (with_reducible refine Kd.C_drewN ?_ _) | (with_reducible refine Kd.C_drew ?_) | exact HR180.out)) hb); have n5_ := Aside0.mk (below_step belS hb); clear HO_5; clear HO_23; clear HO_192; clear BK140; clear HR180; clear HB; have HO_5 := n0_; have HO_23 := n1_; have HO_192 := n2_; have BK140 := n3_; have HR180 := n4_; have HB := n5_; clear n0_ n1_ n2_ n3_ n4_ n5_; (try clear hb); (try clear hb2); (try clear hk); (try clear hi)))
                                                   go_ret3
                                                   exact ⟨_, by first | rfl | (simp [errW_none, errW_some] <;> rfl) | (simp only [← hji57, ← hji71, ← hji78, ← hji81]; first | rfl | (simp [errW_none, errW_some] <;> rfl)) | (simp [*, errW_none, errW_some] <;> rfl), by first | exact Kd.R_nil _ _ _ _ _ | exact Kd.N_nil _ _ _ _ _ | exact Kd.V_nil _ _ _ _ _ | exact Kd.Q_nil _ _ _ _ _ | exact Kd.S_nil _ _ _ _ _, by repeat (first | (with_reducible first | exact HB.out | apply below_alloc | apply pw_below_drewN | apply below_drew1 | refine below_set ?_ GE140.out) | exact HB.out)⟩
                                           ·rw [if_neg c85] at H
                                            exact absurd H (by simp)
                                          ·rw [if_neg c84] at H
                                           exact absurd H (by simp)
                                         ·rw [if_neg c83] at H
                                          exact absurd H (by simp)
                                        ·rw [if_neg c82] at H
                                         exact absurd H (by simp)
                                       ·rw [if_neg c80] at H
                                        exact absurd H (by simp)
                                      ·rw [if_neg c79] at H
                                       exact absurd H (by simp)
                                     ·rw [if_neg c77] at H
                                      exact absurd H (by simp)
                                    ·rw [if_neg c75] at H
                                     exact absurd H (by simp)
                                   ·rw [if_neg c73] at H
                                    exact absurd H (by simp)
                                  ·rw [if_neg c72] at H
                                   exact absurd H (by simp)
                                 ·rw [if_neg c69] at H
                                  exact absurd H (by simp)
                                ·rw [if_neg c67] at H
                                 exact absurd H (by simp)
                               ·rw [if_neg c65] at H
                                exact absurd H (by simp)
                              ·rw [if_neg c63] at H
                               exact absurd H (by simp)
                             ·rw [if_neg c61] at H
                              exact absurd H (by simp)
                            ·rw [if_neg c59] at H
                             exact absurd H (by simp)
                           ·rw [if_neg c58] at H
                            exact absurd H (by simp)
                          ·rw [if_neg c55] at H
                           exact absurd H (by simp)
                         ·rw [if_neg c53] at H
                          exact absurd H (by simp)
                        ·rw [if_neg c52] at H
                         exact absurd H (by simp)
                       ·rw [if_neg c51] at H
                        exact absurd H (by simp)
                  ·rw [if_neg c31] at H
                   exact absurd H (by simp)
                 ·rw [if_neg c29] at H
                  exact absurd H (by simp)
                ·rw [if_neg c27] at H
                 exact absurd H (by simp)
               ·rw [if_neg c25] at H
                exact absurd H (by simp)
              ·rw [if_neg c23] at H
               exact absurd H (by simp)
             ·rw [if_neg c22] at H
              exact absurd H (by simp)
      ·rw [if_neg c8] at H
       exact absurd H (by simp)
     ·rw [if_neg c7] at H
      exact absurd H (by simp)
    ·rw [if_neg c6] at H
     have c6b0 : decide (x25_1 < (t132.length : Int)) = false := decide_eq_false c6
     clear c6
     simp only [Option.some.injEq, Prod.mk.injEq] at H
     obtain ⟨rfl, rfl, rfl⟩ := H
     go_wp2
     go_ret3
     exact ⟨_, by first | rfl | (simp [errW_none, errW_some] <;> rfl) | (simp [*, errW_none, errW_some] <;> rfl), by (with_reducible repeat (first | apply Kd.R_alloc | apply Kd.R_drewN | apply Kd.R_drew)); exact HO_5.out, by repeat (first | (with_reducible first | exact HB.out | apply below_alloc | apply pw_below_drewN | apply below_drew1) | exact HB.out)⟩

end Go.Proofs.YtokojamaigebaaaDoor.K
