/- Parts of the proof of one law: the plain form of spec.Read. -/
import Derived.Test.YtejbpbdlolehnaaDoorAny2
import Derived.Test.YtejbpbdlolehnaaDoorAny3
import Derived.Test.YtejbpbdlolehnaaDoorAny4
namespace Go.Proofs.YtejbpbdlolehnaaDoor.PFnEncode
open Go.RowKit Go.Proofs.YtejbpbdlolehnaaDoorW.PrintWords Go.Proofs.YtejbpbdlolehnaaDoorW.PrintLast Go.Proofs.YtejbpbdlolehnaaDoorW.PrintMore
attribute [local go_sem] max2_int min2_int max_two min_two max_three min_three max_four min_four   -- for this text's walks alone
set_option linter.unusedVariables false
set_option linter.unusedSimpArgs false

/-! ### spec_Read: function 15 -/
mutual
def spec_Read.j3 : Nat → List Int → Int → Int → Int → Bool → Option (Int × Int × Bool × List Int × (List (S29)) × Int × Bool)
  | 0, _, _, _, _, _ => none
  | k + 1, x0, x6, x228000, x228001, x228002 => if x6 ≥ (x0.length : Int) then (some (0, 0, false, ([] : List Int), ([] : List (S29)), 0, false)) else (if 0 ≤ x6 then (if x6 < (x0.length : Int) then (if (wrap64 (rd x0 x6)) ≥ 128 then (if (Go.bits .and .i64 (wrap64 (rd x0 x6)) 127) = 0 then (spec_Read.j4 k x0 (wrap64 (x6 + 1)) (Go.bits .and .i64 (wrap64 (rd x0 x6)) 127) true x228000 x228001 x228002) else (if (Go.bits .and .i64 (wrap64 (rd x0 x6)) 127) > 4 then (spec_Read.j4 k x0 (wrap64 (x6 + 1)) (Go.bits .and .i64 (wrap64 (rd x0 x6)) 127) true x228000 x228001 x228002) else (spec_Read.j4 k x0 (wrap64 (x6 + 1)) (Go.bits .and .i64 (wrap64 (rd x0 x6)) 127) (decide ((wrap64 ((wrap64 (x6 + 1)) + (Go.bits .and .i64 (wrap64 (rd x0 x6)) 127))) > (x0.length : Int))) x228000 x228001 x228002))) else (spec_Read.j6 k x0 (wrap64 (x6 + 1)) (wrap64 (rd x0 x6)) x228000 x228001 x228002)) else (none)) else (none))
def spec_Read.j6 : Nat → List Int → Int → Int → Int → Int → Bool → Option (Int × Int × Bool × List Int × (List (S29)) × Int × Bool)
  | 0, _, _, _, _, _, _ => none
  | k + 1, x0, x6, x7, x228000, x228001, x228002 => if x7 > (wrap64 ((x0.length : Int) - x6)) then (some (0, 0, false, ([] : List Int), ([] : List (S29)), 0, false)) else (if 0 ≤ x6 then (if x6 ≤ (wrap64 (x6 + x7)) then (if (wrap64 (x6 + x7)) ≤ (x0.length : Int) then ((some ((x0.take ((wrap64 (x6 + x7)) : Int).toNat).drop (x6 : Int).toNat : List Int)).bind fun y238 => (if x228002 = true then (spec_Read.l2 k (wrap64 (x6 + x7)) y238 x228000 x228001 x228002 ([] : List (S29))) else ((some (([] : List Int) : List Int)).bind fun y243 => (if y243.length + y238.length < 140737488355328 then (some (x228000, x228001, x228002, (y243 ++ y238), ([] : List (S29)), wrap64 (x6 + x7), true)) else (none))))) else (none)) else (none)) else (none))
def spec_Read.l2 : Nat → Int → List Int → Int → Int → Bool → List (S29) → Option (Int × Int × Bool × List Int × (List (S29)) × Int × Bool)
  | 0, _, _, _, _, _, _ => none
  | k + 1, x6, x11, x228000, x228001, x228002, x228004 => if (x11.length : Int) > 0 then ((spec_Read.f k x11).bind fun bt249 => (if bt249.2.2.2.2.2.2 = true then (if x228004.length < 1954687338268 then (if 0 ≤ bt249.2.2.2.2.2.1 then (if bt249.2.2.2.2.2.1 ≤ (x11.length : Int) then (spec_Read.l2 k x6 (x11.drop (bt249.2.2.2.2.2.1 : Int).toNat) x228000 x228001 x228002 (x228004 ++ [(⟨bt249.1, bt249.2.1, bt249.2.2.1, bt249.2.2.2.1, bt249.2.2.2.2.1⟩ : S29)])) else (none)) else (none)) else (none)) else (some (0, 0, false, ([] : List Int), ([] : List (S29)), 0, false)))) else (some (x228000, x228001, x228002, ([] : List Int), x228004, x6, true))
def spec_Read.j4 : Nat → List Int → Int → Int → Bool → Int → Int → Bool → Option (Int × Int × Bool × List Int × (List (S29)) × Int × Bool)
  | 0, _, _, _, _, _, _, _ => none
  | k + 1, x0, x6, x8, x111, x228000, x228001, x228002 => if x111 = true then (some (0, 0, false, ([] : List Int), ([] : List (S29)), 0, false)) else (if 0 ≤ x6 then (if x6 ≤ (wrap64 (x6 + x8)) then (if (wrap64 (x6 + x8)) ≤ (x0.length : Int) then ((some ((x0.take ((wrap64 (x6 + x8)) : Int).toNat).drop (x6 : Int).toNat : List Int)).bind fun y232 => (spec_Read.l1 k x0 x6 0 x8 y232 (y232.length : Int) 0 x228000 x228001 x228002)) else (none)) else (none)) else (none))
def spec_Read.l1 : Nat → List Int → Int → Int → Int → List Int → Int → Int → Int → Int → Bool → Option (Int × Int × Bool × List Int × (List (S29)) × Int × Bool)
  | 0, _, _, _, _, _, _, _, _, _, _ => none
  | k + 1, x0, x6, x7, x8, x118, x119, x120, x228000, x228001, x228002 => if x120 < x119 then (if 0 ≤ x120 then (if x120 < (x118.length : Int) then (spec_Read.l1 k x0 x6 (Go.bits .or .i64 (wrap64 (x7 * 256)) (wrap64 (rd x118 x120))) x8 x118 x119 (wrap64 (x120 + 1)) x228000 x228001 x228002) else (none)) else (none)) else (spec_Read.j6 k x0 (wrap64 (x6 + x8)) x7 x228000 x228001 x228002)
def spec_Read.j0 : Nat → List Int → Int → Bool → Int → Int → Bool → Option (Int × Int × Bool × List Int × (List (S29)) × Int × Bool)
  | 0, _, _, _, _, _, _ => none
  | k + 1, x0, x6, x50, x228000, x228001, x228002 => if x50 = true then (some (0, 0, false, ([] : List Int), ([] : List (S29)), 0, false)) else (spec_Read.l0 k x0 x6 x228000 x228001 x228002)
def spec_Read.l0 : Nat → List Int → Int → Int → Int → Bool → Option (Int × Int × Bool × List Int × (List (S29)) × Int × Bool)
  | 0, _, _, _, _, _ => none
  | k + 1, x0, x6, x228000, x228001, x228002 => if x6 ≥ (x0.length : Int) then (spec_Read.j2 k x0 x6 true x228000 x228001 x228002) else (spec_Read.j2 k x0 x6 (decide (x228001 ≥ 2097152)) x228000 x228001 x228002)
def spec_Read.j2 : Nat → List Int → Int → Bool → Int → Int → Bool → Option (Int × Int × Bool × List Int × (List (S29)) × Int × Bool)
  | 0, _, _, _, _, _, _ => none
  | k + 1, x0, x6, x60, x228000, x228001, x228002 => if x60 = true then (some (0, 0, false, ([] : List Int), ([] : List (S29)), 0, false)) else (if 0 ≤ x6 then (if x6 < (x0.length : Int) then (if 0 ≤ (wrap64 ((wrap64 (x6 + 1)) - 1)) then (if (wrap64 ((wrap64 (x6 + 1)) - 1)) < (x0.length : Int) then (if (Go.bits .and .u8 (rd x0 (wrap64 ((wrap64 (x6 + 1)) - 1))) 128) = 0 then (spec_Read.j3 k x0 (wrap64 (x6 + 1)) x228000 (Go.bits .or .i64 (wrap64 (x228001 * 128)) (wrap64 (Go.bits .and .u8 (rd x0 x6) 127))) x228002) else (spec_Read.l0 k x0 (wrap64 (x6 + 1)) x228000 (Go.bits .or .i64 (wrap64 (x228001 * 128)) (wrap64 (Go.bits .and .u8 (rd x0 x6) 127))) x228002)) else (none)) else (none)) else (none)) else (none))
def spec_Read.f : Nat → List Int → Option (Int × Int × Bool × List Int × (List (S29)) × Int × Bool)
  | 0, _ => none
  | k + 1, l0 => if (l0.length : Int) < 2 then (some (0, 0, false, ([] : List Int), ([] : List (S29)), 0, false)) else (if 0 < (l0.length : Int) then (if (wrap64 (Go.bits .and .u8 (rd l0 0) 31)) = 31 then (if 1 < (l0.length : Int) then (spec_Read.j0 k l0 1 ((Go.bits .and .u8 (rd l0 1) 127) == 0) (wrap64 ((rd l0 0) / 64)) 0 ((Go.bits .and .u8 (rd l0 0) 32) != 0)) else (spec_Read.j0 k l0 1 false (wrap64 ((rd l0 0) / 64)) 0 ((Go.bits .and .u8 (rd l0 0) 32) != 0))) else (spec_Read.j3 k l0 1 (wrap64 ((rd l0 0) / 64)) (wrap64 (Go.bits .and .u8 (rd l0 0) 31)) ((Go.bits .and .u8 (rd l0 0) 32) != 0))) else (none))
end
theorem spec_Read.mono_l : ∀ k, (∀ y0, LeO (spec_Read.f k y0) (spec_Read.f (k + 1) y0)) ∧ (∀ y0 y1 y2 y3 y4, LeO (spec_Read.j3 k y0 y1 y2 y3 y4) (spec_Read.j3 (k + 1) y0 y1 y2 y3 y4)) ∧ (∀ y0 y1 y2 y3 y4 y5, LeO (spec_Read.j6 k y0 y1 y2 y3 y4 y5) (spec_Read.j6 (k + 1) y0 y1 y2 y3 y4 y5)) ∧ (∀ y0 y1 y2 y3 y4 y5, LeO (spec_Read.l2 k y0 y1 y2 y3 y4 y5) (spec_Read.l2 (k + 1) y0 y1 y2 y3 y4 y5)) ∧ (∀ y0 y1 y2 y3 y4 y5 y6, LeO (spec_Read.j4 k y0 y1 y2 y3 y4 y5 y6) (spec_Read.j4 (k + 1) y0 y1 y2 y3 y4 y5 y6)) ∧ (∀ y0 y1 y2 y3 y4 y5 y6 y7 y8 y9, LeO (spec_Read.l1 k y0 y1 y2 y3 y4 y5 y6 y7 y8 y9) (spec_Read.l1 (k + 1) y0 y1 y2 y3 y4 y5 y6 y7 y8 y9)) ∧ (∀ y0 y1 y2 y3 y4 y5, LeO (spec_Read.j0 k y0 y1 y2 y3 y4 y5) (spec_Read.j0 (k + 1) y0 y1 y2 y3 y4 y5)) ∧ (∀ y0 y1 y2 y3 y4, LeO (spec_Read.l0 k y0 y1 y2 y3 y4) (spec_Read.l0 (k + 1) y0 y1 y2 y3 y4)) ∧ (∀ y0 y1 y2 y3 y4 y5, LeO (spec_Read.j2 k y0 y1 y2 y3 y4 y5) (spec_Read.j2 (k + 1) y0 y1 y2 y3 y4 y5))
  | 0 => ⟨fun _ r h => by simp [spec_Read.f] at h, fun _ _ _ _ _ r h => by simp [spec_Read.j3] at h, fun _ _ _ _ _ _ r h => by simp [spec_Read.j6] at h, fun _ _ _ _ _ _ r h => by simp [spec_Read.l2] at h, fun _ _ _ _ _ _ _ r h => by simp [spec_Read.j4] at h, fun _ _ _ _ _ _ _ _ _ _ r h => by simp [spec_Read.l1] at h, fun _ _ _ _ _ _ r h => by simp [spec_Read.j0] at h, fun _ _ _ _ _ r h => by simp [spec_Read.l0] at h, fun _ _ _ _ _ _ r h => by simp [spec_Read.j2] at h⟩
  | k + 1 => by
    obtain ⟨ih0, ih1, ih2, ih3, ih4, ih5, ih6, ih7, ih8⟩ := spec_Read.mono_l k
    refine ⟨?_, ?_, ?_, ?_, ?_, ?_, ?_, ?_, ?_⟩
    · intro y0
      unfold spec_Read.f
      repeat' first
      | (with_reducible exact ih0 _)
      | (with_reducible exact ih1 _ _ _ _ _)
      | (with_reducible exact ih2 _ _ _ _ _ _)
      | (with_reducible exact ih3 _ _ _ _ _ _)
      | (with_reducible exact ih4 _ _ _ _ _ _ _)
      | (with_reducible exact ih5 _ _ _ _ _ _ _ _ _ _)
      | (with_reducible exact ih6 _ _ _ _ _ _)
      | (with_reducible exact ih7 _ _ _ _ _)
      | (with_reducible exact ih8 _ _ _ _ _ _)
      | (with_reducible exact LeO.refl _)
      | (with_reducible exact LeO.none _)
      | (with_reducible refine LeO.ite ?_ ?_)
      | (with_reducible refine LeO.bind ?_ (fun _ => ?_))
      | exact ih0 _
      | exact ih1 _ _ _ _ _
      | exact ih2 _ _ _ _ _ _
      | exact ih3 _ _ _ _ _ _
      | exact ih4 _ _ _ _ _ _ _
      | exact ih5 _ _ _ _ _ _ _ _ _ _
      | exact ih6 _ _ _ _ _ _
      | exact ih7 _ _ _ _ _
      | exact ih8 _ _ _ _ _ _
      | exact LeO.none _
      | refine LeO.ite ?_ ?_
      | refine LeO.bind ?_ (fun _ => ?_)
    · intro y0 y1 y2 y3 y4
      unfold spec_Read.j3
      repeat' first
      | (with_reducible exact ih0 _)
      | (with_reducible exact ih1 _ _ _ _ _)
      | (with_reducible exact ih2 _ _ _ _ _ _)
      | (with_reducible exact ih3 _ _ _ _ _ _)
      | (with_reducible exact ih4 _ _ _ _ _ _ _)
      | (with_reducible exact ih5 _ _ _ _ _ _ _ _ _ _)
      | (with_reducible exact ih6 _ _ _ _ _ _)
      | (with_reducible exact ih7 _ _ _ _ _)
      | (with_reducible exact ih8 _ _ _ _ _ _)
      | (with_reducible exact LeO.refl _)
      | (with_reducible exact LeO.none _)
      | (with_reducible refine LeO.ite ?_ ?_)
      | (with_reducible refine LeO.bind ?_ (fun _ => ?_))
      | exact ih0 _
      | exact ih1 _ _ _ _ _
      | exact ih2 _ _ _ _ _ _
      | exact ih3 _ _ _ _ _ _
      | exact ih4 _ _ _ _ _ _ _
      | exact ih5 _ _ _ _ _ _ _ _ _ _
      | exact ih6 _ _ _ _ _ _
      | exact ih7 _ _ _ _ _
      | exact ih8 _ _ _ _ _ _
      | exact LeO.none _
      | refine LeO.ite ?_ ?_
      | refine LeO.bind ?_ (fun _ => ?_)
    · intro y0 y1 y2 y3 y4 y5
      unfold spec_Read.j6
      repeat' first
      | (with_reducible exact ih0 _)
      | (with_reducible exact ih1 _ _ _ _ _)
      | (with_reducible exact ih2 _ _ _ _ _ _)
      | (with_reducible exact ih3 _ _ _ _ _ _)
      | (with_reducible exact ih4 _ _ _ _ _ _ _)
      | (with_reducible exact ih5 _ _ _ _ _ _ _ _ _ _)
      | (with_reducible exact ih6 _ _ _ _ _ _)
      | (with_reducible exact ih7 _ _ _ _ _)
      | (with_reducible exact ih8 _ _ _ _ _ _)
      | (with_reducible exact LeO.refl _)
      | (with_reducible exact LeO.none _)
      | (with_reducible refine LeO.ite ?_ ?_)
      | (with_reducible refine LeO.bind ?_ (fun _ => ?_))
      | exact ih0 _
      | exact ih1 _ _ _ _ _
      | exact ih2 _ _ _ _ _ _
      | exact ih3 _ _ _ _ _ _
      | exact ih4 _ _ _ _ _ _ _
      | exact ih5 _ _ _ _ _ _ _ _ _ _
      | exact ih6 _ _ _ _ _ _
      | exact ih7 _ _ _ _ _
      | exact ih8 _ _ _ _ _ _
      | exact LeO.none _
      | refine LeO.ite ?_ ?_
      | refine LeO.bind ?_ (fun _ => ?_)
    · intro y0 y1 y2 y3 y4 y5
      unfold spec_Read.l2
      repeat' first
      | (with_reducible exact ih0 _)
      | (with_reducible exact ih1 _ _ _ _ _)
      | (with_reducible exact ih2 _ _ _ _ _ _)
      | (with_reducible exact ih3 _ _ _ _ _ _)
      | (with_reducible exact ih4 _ _ _ _ _ _ _)
      | (with_reducible exact ih5 _ _ _ _ _ _ _ _ _ _)
      | (with_reducible exact ih6 _ _ _ _ _ _)
      | (with_reducible exact ih7 _ _ _ _ _)
      | (with_reducible exact ih8 _ _ _ _ _ _)
      | (with_reducible exact LeO.refl _)
      | (with_reducible exact LeO.none _)
      | (with_reducible refine LeO.ite ?_ ?_)
      | (with_reducible refine LeO.bind ?_ (fun _ => ?_))
      | exact ih0 _
      | exact ih1 _ _ _ _ _
      | exact ih2 _ _ _ _ _ _
      | exact ih3 _ _ _ _ _ _
      | exact ih4 _ _ _ _ _ _ _
      | exact ih5 _ _ _ _ _ _ _ _ _ _
      | exact ih6 _ _ _ _ _ _
      | exact ih7 _ _ _ _ _
      | exact ih8 _ _ _ _ _ _
      | exact LeO.none _
      | refine LeO.ite ?_ ?_
      | refine LeO.bind ?_ (fun _ => ?_)
    · intro y0 y1 y2 y3 y4 y5 y6
      unfold spec_Read.j4
      repeat' first
      | (with_reducible exact ih0 _)
      | (with_reducible exact ih1 _ _ _ _ _)
      | (with_reducible exact ih2 _ _ _ _ _ _)
      | (with_reducible exact ih3 _ _ _ _ _ _)
      | (with_reducible exact ih4 _ _ _ _ _ _ _)
      | (with_reducible exact ih5 _ _ _ _ _ _ _ _ _ _)
      | (with_reducible exact ih6 _ _ _ _ _ _)
      | (with_reducible exact ih7 _ _ _ _ _)
      | (with_reducible exact ih8 _ _ _ _ _ _)
      | (with_reducible exact LeO.refl _)
      | (with_reducible exact LeO.none _)
      | (with_reducible refine LeO.ite ?_ ?_)
      | (with_reducible refine LeO.bind ?_ (fun _ => ?_))
      | exact ih0 _
      | exact ih1 _ _ _ _ _
      | exact ih2 _ _ _ _ _ _
      | exact ih3 _ _ _ _ _ _
      | exact ih4 _ _ _ _ _ _ _
      | exact ih5 _ _ _ _ _ _ _ _ _ _
      | exact ih6 _ _ _ _ _ _
      | exact ih7 _ _ _ _ _
      | exact ih8 _ _ _ _ _ _
      | exact LeO.none _
      | refine LeO.ite ?_ ?_
      | refine LeO.bind ?_ (fun _ => ?_)
    · intro y0 y1 y2 y3 y4 y5 y6 y7 y8 y9
      unfold spec_Read.l1
      repeat' first
      | (with_reducible exact ih0 _)
      | (with_reducible exact ih1 _ _ _ _ _)
      | (with_reducible exact ih2 _ _ _ _ _ _)
      | (with_reducible exact ih3 _ _ _ _ _ _)
      | (with_reducible exact ih4 _ _ _ _ _ _ _)
      | (with_reducible exact ih5 _ _ _ _ _ _ _ _ _ _)
      | (with_reducible exact ih6 _ _ _ _ _ _)
      | (with_reducible exact ih7 _ _ _ _ _)
      | (with_reducible exact ih8 _ _ _ _ _ _)
      | (with_reducible exact LeO.refl _)
      | (with_reducible exact LeO.none _)
      | (with_reducible refine LeO.ite ?_ ?_)
      | (with_reducible refine LeO.bind ?_ (fun _ => ?_))
      | exact ih0 _
      | exact ih1 _ _ _ _ _
      | exact ih2 _ _ _ _ _ _
      | exact ih3 _ _ _ _ _ _
      | exact ih4 _ _ _ _ _ _ _
      | exact ih5 _ _ _ _ _ _ _ _ _ _
      | exact ih6 _ _ _ _ _ _
      | exact ih7 _ _ _ _ _
      | exact ih8 _ _ _ _ _ _
      | exact LeO.none _
      | refine LeO.ite ?_ ?_
      | refine LeO.bind ?_ (fun _ => ?_)
    · intro y0 y1 y2 y3 y4 y5
      unfold spec_Read.j0
      repeat' first
      | (with_reducible exact ih0 _)
      | (with_reducible exact ih1 _ _ _ _ _)
      | (with_reducible exact ih2 _ _ _ _ _ _)
      | (with_reducible exact ih3 _ _ _ _ _ _)
      | (with_reducible exact ih4 _ _ _ _ _ _ _)
      | (with_reducible exact ih5 _ _ _ _ _ _ _ _ _ _)
      | (with_reducible exact ih6 _ _ _ _ _ _)
      | (with_reducible exact ih7 _ _ _ _ _)
      | (with_reducible exact ih8 _ _ _ _ _ _)
      | (with_reducible exact LeO.refl _)
      | (with_reducible exact LeO.none _)
      | (with_reducible refine LeO.ite ?_ ?_)
      | (with_reducible refine LeO.bind ?_ (fun _ => ?_))
      | exact ih0 _
      | exact ih1 _ _ _ _ _
      | exact ih2 _ _ _ _ _ _
      | exact ih3 _ _ _ _ _ _
      | exact ih4 _ _ _ _ _ _ _
      | exact ih5 _ _ _ _ _ _ _ _ _ _
      | exact ih6 _ _ _ _ _ _
      | exact ih7 _ _ _ _ _
      | exact ih8 _ _ _ _ _ _
      | exact LeO.none _
      | refine LeO.ite ?_ ?_
      | refine LeO.bind ?_ (fun _ => ?_)
    · intro y0 y1 y2 y3 y4
      unfold spec_Read.l0
      repeat' first
      | (with_reducible exact ih0 _)
      | (with_reducible exact ih1 _ _ _ _ _)
      | (with_reducible exact ih2 _ _ _ _ _ _)
      | (with_reducible exact ih3 _ _ _ _ _ _)
      | (with_reducible exact ih4 _ _ _ _ _ _ _)
      | (with_reducible exact ih5 _ _ _ _ _ _ _ _ _ _)
      | (with_reducible exact ih6 _ _ _ _ _ _)
      | (with_reducible exact ih7 _ _ _ _ _)
      | (with_reducible exact ih8 _ _ _ _ _ _)
      | (with_reducible exact LeO.refl _)
      | (with_reducible exact LeO.none _)
      | (with_reducible refine LeO.ite ?_ ?_)
      | (with_reducible refine LeO.bind ?_ (fun _ => ?_))
      | exact ih0 _
      | exact ih1 _ _ _ _ _
      | exact ih2 _ _ _ _ _ _
      | exact ih3 _ _ _ _ _ _
      | exact ih4 _ _ _ _ _ _ _
      | exact ih5 _ _ _ _ _ _ _ _ _ _
      | exact ih6 _ _ _ _ _ _
      | exact ih7 _ _ _ _ _
      | exact ih8 _ _ _ _ _ _
      | exact LeO.none _
      | refine LeO.ite ?_ ?_
      | refine LeO.bind ?_ (fun _ => ?_)
    · intro y0 y1 y2 y3 y4 y5
      unfold spec_Read.j2
      repeat' first
      | (with_reducible exact ih0 _)
      | (with_reducible exact ih1 _ _ _ _ _)
      | (with_reducible exact ih2 _ _ _ _ _ _)
      | (with_reducible exact ih3 _ _ _ _ _ _)
      | (with_reducible exact ih4 _ _ _ _ _ _ _)
      | (with_reducible exact ih5 _ _ _ _ _ _ _ _ _ _)
      | (with_reducible exact ih6 _ _ _ _ _ _)
      | (with_reducible exact ih7 _ _ _ _ _)
      | (with_reducible exact ih8 _ _ _ _ _ _)
      | (with_reducible exact LeO.refl _)
      | (with_reducible exact LeO.none _)
      | (with_reducible refine LeO.ite ?_ ?_)
      | (with_reducible refine LeO.bind ?_ (fun _ => ?_))
      | exact ih0 _
      | exact ih1 _ _ _ _ _
      | exact ih2 _ _ _ _ _ _
      | exact ih3 _ _ _ _ _ _
      | exact ih4 _ _ _ _ _ _ _
      | exact ih5 _ _ _ _ _ _ _ _ _ _
      | exact ih6 _ _ _ _ _ _
      | exact ih7 _ _ _ _ _
      | exact ih8 _ _ _ _ _ _
      | exact LeO.none _
      | refine LeO.ite ?_ ?_
      | refine LeO.bind ?_ (fun _ => ?_)
theorem spec_Read.mono : ∀ a0 k, LeO (spec_Read.f k a0) (spec_Read.f (k + 1) a0) := by
  intro a0 k
  obtain ⟨ih0, ih1, ih2, ih3, ih4, ih5, ih6, ih7, ih8⟩ := spec_Read.mono_l k
  exact ih0 a0
end Go.Proofs.YtejbpbdlolehnaaDoor.PFnEncode
