/- Written by a program of this session's, after the kit's printer: functions of the reference and what they compute. -/
import Derived.Test.YtcohjechpnlogaaDoorPDNx0
import Derived.Test.YtcohjechpnlogaaDoorPDNx2
namespace Go.Proofs.YtcohjechpnlogaaDoor.PDN
open Go.RowKit Go.Proofs.YtcohjechpnlogaaDoorW.PrintWords Go.Proofs.YtcohjechpnlogaaDoorW.PrintLast Go.Proofs.YtcohjechpnlogaaDoorW.PrintMore
attribute [local go_sem] max2_int min2_int max_two min_two max_three min_three max_four min_four   -- for this text's walks alone
set_option linter.unusedVariables false
set_option linter.unusedSimpArgs false

/-! ### spec_descriptor: function 32 -/
def spec_descriptor.l0 : Nat → ByteArray → Int → Int → Option (Bool)
  | 0, _, _, _ => none
  | k + 1, x0, x5, x6 => if x6 < x5 then (if 0 ≤ x6 then (if x6 < (x0.size : Int) then (if (bt x0 x6) = 59 then (some false) else (if (bt x0 x6) = 46 then (some false) else (spec_descriptor.l0 k x0 x5 (wrap64 (x6 + 1))))) else (none)) else (none)) else ((spec_Word.f k x0).bind fun t145 => (some t145))
def spec_descriptor.f (k : Nat) (a0 : ByteArray) : Option (Bool) := spec_descriptor.l0 k a0 (a0.size : Int) 0
theorem spec_descriptor.mono_l : ∀ k, (∀ y0 y1 y2, LeO (spec_descriptor.l0 k y0 y1 y2) (spec_descriptor.l0 (k + 1) y0 y1 y2))
  | 0 => fun _ _ _ r h => by simp [spec_descriptor.l0] at h
  | k + 1 => by
    have ih0 := spec_descriptor.mono_l k
    · intro y0 y1 y2
      unfold spec_descriptor.l0
      repeat' first
      | (with_reducible exact ih0 _ _ _)
      | (with_reducible exact spec_Word.mono _ _)
      | (with_reducible exact LeO.refl _)
      | (with_reducible exact LeO.none _)
      | (with_reducible refine LeO.ite ?_ ?_)
      | (with_reducible refine LeO.bind ?_ (fun _ => ?_))
      | exact ih0 _ _ _
      | exact spec_Word.mono _ _
      | exact LeO.none _
      | refine LeO.ite ?_ ?_
      | refine LeO.bind ?_ (fun _ => ?_)
theorem spec_descriptor.mono : ∀ a0 k, LeO (spec_descriptor.f k a0) (spec_descriptor.f (k + 1) a0) := by
  intro a0 k
  have ih0 := spec_descriptor.mono_l k
  unfold spec_descriptor.f
  repeat' first
      | (with_reducible exact ih0 _ _ _)
      | (with_reducible exact spec_Word.mono _ _)
      | (with_reducible exact LeO.refl _)
      | (with_reducible exact LeO.none _)
      | (with_reducible refine LeO.ite ?_ ?_)
      | (with_reducible refine LeO.bind ?_ (fun _ => ?_))
      | exact ih0 _ _ _
      | exact spec_Word.mono _ _
      | exact LeO.none _
      | refine LeO.ite ?_ ?_
      | refine LeO.bind ?_ (fun _ => ?_)
set_option maxHeartbeats 8000000 in
set_option maxRecDepth 100000 in
theorem spec_descriptor.calls (k : Nat) (a0 : ByteArray) (r : Bool) (w : World) (h : spec_descriptor.f k a0 = some r) :
    Calls Tryd.prog 32 #[.string a0] w fun e w' => e = .returned (.bool r) ∧ Drawn0 w w' := by
  have H : (spec_descriptor.l0 k a0 (a0.size : Int) 0) = some r := h
  clear h
  have H' := Aside0.mk H
  clear H
  go_enter Tryd.func32, Tryd.ntmps32
  go_wp2
  go_loopg [6] k (fun kq v6 w' => ∃ (x6_1 : Int), v6 = .int .i64 x6_1 ∧ Aside0 (spec_descriptor.l0 kq a0 (a0.size : Int) x6_1 = some r) ∧ Aside0 (kq ≤ k) ∧ Drawn0 w w')
  case atStart => exact ⟨(0), (by first | rfl | (simp; done) | (simp [*]; done) | (simp; generalize ByteArray.toList _ = l_; cases l_ <;> rfl)), H', ⟨Nat.le_refl _⟩, by repeat (first | exact Drawn0.refl _ | apply Drawn0.step)⟩
  case round =>
    clear H'
    obtain ⟨x6_1, rfl, HA, HK1, ⟨m1, rfl⟩⟩ := hrel
    cases gk with
    | zero => exact absurd HA.out (by simp [spec_descriptor.l0])
    | succ k1 =>
      have H := HA.out
      clear HA
      simp only [spec_descriptor.l0] at H
      by_cases c2 : x6_1 < (a0.size : Int)
      · rw [if_pos c2] at H
        have c2b0 : decide (x6_1 < (a0.size : Int)) = true := decide_eq_true c2
        clear c2
        by_cases c3 : 0 ≤ x6_1
        · rw [if_pos c3] at H
          have c3b0 : decide (0 ≤ x6_1) = true := decide_eq_true c3
          clear c3
          by_cases c4 : x6_1 < (a0.size : Int)
          · rw [if_pos c4] at H
            have c4b0 : decide (x6_1 < (a0.size : Int)) = true := decide_eq_true c4
            clear c4
            by_cases c6 : (bt a0 x6_1) = 59
            · rw [if_pos c6] at H
              have c6b0 : ((bt a0 x6_1) == 59) = true := beq_iff_eq.mpr c6
              have c6b1 : ((bt a0 x6_1) != 59) = false := bne_eq_false_iff_eq.mpr c6
              clear c6
              obtain rfl := Option.some.inj H
              have p5 : 0 ≤ (x6_1 : Int) := of_decide_eq_true (by first | (with_reducible assumption) | assumption)
              have q5 : x6_1 < (a0.size : Int) := of_decide_eq_true (by first | (with_reducible assumption) | assumption)
              have hx5 := bt_at a0 x6_1
              replace p5 := eq_true p5
              replace q5 := eq_true q5
              go_wp2
              go_ret
              exact ⟨by first | rfl | (simp; done) | (simp [*]; done) | (simp; generalize ByteArray.toList _ = l_; cases l_ <;> rfl), by repeat (first | exact Drawn0.refl _ | apply Drawn0.step)⟩
            · rw [if_neg c6] at H
              have c6b0 : ((bt a0 x6_1) == 59) = false := beq_eq_false_iff_ne.mpr c6
              have c6b1 : ((bt a0 x6_1) != 59) = true := bne_iff_ne.mpr c6
              by_cases c8 : (bt a0 x6_1) = 46
              · rw [if_pos c8] at H
                have c8b0 : ((bt a0 x6_1) == 46) = true := beq_iff_eq.mpr c8
                have c8b1 : ((bt a0 x6_1) != 46) = false := bne_eq_false_iff_eq.mpr c8
                clear c8
                obtain rfl := Option.some.inj H
                have p5 : 0 ≤ (x6_1 : Int) := of_decide_eq_true (by first | (with_reducible assumption) | assumption)
                have q5 : x6_1 < (a0.size : Int) := of_decide_eq_true (by first | (with_reducible assumption) | assumption)
                have hx5 := bt_at a0 x6_1
                replace p5 := eq_true p5
                replace q5 := eq_true q5
                have p7 : 0 ≤ (x6_1 : Int) := of_decide_eq_true (by first | (with_reducible assumption) | assumption)
                have q7 : x6_1 < (a0.size : Int) := of_decide_eq_true (by first | (with_reducible assumption) | assumption)
                have hx7 := bt_at a0 x6_1
                replace p7 := eq_true p7
                replace q7 := eq_true q7
                go_wp2
                go_ret
                exact ⟨by first | rfl | (simp; done) | (simp [*]; done) | (simp; generalize ByteArray.toList _ = l_; cases l_ <;> rfl), by repeat (first | exact Drawn0.refl _ | apply Drawn0.step)⟩
              · rw [if_neg c8] at H
                have c8b0 : ((bt a0 x6_1) == 46) = false := beq_eq_false_iff_ne.mpr c8
                have c8b1 : ((bt a0 x6_1) != 46) = true := bne_iff_ne.mpr c8
                have H' := Aside0.mk H
                clear H
                have p5 : 0 ≤ (x6_1 : Int) := of_decide_eq_true (by first | (with_reducible assumption) | assumption)
                have q5 : x6_1 < (a0.size : Int) := of_decide_eq_true (by first | (with_reducible assumption) | assumption)
                have hx5 := bt_at a0 x6_1
                replace p5 := eq_true p5
                replace q5 := eq_true q5
                have p7 : 0 ≤ (x6_1 : Int) := of_decide_eq_true (by first | (with_reducible assumption) | assumption)
                have q7 : x6_1 < (a0.size : Int) := of_decide_eq_true (by first | (with_reducible assumption) | assumption)
                have hx7 := bt_at a0 x6_1
                replace p7 := eq_true p7
                replace q7 := eq_true q7
                go_wp2
                go_roundg k1
                case measure => have := HK1.out; omega
                case rel => exact ⟨(wrap64 (x6_1 + 1)), (by first | rfl | (simp; done) | (simp [*]; done) | (simp; generalize ByteArray.toList _ = l_; cases l_ <;> rfl)), H', ⟨by have := HK1.out; omega⟩, by repeat (first | exact Drawn0.refl _ | apply Drawn0.step)⟩
          · rw [if_neg c4] at H
            exact absurd H (by simp)
        · rw [if_neg c3] at H
          exact absurd H (by simp)
      · rw [if_neg c2] at H
        have c2b0 : decide (x6_1 < (a0.size : Int)) = false := decide_eq_false c2
        clear c2
        replace H := Option.bind_eq_some_iff.mp H
        obtain ⟨t145, A90, H⟩ := H
        replace H : (some t145) = some r := H
        have A9 := Aside0.mk A90
        clear A90
        obtain rfl := Option.some.inj H
        go_wp2_with (first | ((with_reducible refine gate_callee (f := 49) rfl ?_); refine goesL_ (some 21) rfl rfl Tryd.func49 (by kernel_rfl) rfl #[.string a0] rfl (by (try simp only [List.map_toArray, List.map_cons, List.map_nil]); first | done | rfl | (simp only [List.length_drop, List.length_take]; rfl)) ?_; (with_reducible refine (spec_Word.calls k1 a0 t145 _ A9.out).mono ?_); rintro e w' ⟨rfl, ⟨nd, rfl⟩⟩; refine ⟨_, rfl, ?_⟩))
        go_ret
        exact ⟨by first | rfl | (simp; done) | (simp [*]; done) | (simp; generalize ByteArray.toList _ = l_; cases l_ <;> rfl), by repeat (first | exact Drawn0.refl _ | apply Drawn0.step)⟩

/-! ### spec_ProperName: function 14 -/
mutual
def spec_ProperName.l0 : Nat → List (List (S54)) → List (List (S54)) → Int → Int → Option (Bool)
  | 0, _, _, _, _ => none
  | k + 1, x0, x8, x9, x10 => if x10 < x9 then (if 0 ≤ x10 then (if x10 < (x8.length : Int) then (spec_ProperName.l1 k x0 (rd_L5 x8 x10) x8 x9 x10 (rd_L5 x8 x10) ((rd_L5 x8 x10).length : Int) 0) else (none)) else (none)) else (some (decide ((x0.length : Int) ≤ 10)))
def spec_ProperName.l1 : Nat → List (List (S54)) → List (S54) → List (List (S54)) → Int → Int → List (S54) → Int → Int → Option (Bool)
  | 0, _, _, _, _, _, _, _, _ => none
  | k + 1, x0, x4, x8, x9, x10, x14, x15, x16 => if x16 < x15 then (if 0 ≤ x16 then (if x16 < (x14.length : Int) then ((spec_descriptor.f k ((rd_T54 x14 x16).f0)).bind fun t149 => (if t149 = true then (if (((rd_T54 x14 x16).f0).size : Int) > 30 then (spec_ProperName.j2 k x0 x4 x8 x9 x10 x14 x15 x16 true ((rd_T54 x14 x16).f0) ((rd_T54 x14 x16).f1)) else (spec_ProperName.j2 k x0 x4 x8 x9 x10 x14 x15 x16 (decide ((((rd_T54 x14 x16).f1).size : Int) > 50)) ((rd_T54 x14 x16).f0) ((rd_T54 x14 x16).f1))) else (spec_ProperName.j2 k x0 x4 x8 x9 x10 x14 x15 x16 true ((rd_T54 x14 x16).f0) ((rd_T54 x14 x16).f1)))) else (none)) else (none)) else (if (x4.length : Int) = 0 then (some false) else (if (x4.length : Int) > 5 then (some false) else (spec_ProperName.l0 k x0 x8 x9 (wrap64 (x10 + 1)))))
def spec_ProperName.j2 : Nat → List (List (S54)) → List (S54) → List (List (S54)) → Int → Int → List (S54) → Int → Int → Bool → ByteArray → ByteArray → Option (Bool)
  | 0, _, _, _, _, _, _, _, _, _, _, _ => none
  | k + 1, x0, x4, x8, x9, x10, x14, x15, x16, x35, x149000, x149001 => if x35 = true then (some false) else (spec_ProperName.l2 k x0 x4 x8 x9 x10 x14 x15 x16 (x149001.size : Int) 0 x149000 x149001)
def spec_ProperName.l2 : Nat → List (List (S54)) → List (S54) → List (List (S54)) → Int → Int → List (S54) → Int → Int → Int → Int → ByteArray → ByteArray → Option (Bool)
  | 0, _, _, _, _, _, _, _, _, _, _, _, _ => none
  | k + 1, x0, x4, x8, x9, x10, x14, x15, x16, x38, x39, x149000, x149001 => if x39 < x38 then (if 0 ≤ x39 then (if x39 < (x149001.size : Int) then (if (bt x149001 x39) < 32 then (some false) else (if (bt x149001 x39) > 126 then (some false) else (spec_ProperName.l2 k x0 x4 x8 x9 x10 x14 x15 x16 x38 (wrap64 (x39 + 1)) x149000 x149001))) else (none)) else (none)) else (spec_ProperName.l1 k x0 x4 x8 x9 x10 x14 x15 (wrap64 (x16 + 1)))
end
def spec_ProperName.f (k : Nat) (l0 : List (List (S54))) : Option (Bool) := spec_ProperName.l0 k l0 l0 (l0.length : Int) 0
theorem spec_ProperName.mono_l : ∀ k, (∀ y0 y1 y2 y3, LeO (spec_ProperName.l0 k y0 y1 y2 y3) (spec_ProperName.l0 (k + 1) y0 y1 y2 y3)) ∧ (∀ y0 y1 y2 y3 y4 y5 y6 y7, LeO (spec_ProperName.l1 k y0 y1 y2 y3 y4 y5 y6 y7) (spec_ProperName.l1 (k + 1) y0 y1 y2 y3 y4 y5 y6 y7)) ∧ (∀ y0 y1 y2 y3 y4 y5 y6 y7 y8 y9 y10, LeO (spec_ProperName.j2 k y0 y1 y2 y3 y4 y5 y6 y7 y8 y9 y10) (spec_ProperName.j2 (k + 1) y0 y1 y2 y3 y4 y5 y6 y7 y8 y9 y10)) ∧ (∀ y0 y1 y2 y3 y4 y5 y6 y7 y8 y9 y10 y11, LeO (spec_ProperName.l2 k y0 y1 y2 y3 y4 y5 y6 y7 y8 y9 y10 y11) (spec_ProperName.l2 (k + 1) y0 y1 y2 y3 y4 y5 y6 y7 y8 y9 y10 y11))
  | 0 => ⟨fun _ _ _ _ r h => by simp [spec_ProperName.l0] at h, fun _ _ _ _ _ _ _ _ r h => by simp [spec_ProperName.l1] at h, fun _ _ _ _ _ _ _ _ _ _ _ r h => by simp [spec_ProperName.j2] at h, fun _ _ _ _ _ _ _ _ _ _ _ _ r h => by simp [spec_ProperName.l2] at h⟩
  | k + 1 => by
    obtain ⟨ih0, ih1, ih2, ih3⟩ := spec_ProperName.mono_l k
    refine ⟨?_, ?_, ?_, ?_⟩
    · intro y0 y1 y2 y3
      unfold spec_ProperName.l0
      repeat' first
      | (with_reducible exact ih0 _ _ _ _)
      | (with_reducible exact ih1 _ _ _ _ _ _ _ _)
      | (with_reducible exact ih2 _ _ _ _ _ _ _ _ _ _ _)
      | (with_reducible exact ih3 _ _ _ _ _ _ _ _ _ _ _ _)
      | (with_reducible exact spec_descriptor.mono _ _)
      | (with_reducible exact LeO.refl _)
      | (with_reducible exact LeO.none _)
      | (with_reducible refine LeO.ite ?_ ?_)
      | (with_reducible refine LeO.bind ?_ (fun _ => ?_))
      | exact ih0 _ _ _ _
      | exact ih1 _ _ _ _ _ _ _ _
      | exact ih2 _ _ _ _ _ _ _ _ _ _ _
      | exact ih3 _ _ _ _ _ _ _ _ _ _ _ _
      | exact spec_descriptor.mono _ _
      | exact LeO.none _
      | refine LeO.ite ?_ ?_
      | refine LeO.bind ?_ (fun _ => ?_)
    · intro y0 y1 y2 y3 y4 y5 y6 y7
      unfold spec_ProperName.l1
      repeat' first
      | (with_reducible exact ih0 _ _ _ _)
      | (with_reducible exact ih1 _ _ _ _ _ _ _ _)
      | (with_reducible exact ih2 _ _ _ _ _ _ _ _ _ _ _)
      | (with_reducible exact ih3 _ _ _ _ _ _ _ _ _ _ _ _)
      | (with_reducible exact spec_descriptor.mono _ _)
      | (with_reducible exact LeO.refl _)
      | (with_reducible exact LeO.none _)
      | (with_reducible refine LeO.ite ?_ ?_)
      | (with_reducible refine LeO.bind ?_ (fun _ => ?_))
      | exact ih0 _ _ _ _
      | exact ih1 _ _ _ _ _ _ _ _
      | exact ih2 _ _ _ _ _ _ _ _ _ _ _
      | exact ih3 _ _ _ _ _ _ _ _ _ _ _ _
      | exact spec_descriptor.mono _ _
      | exact LeO.none _
      | refine LeO.ite ?_ ?_
      | refine LeO.bind ?_ (fun _ => ?_)
    · intro y0 y1 y2 y3 y4 y5 y6 y7 y8 y9 y10
      unfold spec_ProperName.j2
      repeat' first
      | (with_reducible exact ih0 _ _ _ _)
      | (with_reducible exact ih1 _ _ _ _ _ _ _ _)
      | (with_reducible exact ih2 _ _ _ _ _ _ _ _ _ _ _)
      | (with_reducible exact ih3 _ _ _ _ _ _ _ _ _ _ _ _)
      | (with_reducible exact spec_descriptor.mono _ _)
      | (with_reducible exact LeO.refl _)
      | (with_reducible exact LeO.none _)
      | (with_reducible refine LeO.ite ?_ ?_)
      | (with_reducible refine LeO.bind ?_ (fun _ => ?_))
      | exact ih0 _ _ _ _
      | exact ih1 _ _ _ _ _ _ _ _
      | exact ih2 _ _ _ _ _ _ _ _ _ _ _
      | exact ih3 _ _ _ _ _ _ _ _ _ _ _ _
      | exact spec_descriptor.mono _ _
      | exact LeO.none _
      | refine LeO.ite ?_ ?_
      | refine LeO.bind ?_ (fun _ => ?_)
    · intro y0 y1 y2 y3 y4 y5 y6 y7 y8 y9 y10 y11
      unfold spec_ProperName.l2
      repeat' first
      | (with_reducible exact ih0 _ _ _ _)
      | (with_reducible exact ih1 _ _ _ _ _ _ _ _)
      | (with_reducible exact ih2 _ _ _ _ _ _ _ _ _ _ _)
      | (with_reducible exact ih3 _ _ _ _ _ _ _ _ _ _ _ _)
      | (with_reducible exact spec_descriptor.mono _ _)
      | (with_reducible exact LeO.refl _)
      | (with_reducible exact LeO.none _)
      | (with_reducible refine LeO.ite ?_ ?_)
      | (with_reducible refine LeO.bind ?_ (fun _ => ?_))
      | exact ih0 _ _ _ _
      | exact ih1 _ _ _ _ _ _ _ _
      | exact ih2 _ _ _ _ _ _ _ _ _ _ _
      | exact ih3 _ _ _ _ _ _ _ _ _ _ _ _
      | exact spec_descriptor.mono _ _
      | exact LeO.none _
      | refine LeO.ite ?_ ?_
      | refine LeO.bind ?_ (fun _ => ?_)
theorem spec_ProperName.mono : ∀ a0 k, LeO (spec_ProperName.f k a0) (spec_ProperName.f (k + 1) a0) := by
  intro a0 k
  obtain ⟨ih0, ih1, ih2, ih3⟩ := spec_ProperName.mono_l k
  unfold spec_ProperName.f
  repeat' first
      | (with_reducible exact ih0 _ _ _ _)
      | (with_reducible exact ih1 _ _ _ _ _ _ _ _)
      | (with_reducible exact ih2 _ _ _ _ _ _ _ _ _ _ _)
      | (with_reducible exact ih3 _ _ _ _ _ _ _ _ _ _ _ _)
      | (with_reducible exact spec_descriptor.mono _ _)
      | (with_reducible exact LeO.refl _)
      | (with_reducible exact LeO.none _)
      | (with_reducible refine LeO.ite ?_ ?_)
      | (with_reducible refine LeO.bind ?_ (fun _ => ?_))
      | exact ih0 _ _ _ _
      | exact ih1 _ _ _ _ _ _ _ _
      | exact ih2 _ _ _ _ _ _ _ _ _ _ _
      | exact ih3 _ _ _ _ _ _ _ _ _ _ _ _
      | exact spec_descriptor.mono _ _
      | exact LeO.none _
      | refine LeO.ite ?_ ?_
      | refine LeO.bind ?_ (fun _ => ?_)
set_option maxHeartbeats 8000000 in
set_option maxRecDepth 100000 in
theorem spec_ProperName.calls (k : Nat) (A0 : Option Addr) (c0 : Nat) (l0 : List (List (S54))) (r : Bool) (w : World) (hr0 : Kd.C (Kd.slice 54 k54) w A0 l0.length l0) (hc0 : l0.length ≤ c0) (h : spec_ProperName.f k l0 = some r) :
    Calls Tryd.prog 14 #[.slice A0 l0.length c0] w fun e w' => e = .returned (.bool r) ∧ Below w.heap.size w w' := by
  have hu54 := Tryd.underlying54
  have HR0 := Aside0.mk hr0
  have HC0 := Aside0.mk hc0
  clear hr0 hc0
  have HB := Aside0.mk (Below.refl w.heap.size w)
  have H : (spec_ProperName.l0 k l0 l0 (l0.length : Int) 0) = some r := h
  clear h
  have H' := Aside0.mk H
  clear H
  go_enter Tryd.func14, Tryd.ntmps14
  go_wp2
  go_loopg [10] k (fun kq v10 w' => ∃ (x10_1 : Int), v10 = .int .i64 x10_1 ∧ Aside0 (spec_ProperName.l0 kq l0 l0 (l0.length : Int) x10_1 = some r) ∧ Aside0 (kq ≤ k) ∧ Aside0 (Below w.heap.size w w'))
  case atStart => exact ⟨(0), (by first | rfl | (simp; done) | (simp [*]; done) | (simp; generalize ByteArray.toList _ = l_; cases l_ <;> rfl)), H', ⟨Nat.le_refl _⟩, ⟨by repeat (first | (with_reducible first | exact HB.out | apply below_alloc | apply pw_below_drewN | apply below_drew1) | exact HB.out)⟩⟩
  case round =>
    clear H'
    try clear c1
    obtain ⟨x10_1, rfl, HA, HK1, HB⟩ := hrel
    cases gk with
    | zero => exact absurd HA.out (by simp [spec_ProperName.l0])
    | succ k1 =>
      have H := HA.out
      clear HA
      simp only [spec_ProperName.l0] at H
      by_cases c2 : x10_1 < (l0.length : Int)
      · rw [if_pos c2] at H
        have c2b0 : decide (x10_1 < (l0.length : Int)) = true := decide_eq_true c2
        clear c2
        by_cases c3 : 0 ≤ x10_1
        · rw [if_pos c3] at H
          have c3b0 : decide (0 ≤ x10_1) = true := decide_eq_true c3
          clear c3
          by_cases c4 : x10_1 < (l0.length : Int)
          · rw [if_pos c4] at H
            have c4b0 : decide (x10_1 < (l0.length : Int)) = true := decide_eq_true c4
            clear c4
            have H' := Aside0.mk H
            clear H
            have p146 : 0 ≤ (x10_1 : Int) := of_decide_eq_true (by first | (with_reducible assumption) | assumption)
            have q146 : x10_1 < (l0.length : Int) := of_decide_eq_true (by first | (with_reducible assumption) | assumption)
            obtain ⟨ad146, A146_0, c146_0, e146, hx146_0, hl146_0, hi146_0⟩ := at_L5 HR0.out x10_1 p146 q146
            cases e146
            replace hx146_0 := (HB.out.cell (World.block_lt_of_cell? w _ hx146_0)).trans hx146_0
            have HR146_0 := Aside0.mk hi146_0
            have HC146_0 := Aside0.mk hl146_0
            clear hi146_0 hl146_0
            replace p146 := eq_true p146
            replace q146 := eq_true q146
            go_wp2
            go_loopg [16] k1 (fun kq v16 w' => ∃ (x16_2 : Int), v16 = .int .i64 x16_2 ∧ Aside0 (spec_ProperName.l1 kq l0 (rd_L5 l0 x10_1) l0 (l0.length : Int) x10_1 (rd_L5 l0 x10_1) ((rd_L5 l0 x10_1).length : Int) x16_2 = some r) ∧ Aside0 (kq ≤ k1) ∧ Aside0 (Below w.heap.size w w'))
            case atStart => exact ⟨(0), (by first | rfl | (simp; done) | (simp [*]; done) | (simp; generalize ByteArray.toList _ = l_; cases l_ <;> rfl)), H', ⟨Nat.le_refl _⟩, ⟨by repeat (first | (with_reducible first | exact HB.out | apply below_alloc | apply pw_below_drewN | apply below_drew1) | exact HB.out)⟩⟩
            case round =>
              clear H'
              try clear c1
              try clear p1
              try clear q1
              try clear hx1
              try clear c2
              try clear c2b0
              try clear p2
              try clear c3
              try clear c3b0
              try clear c4
              try clear c4b0
              try clear hx146_0
              try clear p146
              try clear q146
              obtain ⟨x16_2, rfl, HA, HK2, HB⟩ := hrel
              cases gk with
              | zero => exact absurd HA.out (by simp [spec_ProperName.l1])
              | succ k2 =>
                have H := HA.out
                clear HA
                simp only [spec_ProperName.l1] at H
                by_cases c5 : x16_2 < ((rd_L5 l0 x10_1).length : Int)
                · rw [if_pos c5] at H
                  have c5b0 : decide (x16_2 < ((rd_L5 l0 x10_1).length : Int)) = true := decide_eq_true c5
                  clear c5
                  by_cases c6 : 0 ≤ x16_2
                  · rw [if_pos c6] at H
                    have c6b0 : decide (0 ≤ x16_2) = true := decide_eq_true c6
                    clear c6
                    by_cases c7 : x16_2 < ((rd_L5 l0 x10_1).length : Int)
                    · rw [if_pos c7] at H
                      have c7b0 : decide (x16_2 < ((rd_L5 l0 x10_1).length : Int)) = true := decide_eq_true c7
                      clear c7
                      have HC8 := Aside0.mk H
                      clear H
                      have p147 : 0 ≤ (x16_2 : Int) := of_decide_eq_true (by first | (with_reducible assumption) | assumption)
                      have q147 : x16_2 < ((rd_L5 l0 x10_1).length : Int) := of_decide_eq_true (by first | (with_reducible assumption) | assumption)
                      obtain ⟨ad147, e147, hx147_0, hx147_1⟩ := at_T54 HR146_0.out x16_2 p147 q147
                      cases e147
                      replace hx147_0 := (HB.out.cell (World.block_lt_of_cell? w _ hx147_0)).trans hx147_0
                      replace hx147_1 := (HB.out.cell (World.block_lt_of_cell? w _ hx147_1)).trans hx147_1
                      replace p147 := eq_true p147
                      replace q147 := eq_true q147
                      go_upto_region 7 with (first | ((with_reducible refine gate_dst (N := 6) rfl ?_); (try (refine gate_guard (by rfl) ?_; dsimp only)); refine box_event ?hg (N := 6) ?hd (cs := #[.string (⟨#[]⟩ : ByteArray), .string (⟨#[]⟩ : ByteArray)]) (t := 54) ?hr ?_; (case hd => rfl); (case hg => rfl); (case hr => first | (go_simp; done) | (go_simp; rfl)); intro gb148 hg w9 hbox hb; have n0_ := Aside0.mk (below_step (by repeat (first | (with_reducible first | exact HB.out | apply below_alloc | apply pw_below_drewN | apply below_drew1) | exact HB.out)) hb); have n1_ := Aside0.mk (hbox); have n2_ := Aside0.mk ((by rw [hg]; exact (below_size (by repeat (first | (with_reducible first | exact HB.out | apply below_alloc | apply pw_below_drewN | apply below_drew1) | exact HB.out))) : w.heap.size ≤ gb148)); have n3_ := Aside0.mk ((by rw [hg]; exact (below_size (by repeat (first | (with_reducible first | exact HB.out | apply below_alloc | apply pw_below_drewN | apply below_drew1) | exact HB.out))) : w.heap.size ≤ gb148)); clear HB; have HB := n0_; have BK148 := n1_; have GW148 := n2_; have GE148 := n3_; clear n0_ n1_ n2_ n3_; clear hb hbox hg; have hcz10_0 : w9.cell? ⟨gb148, 0, none⟩ = some (.string (⟨#[]⟩ : ByteArray)) := (blk_cell BK148.out 0).trans rfl; have hcz10_1 : w9.cell? ⟨gb148, 1, none⟩ = some (.string (⟨#[]⟩ : ByteArray)) := (blk_cell BK148.out 1).trans rfl; have hfz10_0 := blk_frozen BK148.out 0; have hfz10_1 := blk_frozen BK148.out 1))
                      (try simp only [Act.put, List.setIfInBounds_toArray, List.set_cons_zero, List.set_cons_succ])
                      go_cut [35] (fun v35 wc => ∃ (kq : Nat) (x35_7 : Bool), v35 = .bool x35_7 ∧ Aside0 (spec_ProperName.j2 kq l0 (rd_L5 l0 x10_1) l0 (l0.length : Int) x10_1 (rd_L5 l0 x10_1) ((rd_L5 l0 x10_1).length : Int) x16_2 x35_7 ((rd_T54 (rd_L5 l0 x10_1) x16_2).f0) ((rd_T54 (rd_L5 l0 x10_1) x16_2).f1) = some r) ∧ Aside0 (kq ≤ k2) ∧ Aside0 (wc.heap[gb148]? = some (.cells #[.string ((rd_T54 (rd_L5 l0 x10_1) x16_2).f0), .string ((rd_T54 (rd_L5 l0 x10_1) x16_2).f1)] 54 (0, 0))) ∧ Aside0 (Below w.heap.size w wc))
                      case first =>
                        have H := HC8.out
                        clear HC8
                        replace H := Option.bind_eq_some_iff.mp H
                        obtain ⟨t149, A110, H⟩ := H
                        replace H : (if t149 = true then (if (((rd_T54 (rd_L5 l0 x10_1) x16_2).f0).size : Int) > 30 then (spec_ProperName.j2 k2 l0 (rd_L5 l0 x10_1) l0 (l0.length : Int) x10_1 (rd_L5 l0 x10_1) ((rd_L5 l0 x10_1).length : Int) x16_2 true ((rd_T54 (rd_L5 l0 x10_1) x16_2).f0) ((rd_T54 (rd_L5 l0 x10_1) x16_2).f1)) else (spec_ProperName.j2 k2 l0 (rd_L5 l0 x10_1) l0 (l0.length : Int) x10_1 (rd_L5 l0 x10_1) ((rd_L5 l0 x10_1).length : Int) x16_2 (decide ((((rd_T54 (rd_L5 l0 x10_1) x16_2).f1).size : Int) > 50)) ((rd_T54 (rd_L5 l0 x10_1) x16_2).f0) ((rd_T54 (rd_L5 l0 x10_1) x16_2).f1))) else (spec_ProperName.j2 k2 l0 (rd_L5 l0 x10_1) l0 (l0.length : Int) x10_1 (rd_L5 l0 x10_1) ((rd_L5 l0 x10_1).length : Int) x16_2 true ((rd_T54 (rd_L5 l0 x10_1) x16_2).f0) ((rd_T54 (rd_L5 l0 x10_1) x16_2).f1))) = some r := H
                        have A11 := Aside0.mk A110
                        clear A110
                        by_cases c12 : t149 = true
                        · subst c12
                          have H1 : (if (((rd_T54 (rd_L5 l0 x10_1) x16_2).f0).size : Int) > 30 then (spec_ProperName.j2 k2 l0 (rd_L5 l0 x10_1) l0 (l0.length : Int) x10_1 (rd_L5 l0 x10_1) ((rd_L5 l0 x10_1).length : Int) x16_2 true ((rd_T54 (rd_L5 l0 x10_1) x16_2).f0) ((rd_T54 (rd_L5 l0 x10_1) x16_2).f1)) else (spec_ProperName.j2 k2 l0 (rd_L5 l0 x10_1) l0 (l0.length : Int) x10_1 (rd_L5 l0 x10_1) ((rd_L5 l0 x10_1).length : Int) x16_2 (decide ((((rd_T54 (rd_L5 l0 x10_1) x16_2).f1).size : Int) > 50)) ((rd_T54 (rd_L5 l0 x10_1) x16_2).f0) ((rd_T54 (rd_L5 l0 x10_1) x16_2).f1))) = some r := by rw [if_pos rfl] at H; exact H
                          clear H
                          have H := H1
                          clear H1
                          by_cases c13 : (((rd_T54 (rd_L5 l0 x10_1) x16_2).f0).size : Int) > 30
                          · rw [if_pos c13] at H
                            have c13b0 : decide (30 < (((rd_T54 (rd_L5 l0 x10_1) x16_2).f0).size : Int)) = true := decide_eq_true c13
                            have c13b1 : decide (30 < ((rd_T54 (rd_L5 l0 x10_1) x16_2).f0).size) = true := decide_eq_true (by omega)
                            clear c13
                            (first | rw [c13b0] | (simp only [i64_w, i32_w]; rw [c13b0]) | skip)
                            have H' := Aside0.mk H
                            clear H
                            have hcz14_0 : w9.cell? ⟨gb148, 0, none⟩ = some (.string (⟨#[]⟩ : ByteArray)) := (blk_cell BK148.out 0).trans rfl
                            have hcz14_1 : w9.cell? ⟨gb148, 1, none⟩ = some (.string (⟨#[]⟩ : ByteArray)) := (blk_cell BK148.out 1).trans rfl
                            have hfz14_0 := blk_frozen BK148.out 0
                            have hfz14_1 := blk_frozen BK148.out 1
                            go_wp2_with (first | ((with_reducible refine gate_callee (f := 32) rfl ?_); refine goesL_ (some 22) rfl rfl Tryd.func32 (by kernel_rfl) rfl #[.string ((rd_T54 (rd_L5 l0 x10_1) x16_2).f0)] rfl (by (try simp only [List.map_toArray, List.map_cons, List.map_nil]); first | done | rfl | (simp only [List.length_drop, List.length_take]; rfl)) ?_; (with_reducible refine (spec_descriptor.calls k2 ((rd_T54 (rd_L5 l0 x10_1) x16_2).f0) true _ A11.out).mono ?_); rintro e w' ⟨rfl, ⟨nd, rfl⟩⟩; refine ⟨_, rfl, ?_⟩))
                            go_meet
                            case rel => exact ⟨_, (true), (by first | rfl | (simp; done) | (simp [*]; done) | (simp; generalize ByteArray.toList _ = l_; cases l_ <;> rfl)), H', ⟨by have := HK1.out; have := HK2.out; first | omega | exact Nat.le_refl _⟩, ⟨by (with_reducible repeat (first | refine blk_drewN ?_ _ | refine blk_drew ?_ | refine blk_alloc ?_ _)); refine blk_put (cs := #[.string ((rd_T54 (rd_L5 l0 x10_1) x16_2).f0), .string (⟨#[]⟩ : ByteArray)]) ?_ 1 _ rfl; (with_reducible repeat (first | refine blk_drewN ?_ _ | refine blk_drew ?_ | refine blk_alloc ?_ _)); refine blk_put (cs := #[.string (⟨#[]⟩ : ByteArray), .string (⟨#[]⟩ : ByteArray)]) ?_ 0 _ rfl; (with_reducible repeat (first | refine blk_drewN ?_ _ | refine blk_drew ?_ | refine blk_alloc ?_ _)); exact BK148.out⟩, ⟨by repeat (first | (with_reducible first | exact HB.out | apply below_alloc | apply pw_below_drewN | apply below_drew1 | refine below_set ?_ GE148.out) | exact HB.out)⟩⟩
                          · rw [if_neg c13] at H
                            have c13b0 : decide (30 < (((rd_T54 (rd_L5 l0 x10_1) x16_2).f0).size : Int)) = false := decide_eq_false c13
                            have c13b1 : decide (30 < ((rd_T54 (rd_L5 l0 x10_1) x16_2).f0).size) = false := decide_eq_false (by omega)
                            clear c13
                            (first | rw [c13b0] | (simp only [i64_w, i32_w]; rw [c13b0]) | skip)
                            have H' := Aside0.mk H
                            clear H
                            have hcz15_0 : w9.cell? ⟨gb148, 0, none⟩ = some (.string (⟨#[]⟩ : ByteArray)) := (blk_cell BK148.out 0).trans rfl
                            have hcz15_1 : w9.cell? ⟨gb148, 1, none⟩ = some (.string (⟨#[]⟩ : ByteArray)) := (blk_cell BK148.out 1).trans rfl
                            have hfz15_0 := blk_frozen BK148.out 0
                            have hfz15_1 := blk_frozen BK148.out 1
                            go_wp2_with (first | ((with_reducible refine gate_callee (f := 32) rfl ?_); refine goesL_ (some 22) rfl rfl Tryd.func32 (by kernel_rfl) rfl #[.string ((rd_T54 (rd_L5 l0 x10_1) x16_2).f0)] rfl (by (try simp only [List.map_toArray, List.map_cons, List.map_nil]); first | done | rfl | (simp only [List.length_drop, List.length_take]; rfl)) ?_; (with_reducible refine (spec_descriptor.calls k2 ((rd_T54 (rd_L5 l0 x10_1) x16_2).f0) true _ A11.out).mono ?_); rintro e w' ⟨rfl, ⟨nd, rfl⟩⟩; refine ⟨_, rfl, ?_⟩))
                            go_meet
                            case rel => exact ⟨_, (decide ((((rd_T54 (rd_L5 l0 x10_1) x16_2).f1).size : Int) > 50)), (by first | rfl | (simp; done) | (simp [*]; done) | (simp; generalize ByteArray.toList _ = l_; cases l_ <;> rfl)), H', ⟨by have := HK1.out; have := HK2.out; first | omega | exact Nat.le_refl _⟩, ⟨by (with_reducible repeat (first | refine blk_drewN ?_ _ | refine blk_drew ?_ | refine blk_alloc ?_ _)); refine blk_put (cs := #[.string ((rd_T54 (rd_L5 l0 x10_1) x16_2).f0), .string (⟨#[]⟩ : ByteArray)]) ?_ 1 _ rfl; (with_reducible repeat (first | refine blk_drewN ?_ _ | refine blk_drew ?_ | refine blk_alloc ?_ _)); refine blk_put (cs := #[.string (⟨#[]⟩ : ByteArray), .string (⟨#[]⟩ : ByteArray)]) ?_ 0 _ rfl; (with_reducible repeat (first | refine blk_drewN ?_ _ | refine blk_drew ?_ | refine blk_alloc ?_ _)); exact BK148.out⟩, ⟨by repeat (first | (with_reducible first | exact HB.out | apply below_alloc | apply pw_below_drewN | apply below_drew1 | refine below_set ?_ GE148.out) | exact HB.out)⟩⟩
                        · replace c12 := Bool.eq_false_iff.mpr c12
                          subst c12
                          have H1 : (spec_ProperName.j2 k2 l0 (rd_L5 l0 x10_1) l0 (l0.length : Int) x10_1 (rd_L5 l0 x10_1) ((rd_L5 l0 x10_1).length : Int) x16_2 true ((rd_T54 (rd_L5 l0 x10_1) x16_2).f0) ((rd_T54 (rd_L5 l0 x10_1) x16_2).f1)) = some r := by rw [if_neg (show ¬ (false = true) by decide)] at H; exact H
                          clear H
                          have H := H1
                          clear H1
                          have H' := Aside0.mk H
                          clear H
                          have hcz16_0 : w9.cell? ⟨gb148, 0, none⟩ = some (.string (⟨#[]⟩ : ByteArray)) := (blk_cell BK148.out 0).trans rfl
                          have hcz16_1 : w9.cell? ⟨gb148, 1, none⟩ = some (.string (⟨#[]⟩ : ByteArray)) := (blk_cell BK148.out 1).trans rfl
                          have hfz16_0 := blk_frozen BK148.out 0
                          have hfz16_1 := blk_frozen BK148.out 1
                          go_wp2_with (first | ((with_reducible refine gate_callee (f := 32) rfl ?_); refine goesL_ (some 22) rfl rfl Tryd.func32 (by kernel_rfl) rfl #[.string ((rd_T54 (rd_L5 l0 x10_1) x16_2).f0)] rfl (by (try simp only [List.map_toArray, List.map_cons, List.map_nil]); first | done | rfl | (simp only [List.length_drop, List.length_take]; rfl)) ?_; (with_reducible refine (spec_descriptor.calls k2 ((rd_T54 (rd_L5 l0 x10_1) x16_2).f0) false _ A11.out).mono ?_); rintro e w' ⟨rfl, ⟨nd, rfl⟩⟩; refine ⟨_, rfl, ?_⟩))
                          go_meet
                          case rel => exact ⟨_, (true), (by first | rfl | (simp; done) | (simp [*]; done) | (simp; generalize ByteArray.toList _ = l_; cases l_ <;> rfl)), H', ⟨by have := HK1.out; have := HK2.out; first | omega | exact Nat.le_refl _⟩, ⟨by (with_reducible repeat (first | refine blk_drewN ?_ _ | refine blk_drew ?_ | refine blk_alloc ?_ _)); refine blk_put (cs := #[.string ((rd_T54 (rd_L5 l0 x10_1) x16_2).f0), .string (⟨#[]⟩ : ByteArray)]) ?_ 1 _ rfl; (with_reducible repeat (first | refine blk_drewN ?_ _ | refine blk_drew ?_ | refine blk_alloc ?_ _)); refine blk_put (cs := #[.string (⟨#[]⟩ : ByteArray), .string (⟨#[]⟩ : ByteArray)]) ?_ 0 _ rfl; (with_reducible repeat (first | refine blk_drewN ?_ _ | refine blk_drew ?_ | refine blk_alloc ?_ _)); exact BK148.out⟩, ⟨by repeat (first | (with_reducible first | exact HB.out | apply below_alloc | apply pw_below_drewN | apply below_drew1 | refine below_set ?_ GE148.out) | exact HB.out)⟩⟩
                      case rest =>
                        clear HC8
                        try clear c1
                        try clear p1
                        try clear q1
                        try clear hx1
                        try clear c2
                        try clear c2b0
                        try clear p2
                        try clear c3
                        try clear c3b0
                        try clear c4
                        try clear c4b0
                        try clear c5
                        try clear c5b0
                        try clear c6
                        try clear c6b0
                        try clear c7
                        try clear c7b0
                        try clear c12
                        try clear c13
                        try clear c13b0
                        try clear c13b1
                        try clear c14
                        try clear p14
                        try clear q14
                        try clear hx14
                        try clear hcz10_0
                        try clear hcz10_1
                        try clear hcz14_0
                        try clear hcz14_1
                        try clear hcz15_0
                        try clear hcz15_1
                        try clear hcz16_0
                        try clear hcz16_1
                        try clear hfz10_0
                        try clear hfz10_1
                        try clear hfz14_0
                        try clear hfz14_1
                        try clear hfz15_0
                        try clear hfz15_1
                        try clear hfz16_0
                        try clear hfz16_1
                        try clear hx146_0
                        try clear hx147_0
                        try clear hx147_1
                        try clear p1
                        try clear p146
                        try clear p147
                        try clear p2
                        try clear q1
                        try clear q146
                        try clear q147
                        obtain ⟨kq, x35_7, rfl, HA, HJ7, BK148, HB⟩ := hcut
                        cases kq with
                        | zero => exact absurd HA.out (by simp [spec_ProperName.j2])
                        | succ kj7 =>
                          have H := HA.out
                          clear HA
                          simp only [spec_ProperName.j2] at H
                          by_cases c17 : x35_7 = true
                          · subst c17
                            have H1 : (some false) = some r := by rw [if_pos rfl] at H; exact H
                            clear H
                            have H := H1
                            clear H1
                            obtain rfl := Option.some.inj H
                            go_wp2
                            go_ret
                            exact ⟨by first | rfl | (simp [errW_none, errW_some] <;> rfl) | (simp [*, errW_none, errW_some] <;> rfl), by repeat (first | (with_reducible first | exact HB.out | apply below_alloc | apply pw_below_drewN | apply below_drew1 | refine below_set ?_ GE148.out) | exact HB.out)⟩
                          · replace c17 := Bool.eq_false_iff.mpr c17
                            subst c17
                            have H1 : (spec_ProperName.l2 kj7 l0 (rd_L5 l0 x10_1) l0 (l0.length : Int) x10_1 (rd_L5 l0 x10_1) ((rd_L5 l0 x10_1).length : Int) x16_2 (((rd_T54 (rd_L5 l0 x10_1) x16_2).f1).size : Int) 0 ((rd_T54 (rd_L5 l0 x10_1) x16_2).f0) ((rd_T54 (rd_L5 l0 x10_1) x16_2).f1)) = some r := by rw [if_neg (show ¬ (false = true) by decide)] at H; exact H
                            clear H
                            have H := H1
                            clear H1
                            have H' := Aside0.mk H
                            clear H
                            have hcz18_0 : wc.cell? ⟨gb148, 0, none⟩ = some (.string ((rd_T54 (rd_L5 l0 x10_1) x16_2).f0)) := (blk_cell BK148.out 0).trans rfl
                            have hcz18_1 : wc.cell? ⟨gb148, 1, none⟩ = some (.string ((rd_T54 (rd_L5 l0 x10_1) x16_2).f1)) := (blk_cell BK148.out 1).trans rfl
                            have hfz18_0 := blk_frozen BK148.out 0
                            have hfz18_1 := blk_frozen BK148.out 1
                            go_wp2
                            go_loopg [39] kj7 (fun kq v39 w' => ∃ (x39_4 : Int), v39 = .int .i64 x39_4 ∧ Aside0 (spec_ProperName.l2 kq l0 (rd_L5 l0 x10_1) l0 (l0.length : Int) x10_1 (rd_L5 l0 x10_1) ((rd_L5 l0 x10_1).length : Int) x16_2 (((rd_T54 (rd_L5 l0 x10_1) x16_2).f1).size : Int) x39_4 ((rd_T54 (rd_L5 l0 x10_1) x16_2).f0) ((rd_T54 (rd_L5 l0 x10_1) x16_2).f1) = some r) ∧ Aside0 (kq ≤ kj7) ∧ Aside0 (w'.heap[gb148]? = some (.cells #[.string ((rd_T54 (rd_L5 l0 x10_1) x16_2).f0), .string ((rd_T54 (rd_L5 l0 x10_1) x16_2).f1)] 54 (0, 0))) ∧ Aside0 (Below w.heap.size w w'))
                            case atStart => exact ⟨(0), (by first | rfl | (simp; done) | (simp [*]; done) | (simp; generalize ByteArray.toList _ = l_; cases l_ <;> rfl)), H', ⟨Nat.le_refl _⟩, ⟨by (with_reducible repeat (first | refine blk_drewN ?_ _ | refine blk_drew ?_ | refine blk_alloc ?_ _)); exact BK148.out⟩, ⟨by repeat (first | (with_reducible first | exact HB.out | apply below_alloc | apply pw_below_drewN | apply below_drew1 | refine below_set ?_ GE148.out) | exact HB.out)⟩⟩
                            case round =>
                              clear H'
                              try clear c1
                              try clear p1
                              try clear q1
                              try clear hx1
                              try clear c2
                              try clear c2b0
                              try clear p2
                              try clear c3
                              try clear c3b0
                              try clear c4
                              try clear c4b0
                              try clear c5
                              try clear c5b0
                              try clear c6
                              try clear c6b0
                              try clear c7
                              try clear c7b0
                              try clear c12
                              try clear c13
                              try clear c13b0
                              try clear c13b1
                              try clear c14
                              try clear p14
                              try clear q14
                              try clear hx14
                              try clear c17
                              try clear hcz10_0
                              try clear hcz10_1
                              try clear hcz14_0
                              try clear hcz14_1
                              try clear hcz15_0
                              try clear hcz15_1
                              try clear hcz16_0
                              try clear hcz16_1
                              try clear hcz18_0
                              try clear hcz18_1
                              try clear hfz10_0
                              try clear hfz10_1
                              try clear hfz14_0
                              try clear hfz14_1
                              try clear hfz15_0
                              try clear hfz15_1
                              try clear hfz16_0
                              try clear hfz16_1
                              try clear hfz18_0
                              try clear hfz18_1
                              try clear hx146_0
                              try clear hx147_0
                              try clear hx147_1
                              try clear p1
                              try clear p14
                              try clear p146
                              try clear p147
                              try clear p2
                              try clear q1
                              try clear q14
                              try clear q146
                              try clear q147
                              obtain ⟨x39_4, rfl, HA, HK4, BK148, HB⟩ := hrel
                              cases gk with
                              | zero => exact absurd HA.out (by simp [spec_ProperName.l2])
                              | succ k4 =>
                                have H := HA.out
                                clear HA
                                simp only [spec_ProperName.l2] at H
                                by_cases c19 : x39_4 < (((rd_T54 (rd_L5 l0 x10_1) x16_2).f1).size : Int)
                                · rw [if_pos c19] at H
                                  have c19b0 : decide (x39_4 < (((rd_T54 (rd_L5 l0 x10_1) x16_2).f1).size : Int)) = true := decide_eq_true c19
                                  clear c19
                                  by_cases c20 : 0 ≤ x39_4
                                  · rw [if_pos c20] at H
                                    have c20b0 : decide (0 ≤ x39_4) = true := decide_eq_true c20
                                    clear c20
                                    by_cases c21 : x39_4 < (((rd_T54 (rd_L5 l0 x10_1) x16_2).f1).size : Int)
                                    · rw [if_pos c21] at H
                                      have c21b0 : decide (x39_4 < (((rd_T54 (rd_L5 l0 x10_1) x16_2).f1).size : Int)) = true := decide_eq_true c21
                                      clear c21
                                      by_cases c23 : (bt ((rd_T54 (rd_L5 l0 x10_1) x16_2).f1) x39_4) < 32
                                      · rw [if_pos c23] at H
                                        have c23b0 : decide ((bt ((rd_T54 (rd_L5 l0 x10_1) x16_2).f1) x39_4) < 32) = true := decide_eq_true c23
                                        clear c23
                                        obtain rfl := Option.some.inj H
                                        have hcz24_0 : wr.cell? ⟨gb148, 0, none⟩ = some (.string ((rd_T54 (rd_L5 l0 x10_1) x16_2).f0)) := (blk_cell BK148.out 0).trans rfl
                                        have hcz24_1 : wr.cell? ⟨gb148, 1, none⟩ = some (.string ((rd_T54 (rd_L5 l0 x10_1) x16_2).f1)) := (blk_cell BK148.out 1).trans rfl
                                        have hfz24_0 := blk_frozen BK148.out 0
                                        have hfz24_1 := blk_frozen BK148.out 1
                                        have p22 : 0 ≤ (x39_4 : Int) := of_decide_eq_true (by first | (with_reducible assumption) | assumption)
                                        have q22 : x39_4 < (((rd_T54 (rd_L5 l0 x10_1) x16_2).f1).size : Int) := of_decide_eq_true (by first | (with_reducible assumption) | assumption)
                                        have hx22 := bt_at ((rd_T54 (rd_L5 l0 x10_1) x16_2).f1) x39_4
                                        replace p22 := eq_true p22
                                        replace q22 := eq_true q22
                                        go_wp2
                                        go_ret
                                        exact ⟨by first | rfl | (simp [errW_none, errW_some] <;> rfl) | (simp [*, errW_none, errW_some] <;> rfl), by repeat (first | (with_reducible first | exact HB.out | apply below_alloc | apply pw_below_drewN | apply below_drew1 | refine below_set ?_ GE148.out) | exact HB.out)⟩
                                      · rw [if_neg c23] at H
                                        have c23b0 : decide ((bt ((rd_T54 (rd_L5 l0 x10_1) x16_2).f1) x39_4) < 32) = false := decide_eq_false c23
                                        clear c23
                                        by_cases c26 : (bt ((rd_T54 (rd_L5 l0 x10_1) x16_2).f1) x39_4) > 126
                                        · rw [if_pos c26] at H
                                          have c26b0 : decide (126 < (bt ((rd_T54 (rd_L5 l0 x10_1) x16_2).f1) x39_4)) = true := decide_eq_true c26
                                          clear c26
                                          obtain rfl := Option.some.inj H
                                          have hcz27_0 : wr.cell? ⟨gb148, 0, none⟩ = some (.string ((rd_T54 (rd_L5 l0 x10_1) x16_2).f0)) := (blk_cell BK148.out 0).trans rfl
                                          have hcz27_1 : wr.cell? ⟨gb148, 1, none⟩ = some (.string ((rd_T54 (rd_L5 l0 x10_1) x16_2).f1)) := (blk_cell BK148.out 1).trans rfl
                                          have hfz27_0 := blk_frozen BK148.out 0
                                          have hfz27_1 := blk_frozen BK148.out 1
                                          have p22 : 0 ≤ (x39_4 : Int) := of_decide_eq_true (by first | (with_reducible assumption) | assumption)
                                          have q22 : x39_4 < (((rd_T54 (rd_L5 l0 x10_1) x16_2).f1).size : Int) := of_decide_eq_true (by first | (with_reducible assumption) | assumption)
                                          have hx22 := bt_at ((rd_T54 (rd_L5 l0 x10_1) x16_2).f1) x39_4
                                          replace p22 := eq_true p22
                                          replace q22 := eq_true q22
                                          have p25 : 0 ≤ (x39_4 : Int) := of_decide_eq_true (by first | (with_reducible assumption) | assumption)
                                          have q25 : x39_4 < (((rd_T54 (rd_L5 l0 x10_1) x16_2).f1).size : Int) := of_decide_eq_true (by first | (with_reducible assumption) | assumption)
                                          have hx25 := bt_at ((rd_T54 (rd_L5 l0 x10_1) x16_2).f1) x39_4
                                          replace p25 := eq_true p25
                                          replace q25 := eq_true q25
                                          go_wp2
                                          go_ret
                                          exact ⟨by first | rfl | (simp [errW_none, errW_some] <;> rfl) | (simp [*, errW_none, errW_some] <;> rfl), by repeat (first | (with_reducible first | exact HB.out | apply below_alloc | apply pw_below_drewN | apply below_drew1 | refine below_set ?_ GE148.out) | exact HB.out)⟩
                                        · rw [if_neg c26] at H
                                          have c26b0 : decide (126 < (bt ((rd_T54 (rd_L5 l0 x10_1) x16_2).f1) x39_4)) = false := decide_eq_false c26
                                          clear c26
                                          have H' := Aside0.mk H
                                          clear H
                                          have hcz28_0 : wr.cell? ⟨gb148, 0, none⟩ = some (.string ((rd_T54 (rd_L5 l0 x10_1) x16_2).f0)) := (blk_cell BK148.out 0).trans rfl
                                          have hcz28_1 : wr.cell? ⟨gb148, 1, none⟩ = some (.string ((rd_T54 (rd_L5 l0 x10_1) x16_2).f1)) := (blk_cell BK148.out 1).trans rfl
                                          have hfz28_0 := blk_frozen BK148.out 0
                                          have hfz28_1 := blk_frozen BK148.out 1
                                          have p22 : 0 ≤ (x39_4 : Int) := of_decide_eq_true (by first | (with_reducible assumption) | assumption)
                                          have q22 : x39_4 < (((rd_T54 (rd_L5 l0 x10_1) x16_2).f1).size : Int) := of_decide_eq_true (by first | (with_reducible assumption) | assumption)
                                          have hx22 := bt_at ((rd_T54 (rd_L5 l0 x10_1) x16_2).f1) x39_4
                                          replace p22 := eq_true p22
                                          replace q22 := eq_true q22
                                          have p25 : 0 ≤ (x39_4 : Int) := of_decide_eq_true (by first | (with_reducible assumption) | assumption)
                                          have q25 : x39_4 < (((rd_T54 (rd_L5 l0 x10_1) x16_2).f1).size : Int) := of_decide_eq_true (by first | (with_reducible assumption) | assumption)
                                          have hx25 := bt_at ((rd_T54 (rd_L5 l0 x10_1) x16_2).f1) x39_4
                                          replace p25 := eq_true p25
                                          replace q25 := eq_true q25
                                          go_wp2
                                          go_roundg k4
                                          case measure => have := HK1.out; have := HK2.out; have := HJ7.out; have := HK4.out; omega
                                          case rel => exact ⟨(wrap64 (x39_4 + 1)), (by first | rfl | (simp; done) | (simp [*]; done) | (simp; generalize ByteArray.toList _ = l_; cases l_ <;> rfl)), H', ⟨by have := HK1.out; have := HK2.out; have := HJ7.out; have := HK4.out; omega⟩, ⟨by (with_reducible repeat (first | refine blk_drewN ?_ _ | refine blk_drew ?_ | refine blk_alloc ?_ _)); exact BK148.out⟩, ⟨by repeat (first | (with_reducible first | exact HB.out | apply below_alloc | apply pw_below_drewN | apply below_drew1 | refine below_set ?_ GE148.out) | exact HB.out)⟩⟩
                                    · rw [if_neg c21] at H
                                      exact absurd H (by simp)
                                  · rw [if_neg c20] at H
                                    exact absurd H (by simp)
                                · rw [if_neg c19] at H
                                  have c19b0 : decide (x39_4 < (((rd_T54 (rd_L5 l0 x10_1) x16_2).f1).size : Int)) = false := decide_eq_false c19
                                  clear c19
                                  have H' := Aside0.mk H
                                  clear H
                                  go_wp2
                                  go_roundg k4
                                  case measure => have := HK1.out; have := HK2.out; have := HJ7.out; have := HK4.out; omega
                                  case rel => exact ⟨(wrap64 (x16_2 + 1)), (by first | rfl | (simp; done) | (simp [*]; done) | (simp; generalize ByteArray.toList _ = l_; cases l_ <;> rfl)), H', ⟨by have := HK1.out; have := HK2.out; have := HJ7.out; have := HK4.out; omega⟩, ⟨by repeat (first | (with_reducible first | exact HB.out | apply below_alloc | apply pw_below_drewN | apply below_drew1 | refine below_set ?_ GE148.out) | exact HB.out)⟩⟩
                    · rw [if_neg c7] at H
                      exact absurd H (by simp)
                  · rw [if_neg c6] at H
                    exact absurd H (by simp)
                · rw [if_neg c5] at H
                  have c5b0 : decide (x16_2 < ((rd_L5 l0 x10_1).length : Int)) = false := decide_eq_false c5
                  clear c5
                  by_cases c29 : ((rd_L5 l0 x10_1).length : Int) = 0
                  · rw [if_pos c29] at H
                    have c29b0 : (((rd_L5 l0 x10_1).length : Int) == 0) = true := beq_iff_eq.mpr c29
                    have c29b1 : (((rd_L5 l0 x10_1).length : Int) != 0) = false := bne_eq_false_iff_eq.mpr c29
                    clear c29
                    obtain rfl := Option.some.inj H
                    go_wp2
                    go_ret
                    exact ⟨by first | rfl | (simp [errW_none, errW_some] <;> rfl) | (simp [*, errW_none, errW_some] <;> rfl), by repeat (first | (with_reducible first | exact HB.out | apply below_alloc | apply pw_below_drewN | apply below_drew1) | exact HB.out)⟩
                  · rw [if_neg c29] at H
                    have c29b0 : (((rd_L5 l0 x10_1).length : Int) == 0) = false := beq_eq_false_iff_ne.mpr c29
                    have c29b1 : (((rd_L5 l0 x10_1).length : Int) != 0) = true := bne_iff_ne.mpr c29
                    have c29b2 : ¬ ((rd_L5 l0 x10_1) = []) := fun h_ => c29 (by rw [h_]; rfl)
                    by_cases c30 : ((rd_L5 l0 x10_1).length : Int) > 5
                    · rw [if_pos c30] at H
                      have c30b0 : decide (5 < ((rd_L5 l0 x10_1).length : Int)) = true := decide_eq_true c30
                      have c30b1 : decide (5 < (rd_L5 l0 x10_1).length) = true := decide_eq_true (by omega)
                      clear c30
                      obtain rfl := Option.some.inj H
                      go_wp2
                      go_ret
                      exact ⟨by first | rfl | (simp [errW_none, errW_some] <;> rfl) | (simp [*, errW_none, errW_some] <;> rfl), by repeat (first | (with_reducible first | exact HB.out | apply below_alloc | apply pw_below_drewN | apply below_drew1) | exact HB.out)⟩
                    · rw [if_neg c30] at H
                      have c30b0 : decide (5 < ((rd_L5 l0 x10_1).length : Int)) = false := decide_eq_false c30
                      have c30b1 : decide (5 < (rd_L5 l0 x10_1).length) = false := decide_eq_false (by omega)
                      clear c30
                      have H' := Aside0.mk H
                      clear H
                      go_wp2
                      go_roundg k2
                      case measure => have := HK1.out; have := HK2.out; omega
                      case rel => exact ⟨(wrap64 (x10_1 + 1)), (by first | rfl | (simp; done) | (simp [*]; done) | (simp; generalize ByteArray.toList _ = l_; cases l_ <;> rfl)), H', ⟨by have := HK1.out; have := HK2.out; omega⟩, ⟨by repeat (first | (with_reducible first | exact HB.out | apply below_alloc | apply pw_below_drewN | apply below_drew1) | exact HB.out)⟩⟩
          · rw [if_neg c4] at H
            exact absurd H (by simp)
        · rw [if_neg c3] at H
          exact absurd H (by simp)
      · rw [if_neg c2] at H
        have c2b0 : decide (x10_1 < (l0.length : Int)) = false := decide_eq_false c2
        clear c2
        obtain rfl := Option.some.inj H
        go_wp2
        go_ret
        exact ⟨by first | rfl | (simp [errW_none, errW_some] <;> rfl) | (simp [*, errW_none, errW_some] <;> rfl), by repeat (first | (with_reducible first | exact HB.out | apply below_alloc | apply pw_below_drewN | apply below_drew1) | exact HB.out)⟩

end Go.Proofs.YtcohjechpnlogaaDoor.PDN
