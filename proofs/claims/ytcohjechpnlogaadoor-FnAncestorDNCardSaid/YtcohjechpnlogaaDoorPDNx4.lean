/- Written by a program of this session's, after the kit's printer: functions of the reference and what they compute. -/
import Derived.Test.YtcohjechpnlogaaDoorPDNx0
namespace Go.Proofs.YtcohjechpnlogaaDoor.PDN
open Go.RowKit Go.Proofs.YtcohjechpnlogaaDoorW.PrintWords Go.Proofs.YtcohjechpnlogaaDoorW.PrintLast Go.Proofs.YtcohjechpnlogaaDoorW.PrintMore
attribute [local go_sem] max2_int min2_int max_two min_two max_three min_three max_four min_four   -- for this text's walks alone
set_option linter.unusedVariables false
set_option linter.unusedSimpArgs false

/-! ### spec_Apart: function 15 -/
mutual
def spec_Apart.l0 : Nat → List (List (S54)) → Int → Int → Option (Bool)
  | 0, _, _, _ => none
  | k + 1, x8, x9, x10 => if x10 < x9 then (if 0 ≤ x10 then (if x10 < (x8.length : Int) then (spec_Apart.l1 k (rd_L5 x8 x10) x8 x9 x10 ((rd_L5 x8 x10).length : Int) 0) else (none)) else (none)) else (some true)
def spec_Apart.l1 : Nat → List (S54) → List (List (S54)) → Int → Int → Int → Int → Option (Bool)
  | 0, _, _, _, _, _, _ => none
  | k + 1, x4, x8, x9, x10, x15, x16 => if x16 < x15 then (if 0 ≤ x16 then (if x16 ≤ (x4.length : Int) then ((some (x4.take (x16 : Int).toNat : List (S54))).bind fun y151 => (spec_Apart.l2 k x4 x16 x8 x9 x10 x15 x16 y151 (y151.length : Int) 0)) else (none)) else (none)) else (spec_Apart.l0 k x8 x9 (wrap64 (x10 + 1)))
def spec_Apart.l2 : Nat → List (S54) → Int → List (List (S54)) → Int → Int → Int → Int → List (S54) → Int → Int → Option (Bool)
  | 0, _, _, _, _, _, _, _, _, _, _ => none
  | k + 1, x4, x5, x8, x9, x10, x15, x16, x21, x22, x23 => if x23 < x22 then (if 0 ≤ x23 then (if x23 < (x21.length : Int) then ((spec_folded.f ((rd_T54 x21 x23).f0)).bind fun t157 => (if 0 ≤ x5 then (if x5 < (x4.length : Int) then ((spec_folded.f ((rd_T54 x4 x5).f0)).bind fun t159 => (if t157.toList = t159.toList then (some false) else (spec_Apart.l2 k x4 x5 x8 x9 x10 x15 x16 x21 x22 (wrap64 (x23 + 1))))) else (none)) else (none))) else (none)) else (none)) else (spec_Apart.l1 k x4 x8 x9 x10 x15 (wrap64 (x16 + 1)))
end
def spec_Apart.f (k : Nat) (l0 : List (List (S54))) : Option (Bool) := spec_Apart.l0 k l0 (l0.length : Int) 0
theorem spec_Apart.mono_l : ∀ k, (∀ y0 y1 y2, LeO (spec_Apart.l0 k y0 y1 y2) (spec_Apart.l0 (k + 1) y0 y1 y2)) ∧ (∀ y0 y1 y2 y3 y4 y5, LeO (spec_Apart.l1 k y0 y1 y2 y3 y4 y5) (spec_Apart.l1 (k + 1) y0 y1 y2 y3 y4 y5)) ∧ (∀ y0 y1 y2 y3 y4 y5 y6 y7 y8 y9, LeO (spec_Apart.l2 k y0 y1 y2 y3 y4 y5 y6 y7 y8 y9) (spec_Apart.l2 (k + 1) y0 y1 y2 y3 y4 y5 y6 y7 y8 y9))
  | 0 => ⟨fun _ _ _ r h => by simp [spec_Apart.l0] at h, fun _ _ _ _ _ _ r h => by simp [spec_Apart.l1] at h, fun _ _ _ _ _ _ _ _ _ _ r h => by simp [spec_Apart.l2] at h⟩
  | k + 1 => by
    obtain ⟨ih0, ih1, ih2⟩ := spec_Apart.mono_l k
    refine ⟨?_, ?_, ?_⟩
    · intro y0 y1 y2
      unfold spec_Apart.l0
      repeat' first
      | (with_reducible exact ih0 _ _ _)
      | (with_reducible exact ih1 _ _ _ _ _ _)
      | (with_reducible exact ih2 _ _ _ _ _ _ _ _ _ _)
      | (with_reducible exact LeO.refl _)
      | (with_reducible exact LeO.none _)
      | (with_reducible refine LeO.ite ?_ ?_)
      | (with_reducible refine LeO.bind ?_ (fun _ => ?_))
      | exact ih0 _ _ _
      | exact ih1 _ _ _ _ _ _
      | exact ih2 _ _ _ _ _ _ _ _ _ _
      | exact LeO.none _
      | refine LeO.ite ?_ ?_
      | refine LeO.bind ?_ (fun _ => ?_)
    · intro y0 y1 y2 y3 y4 y5
      unfold spec_Apart.l1
      repeat' first
      | (with_reducible exact ih0 _ _ _)
      | (with_reducible exact ih1 _ _ _ _ _ _)
      | (with_reducible exact ih2 _ _ _ _ _ _ _ _ _ _)
      | (with_reducible exact LeO.refl _)
      | (with_reducible exact LeO.none _)
      | (with_reducible refine LeO.ite ?_ ?_)
      | (with_reducible refine LeO.bind ?_ (fun _ => ?_))
      | exact ih0 _ _ _
      | exact ih1 _ _ _ _ _ _
      | exact ih2 _ _ _ _ _ _ _ _ _ _
      | exact LeO.none _
      | refine LeO.ite ?_ ?_
      | refine LeO.bind ?_ (fun _ => ?_)
    · intro y0 y1 y2 y3 y4 y5 y6 y7 y8 y9
      unfold spec_Apart.l2
      repeat' first
      | (with_reducible exact ih0 _ _ _)
      | (with_reducible exact ih1 _ _ _ _ _ _)
      | (with_reducible exact ih2 _ _ _ _ _ _ _ _ _ _)
      | (with_reducible exact LeO.refl _)
      | (with_reducible exact LeO.none _)
      | (with_reducible refine LeO.ite ?_ ?_)
      | (with_reducible refine LeO.bind ?_ (fun _ => ?_))
      | exact ih0 _ _ _
      | exact ih1 _ _ _ _ _ _
      | exact ih2 _ _ _ _ _ _ _ _ _ _
      | exact LeO.none _
      | refine LeO.ite ?_ ?_
      | refine LeO.bind ?_ (fun _ => ?_)
theorem spec_Apart.mono : ∀ a0 k, LeO (spec_Apart.f k a0) (spec_Apart.f (k + 1) a0) := by
  intro a0 k
  obtain ⟨ih0, ih1, ih2⟩ := spec_Apart.mono_l k
  unfold spec_Apart.f
  repeat' first
      | (with_reducible exact ih0 _ _ _)
      | (with_reducible exact ih1 _ _ _ _ _ _)
      | (with_reducible exact ih2 _ _ _ _ _ _ _ _ _ _)
      | (with_reducible exact LeO.refl _)
      | (with_reducible exact LeO.none _)
      | (with_reducible refine LeO.ite ?_ ?_)
      | (with_reducible refine LeO.bind ?_ (fun _ => ?_))
      | exact ih0 _ _ _
      | exact ih1 _ _ _ _ _ _
      | exact ih2 _ _ _ _ _ _ _ _ _ _
      | exact LeO.none _
      | refine LeO.ite ?_ ?_
      | refine LeO.bind ?_ (fun _ => ?_)
def spec_Apart.T10 : Bool × List (List Nat × List Nat) := (true, [([], []), ([0], [0]), ([1], [1]), ([], []), ([], []), ([3, 4], [3, 4]), ([5], [5]), ([6], [6]), ([7, 2], [7]), ([2, 8], [2, 8])])
def spec_Apart.B10 : List Nat := [0, 1, 3, 0, 0, 24, 56, 120, 255, 511]
theorem spec_Apart.tab10 : rtab .any (opsOf Tryd.f15 10) = spec_Apart.T10 := by kernel_rfl
theorem spec_Apart.bits10 : waitsOk spec_Apart.T10.2 spec_Apart.B10 = true := by kernel_rfl
set_option maxHeartbeats 8000000 in
set_option maxRecDepth 100000 in
theorem spec_Apart.calls (k : Nat) (A0 : Option Addr) (c0 : Nat) (l0 : List (List (S54))) (r : Bool) (w : World) (hr0 : Kd.C (Kd.slice 54 k54) w A0 l0.length l0) (hc0 : l0.length ≤ c0) (h : spec_Apart.f k l0 = some r) :
    Calls Tryd.prog 15 #[.slice A0 l0.length c0] w fun e w' => e = .returned (.bool r) ∧ Below w.heap.size w w' := by
  have hu54 := Tryd.underlying54
  have HR0 := Aside0.mk hr0
  have HC0 := Aside0.mk hc0
  clear hr0 hc0
  have HB := Aside0.mk (Below.refl w.heap.size w)
  have H : (spec_Apart.l0 k l0 (l0.length : Int) 0) = some r := h
  clear h
  have H' := Aside0.mk H
  clear H
  go_enter Tryd.func15, Tryd.ntmps15
  go_wp2
  go_loopg [10] k (fun kq v10 w' => ∃ (x10_1 : Int), v10 = .int .i64 x10_1 ∧ Aside0 (spec_Apart.l0 kq l0 (l0.length : Int) x10_1 = some r) ∧ Aside0 (kq ≤ k) ∧ Aside0 (Below w.heap.size w w'))
  case atStart => exact ⟨(0), (by first | rfl | (simp; done) | (simp [*]; done) | (simp; generalize ByteArray.toList _ = l_; cases l_ <;> rfl)), H', ⟨Nat.le_refl _⟩, ⟨by repeat (first | (with_reducible first | exact HB.out | apply below_alloc | apply pw_below_drewN | apply below_drew1) | exact HB.out)⟩⟩
  case round =>
    clear H'
    try clear c1
    obtain ⟨x10_1, rfl, HA, HK1, HB⟩ := hrel
    cases gk with
    | zero => exact absurd HA.out (by simp [spec_Apart.l0])
    | succ k1 =>
      have H := HA.out
      clear HA
      simp only [spec_Apart.l0] at H
      by_cases c2 : x10_1 < (l0.length : Int)
      · rw [if_pos c2] at H
        have c2b0 : decide (x10_1 < (l0.length : Int)) = true := decide_eq_true c2
        clear c2
        by_cases c3 : 0 ≤ x10_1
        · rw [if_pos c3] at H
          have c3b0 : decide (0 ≤ x10_1) = true := decide_eq_true c3
          clear c3
          by_cases c4 : x10_1 < (l0.length : Int)
          · rw [if_pos c4] at H
            have c4b0 : decide (x10_1 < (l0.length : Int)) = true := decide_eq_true c4
            clear c4
            have H' := Aside0.mk H
            clear H
            have p150 : 0 ≤ (x10_1 : Int) := of_decide_eq_true (by first | (with_reducible assumption) | assumption)
            have q150 : x10_1 < (l0.length : Int) := of_decide_eq_true (by first | (with_reducible assumption) | assumption)
            obtain ⟨ad150, A150_0, c150_0, e150, hx150_0, hl150_0, hi150_0⟩ := at_L5 HR0.out x10_1 p150 q150
            cases e150
            replace hx150_0 := (HB.out.cell (World.block_lt_of_cell? w _ hx150_0)).trans hx150_0
            have HR150_0 := Aside0.mk hi150_0
            have HC150_0 := Aside0.mk hl150_0
            clear hi150_0 hl150_0
            replace p150 := eq_true p150
            replace q150 := eq_true q150
            go_wp2
            go_loopg [16] k1 (fun kq v16 w' => ∃ (x16_2 : Int), v16 = .int .i64 x16_2 ∧ Aside0 (spec_Apart.l1 kq (rd_L5 l0 x10_1) l0 (l0.length : Int) x10_1 ((rd_L5 l0 x10_1).length : Int) x16_2 = some r) ∧ Aside0 (kq ≤ k1) ∧ Aside0 (Below w.heap.size w w'))
            case atStart => exact ⟨(0), (by first | rfl | (simp; done) | (simp [*]; done) | (simp; generalize ByteArray.toList _ = l_; cases l_ <;> rfl)), H', ⟨Nat.le_refl _⟩, ⟨by repeat (first | (with_reducible first | exact HB.out | apply below_alloc | apply pw_below_drewN | apply below_drew1) | exact HB.out)⟩⟩
            case round =>
              clear H'
              try clear c1
              try clear p1
              try clear q1
              try clear hx1
              try clear c2
              try clear c2b0
              try clear p2
              try clear c3
              try clear c3b0
              try clear c4
              try clear c4b0
              try clear hx150_0
              try clear p150
              try clear q150
              obtain ⟨x16_2, rfl, HA, HK2, HB⟩ := hrel
              cases gk with
              | zero => exact absurd HA.out (by simp [spec_Apart.l1])
              | succ k2 =>
                have H := HA.out
                clear HA
                simp only [spec_Apart.l1] at H
                by_cases c5 : x16_2 < ((rd_L5 l0 x10_1).length : Int)
                · rw [if_pos c5] at H
                  have c5b0 : decide (x16_2 < ((rd_L5 l0 x10_1).length : Int)) = true := decide_eq_true c5
                  clear c5
                  by_cases c6 : 0 ≤ x16_2
                  · rw [if_pos c6] at H
                    have c6b0 := eq_true c6
                    have c6b1 : decide (0 ≤ x16_2) = true := decide_eq_true c6
                    clear c6
                    by_cases c7 : x16_2 ≤ ((rd_L5 l0 x10_1).length : Int)
                    · rw [if_pos c7] at H
                      have c7b0 := eq_true c7
                      have c7b1 : decide (x16_2 ≤ ((rd_L5 l0 x10_1).length : Int)) = true := decide_eq_true c7
                      clear c7
                      obtain ⟨y151, hy151⟩ : ∃ y_ : List (S54), y_ = ((rd_L5 l0 x10_1).take (x16_2 : Int).toNat) := ⟨_, rfl⟩
                      replace H : (spec_Apart.l2 k2 (rd_L5 l0 x10_1) x16_2 l0 (l0.length : Int) x10_1 ((rd_L5 l0 x10_1).length : Int) x16_2 y151 (y151.length : Int) 0) = some r := by first | (rw [hy151]; with_reducible exact H) | (have H2_ := (Option.bind_some _ _).symm.trans H; rw [hy151]; with_reducible exact H2_) | (have H2_ := (Option.bind_some _ _).symm.trans H; with_reducible exact H2_) | with_reducible exact H | (rw [hy151]; exact H) | exact H
                      have Ny151 := Aside0.mk hy151
                      clear hy151
                      have H' := Aside0.mk H
                      clear H
                      have q8 : (x16_2 : Int) ≤ (((rd_L5 l0 x10_1).length : Int) : Int) := of_decide_eq_true (by first | (with_reducible assumption) | assumption)
                      obtain ⟨i08, hi08, _, hsz8, _⟩ := info_parts info54
                      have hroom8 : (rd_L5 l0 x10_1).length ≤ c150_0 := HC150_0.out
                      have hC8 : Kd.C k54 _ A150_0 (rd_L5 l0 x10_1).length (rd_L5 l0 x10_1) := HR150_0.out
                      have hcut8 := cut_to (P := Tryd.prog) 51 54 .i64 Tryd.underlying51 hi08 A150_0 (rd_L5 l0 x10_1).length c150_0 x16_2 (of_decide_eq_true (by first | (with_reducible assumption) | assumption)) q8 hroom8
                      have hr8 := Kd.C_take (m := (x16_2 : Int).toNat) hC8 (by omega)
                      have hy8 : y151.length = (x16_2 : Int).toNat := (by rw [Ny151.out, List.length_take]; omega)
                      rw [← Ny151.out] at hr8
                      rw [← hy8] at hcut8
                      have HR154 := Aside0.mk hr8
                      have HC154 := Aside0.mk (show y151.length ≤ c150_0 from by omega)
                      clear hr8 hC8 hroom8 hi08 hsz8
                      have KY8 := Aside0.mk hy8
                      clear hy8
                      replace q8 := eq_true q8
                      go_wp2
                      go_loopg [23] k2 (fun kq v23 w' => ∃ (x23_3 : Int), v23 = .int .i64 x23_3 ∧ Aside0 (spec_Apart.l2 kq (rd_L5 l0 x10_1) x16_2 l0 (l0.length : Int) x10_1 ((rd_L5 l0 x10_1).length : Int) x16_2 y151 (y151.length : Int) x23_3 = some r) ∧ Aside0 (kq ≤ k2) ∧ Aside0 (Below w.heap.size w w'))
                      case atStart => exact ⟨(0), (by first | rfl | (simp; done) | (simp [*]; done) | (simp; generalize ByteArray.toList _ = l_; cases l_ <;> rfl)), H', ⟨Nat.le_refl _⟩, ⟨by repeat (first | (with_reducible first | exact HB.out | apply below_alloc | apply pw_below_drewN | apply below_drew1) | exact HB.out)⟩⟩
                      case round =>
                        clear H'
                        try clear c1
                        try clear p1
                        try clear q1
                        try clear hx1
                        try clear c2
                        try clear c2b0
                        try clear p2
                        try clear c3
                        try clear c3b0
                        try clear c4
                        try clear c4b0
                        try clear c5
                        try clear c5b0
                        try clear c6
                        try clear c6b0
                        try clear c6b1
                        try clear c7
                        try clear c7b0
                        try clear c7b1
                        try clear q8
                        try clear hx150_0
                        try clear p1
                        try clear p150
                        try clear p2
                        try clear q1
                        try clear q150
                        try clear q8
                        obtain ⟨x23_3, rfl, HA, HK3, HB⟩ := hrel
                        cases gk with
                        | zero => exact absurd HA.out (by simp [spec_Apart.l2])
                        | succ k3 =>
                          have H := HA.out
                          clear HA
                          simp only [spec_Apart.l2] at H
                          by_cases c9 : x23_3 < (y151.length : Int)
                          · rw [if_pos c9] at H
                            have c9b0 : decide (x23_3 < (y151.length : Int)) = true := decide_eq_true c9
                            clear c9
                            by_cases c10 : 0 ≤ x23_3
                            · rw [if_pos c10] at H
                              have c10b0 : decide (0 ≤ x23_3) = true := decide_eq_true c10
                              clear c10
                              by_cases c11 : x23_3 < (y151.length : Int)
                              · rw [if_pos c11] at H
                                have c11b0 : decide (x23_3 < (y151.length : Int)) = true := decide_eq_true c11
                                clear c11
                                replace H := Option.bind_eq_some_iff.mp H
                                obtain ⟨t157, A120, H⟩ := H
                                replace H : (if 0 ≤ x16_2 then (if x16_2 < ((rd_L5 l0 x10_1).length : Int) then ((spec_folded.f ((rd_T54 (rd_L5 l0 x10_1) x16_2).f0)).bind fun t159 => (if t157.toList = t159.toList then (some false) else (spec_Apart.l2 k3 (rd_L5 l0 x10_1) x16_2 l0 (l0.length : Int) x10_1 ((rd_L5 l0 x10_1).length : Int) x16_2 y151 (y151.length : Int) (wrap64 (x23_3 + 1))))) else (none)) else (none)) = some r := H
                                have A12 := Aside0.mk A120
                                clear A120
                                by_cases c13 : 0 ≤ x16_2
                                · rw [if_pos c13] at H
                                  have c13b0 : decide (0 ≤ x16_2) = true := decide_eq_true c13
                                  clear c13
                                  by_cases c14 : x16_2 < ((rd_L5 l0 x10_1).length : Int)
                                  · rw [if_pos c14] at H
                                    have c14b0 : decide (x16_2 < ((rd_L5 l0 x10_1).length : Int)) = true := decide_eq_true c14
                                    clear c14
                                    replace H := Option.bind_eq_some_iff.mp H
                                    obtain ⟨t159, A150, H⟩ := H
                                    replace H : (if t157.toList = t159.toList then (some false) else (spec_Apart.l2 k3 (rd_L5 l0 x10_1) x16_2 l0 (l0.length : Int) x10_1 ((rd_L5 l0 x10_1).length : Int) x16_2 y151 (y151.length : Int) (wrap64 (x23_3 + 1)))) = some r := H
                                    have A15 := Aside0.mk A150
                                    clear A150
                                    by_cases c16 : t157.toList = t159.toList
                                    · rw [if_pos c16] at H
                                      have c16b0 : (t157.toList == t159.toList) = true := beq_iff_eq.mpr c16
                                      have c16b1 : (t157.toList != t159.toList) = false := bne_eq_false_iff_eq.mpr c16
                                      clear c16
                                      obtain rfl := Option.some.inj H
                                      have p155 : 0 ≤ (x23_3 : Int) := of_decide_eq_true (by first | (with_reducible assumption) | assumption)
                                      have q155 : x23_3 < (y151.length : Int) := of_decide_eq_true (by first | (with_reducible assumption) | assumption)
                                      obtain ⟨ad155, e155, hx155_0, hx155_1⟩ := at_T54 HR154.out x23_3 p155 q155
                                      cases e155
                                      replace hx155_0 := (HB.out.cell (World.block_lt_of_cell? w _ hx155_0)).trans hx155_0
                                      replace hx155_1 := (HB.out.cell (World.block_lt_of_cell? w _ hx155_1)).trans hx155_1
                                      replace p155 := eq_true p155
                                      replace q155 := eq_true q155
                                      try go_wp2_with (first | ((with_reducible refine gate_dst (N := 7) rfl ?_); refine box_event ?hg (N := 7) ?hd (cs := #[.string (⟨#[]⟩ : ByteArray), .string (⟨#[]⟩ : ByteArray)]) (t := 54) ?hr ?_; (case hd => rfl); (case hg => rfl); (case hr => first | (go_simp; done) | (go_simp; rfl)); intro gb156 hg w17 hbox hb; have n0_ := Aside0.mk (below_step (by repeat (first | (with_reducible first | exact HB.out | apply below_alloc | apply pw_below_drewN | apply below_drew1) | exact HB.out)) hb); have n1_ := Aside0.mk (hbox); have n2_ := Aside0.mk ((by rw [hg]; exact (below_size (by repeat (first | (with_reducible first | exact HB.out | apply below_alloc | apply pw_below_drewN | apply below_drew1) | exact HB.out))) : w.heap.size ≤ gb156)); have n3_ := Aside0.mk ((by rw [hg]; exact (below_size (by repeat (first | (with_reducible first | exact HB.out | apply below_alloc | apply pw_below_drewN | apply below_drew1) | exact HB.out))) : w.heap.size ≤ gb156)); clear HB; have HB := n0_; have BK156 := n1_; have GW156 := n2_; have GE156 := n3_; clear n0_ n1_ n2_ n3_; clear hb hbox hg; have hcz18_0 : w17.cell? ⟨gb156, 0, none⟩ = some (.string (⟨#[]⟩ : ByteArray)) := (blk_cell BK156.out 0).trans rfl; have hcz18_1 : w17.cell? ⟨gb156, 1, none⟩ = some (.string (⟨#[]⟩ : ByteArray)) := (blk_cell BK156.out 1).trans rfl; have hfz18_0 := blk_frozen BK156.out 0; have hfz18_1 := blk_frozen BK156.out 1))
                                      have n0_ : Aside0 (((w17.setCell ⟨gb156, 0, none⟩ (.string ((rd_T54 y151 x23_3).f0))).setCell ⟨gb156, 1, none⟩ (.string ((rd_T54 y151 x23_3).f1))).heap[gb156]? = some (.cells #[.string ((rd_T54 y151 x23_3).f0), .string ((rd_T54 y151 x23_3).f1)] 54 (0, 0))) := ⟨by (with_reducible repeat (first | refine blk_drewN ?_ _ | refine blk_drew ?_ | refine blk_alloc ?_ _)); refine blk_put (cs := #[.string ((rd_T54 y151 x23_3).f0), .string (⟨#[]⟩ : ByteArray)]) ?_ 1 _ rfl; (with_reducible repeat (first | refine blk_drewN ?_ _ | refine blk_drew ?_ | refine blk_alloc ?_ _)); refine blk_put (cs := #[.string (⟨#[]⟩ : ByteArray), .string (⟨#[]⟩ : ByteArray)]) ?_ 0 _ rfl; (with_reducible repeat (first | refine blk_drewN ?_ _ | refine blk_drew ?_ | refine blk_alloc ?_ _)); exact BK156.out⟩
                                      have n1_ : Aside0 (Below w.heap.size w ((w17.setCell ⟨gb156, 0, none⟩ (.string ((rd_T54 y151 x23_3).f0))).setCell ⟨gb156, 1, none⟩ (.string ((rd_T54 y151 x23_3).f1)))) := ⟨by repeat (first | (with_reducible first | exact HB.out | apply below_alloc | apply pw_below_drewN | apply below_drew1 | refine below_set ?_ GE156.out) | exact HB.out)⟩
                                      (try clear BK156)
                                      (try clear HB)
                                      generalize ((w17.setCell ⟨gb156, 0, none⟩ (.string ((rd_T54 y151 x23_3).f0))).setCell ⟨gb156, 1, none⟩ (.string ((rd_T54 y151 x23_3).f1))) = w19 at n0_ n1_ ⊢
                                      have BK156 := n0_
                                      have HB := n1_
                                      clear n0_ n1_
                                      have n0_ := Aside0.mk (blk_drew BK156.out)
                                      have n1_ := Aside0.mk (below_drew1 HB.out)
                                      clear BK156
                                      clear HB
                                      have BK156 := n0_
                                      have HB := n1_
                                      clear n0_ n1_
                                      have p158 : 0 ≤ (x16_2 : Int) := of_decide_eq_true (by first | (with_reducible assumption) | assumption)
                                      have q158 : x16_2 < ((rd_L5 l0 x10_1).length : Int) := of_decide_eq_true (by first | (with_reducible assumption) | assumption)
                                      obtain ⟨ad158, e158, hx158_0, hx158_1⟩ := at_T54 HR150_0.out x16_2 p158 q158
                                      have hw158_1 := hx158_1
                                      have hw158_0 := hx158_0
                                      obtain rfl : ad155 = ad158 := (by injection e158)
                                      replace hx158_0 := (HB.out.cell (World.block_lt_of_cell? w _ hx158_0)).trans hx158_0
                                      replace hx158_1 := (HB.out.cell (World.block_lt_of_cell? w _ hx158_1)).trans hx158_1
                                      replace p158 := eq_true p158
                                      replace q158 := eq_true q158
                                      refine start_ (n := 10) (S := fun w' => w'.cell? ⟨gb156, 0, none⟩ = some (.string ((rd_T54 y151 x23_3).f0)) ∧ w'.cell? ⟨gb156, 1, none⟩ = some (.string ((rd_T54 y151 x23_3).f1)) ∧ w'.cell? (ad155.add ((x16_2).toNat * 2)) = some (.string ((rd_T54 (rd_L5 l0 x10_1) x16_2).f0)) ∧ w'.cell? ⟨(ad155.add ((x16_2).toNat * 2)).block, (ad155.add ((x16_2).toNat * 2)).off + 1, none⟩ = some (.string ((rd_T54 (rd_L5 l0 x10_1) x16_2).f1))) (ds := []) #[false, false, false, false, false, false, false, false, false, false] (by kernel_rfl) rfl rfl ⟨(blk_cell BK156.out 0).trans rfl, (blk_cell BK156.out 1).trans rfl, ((HB.out.cell (World.block_lt_of_cell? w _ hw158_0)).trans hw158_0), ((HB.out.cell (World.block_lt_of_cell? w _ hw158_1)).trans hw158_1)⟩ (fun hHeld => ?_); refine with_tabW spec_Apart.tab10 spec_Apart.bits10 (fun HT_ HW_ => ?_)
                                      generalize w19.drew = w20 at BK156 HB hx158_0 hx158_1 hHeld ⊢
                                      refine pure_ (i := 0) (N := some 27) (v := ?_) (a' := ?_) #[true, false, false, false, false, false, false, false, false, false] rfl rfl (any_of HT_.out (by kernel_rfl)) (fun _ _ _ h => h) (Or.inl ⟨by rfl, ?_⟩) ?_ ?_
                                      rotate_left
                                      · intro w'
                                        go_simp
                                        with_reducible rfl
                                      rotate_left
                                      · simp only [Act.put, List.setIfInBounds_toArray, List.set_cons_zero, List.set_cons_succ, i64_w, i32_w]
                                        rfl
                                      refine pure_ (i := 3) (N := some 30) (v := ?_) (a' := ?_) #[true, false, false, true, false, false, false, false, false, false] rfl rfl (any_of HT_.out (by kernel_rfl)) (fun _ _ _ h => h) (Or.inl ⟨by rfl, ?_⟩) ?_ ?_
                                      rotate_left
                                      · intro w'
                                        go_simp
                                        with_reducible rfl
                                      rotate_left
                                      · simp only [Act.put, List.setIfInBounds_toArray, List.set_cons_zero, List.set_cons_succ, i64_w, i32_w]
                                        rfl
                                      refine pure_ (i := 4) (N := some 31) (v := ?_) (a' := ?_) #[true, false, false, true, true, false, false, false, false, false] rfl rfl (any_of HT_.out (by kernel_rfl)) (fun _ _ _ h => h) (Or.inl ⟨by rfl, ?_⟩) ?_ ?_
                                      rotate_left
                                      · intro w'
                                        go_simp
                                        with_reducible rfl
                                      rotate_left
                                      · simp only [Act.put, List.setIfInBounds_toArray, List.set_cons_zero, List.set_cons_succ, i64_w, i32_w]
                                        rfl
                                      refine pure_ (i := 5) (N := some 32) (v := ?_) (a' := ?_) #[true, false, false, true, true, true, false, false, false, false] rfl rfl (any_of HT_.out (by kernel_rfl)) (fun _ _ _ h => h) (Or.inl ⟨by rfl, ?_⟩) ?_ ?_
                                      rotate_left
                                      · intro w'
                                        go_simp
                                        with_reducible rfl
                                      rotate_left
                                      · simp only [Act.put, List.setIfInBounds_toArray, List.set_cons_zero, List.set_cons_succ, i64_w, i32_w]
                                        rfl
                                      refine pure_ (i := 6) (N := some 33) (v := ?_) (a' := ?_) #[true, false, false, true, true, true, true, false, false, false] rfl rfl (any_of HT_.out (by kernel_rfl)) (fun _ _ _ h => h) (Or.inl ⟨by rfl, ?_⟩) ?_ ?_
                                      rotate_left
                                      · intro w'
                                        go_simp
                                        with_reducible rfl
                                      rotate_left
                                      · simp only [Act.put, List.setIfInBounds_toArray, List.set_cons_zero, List.set_cons_succ, i64_w, i32_w]
                                        rfl
                                      refine take_ (i := 1) (N := some 28) (v := ?_) (a' := ?_) #[true, true, false, true, true, true, true, false, false, false] rfl rfl (take_ofW HT_.out HW_.out (by kernel_rfl)) (fun _ _ _ h => h) (Or.inl ⟨by rfl, ?_⟩) hHeld ?_ ?_
                                      rotate_left
                                      · rintro w' ⟨s0, s1, s2, s3⟩
                                        go_simp
                                        with_reducible rfl
                                      rotate_left
                                      · simp only [Act.put, List.setIfInBounds_toArray, List.set_cons_zero, List.set_cons_succ, i64_w, i32_w]
                                        rfl
                                      refine take_ (i := 7) (N := some 34) (v := ?_) (a' := ?_) #[true, true, false, true, true, true, true, true, false, false] rfl rfl (take_ofW HT_.out HW_.out (by kernel_rfl)) (fun _ _ _ h => h) (Or.inl ⟨by rfl, ?_⟩) hHeld ?_ ?_
                                      rotate_left
                                      · rintro w' ⟨s0, s1, s2, s3⟩
                                        go_simp
                                        with_reducible rfl
                                      rotate_left
                                      · simp only [Act.put, List.setIfInBounds_toArray, List.set_cons_zero, List.set_cons_succ, i64_w, i32_w]
                                        rfl
                                      refine one_ (i := 2) (N := some 29) #[true, true, true, true, true, true, true, true, false, false] rfl rfl (one_of HT_.out (by kernel_rfl)) (by decide) (fun K hK => ?_)
                                      refine goes_ Tryd.func33 (by kernel_rfl) rfl #[.string ((rd_T54 y151 x23_3).f0)] (by rfl) rfl rfl (by (try simp only [List.map_toArray, List.map_cons, List.map_nil]); first | done | rfl | (simp only [List.length_drop, List.length_take]; rfl)) ?_
                                      with_reducible refine (spec_folded.calls ((rd_T54 y151 x23_3).f0) t157 _ A12.out).mono ?_
                                      rintro e w21 ⟨rfl, hb⟩
                                      refine ⟨_, rfl, ?_⟩
                                      have n0_ := Aside0.mk (blk_below (g := gb156) (o := .cells #[.string ((rd_T54 y151 x23_3).f0), .string ((rd_T54 y151 x23_3).f1)] 54 (0, 0)) (by (with_reducible repeat (first | refine blk_drewN ?_ _ | refine blk_drew ?_ | refine blk_alloc ?_ _)); exact BK156.out) hb)
                                      have n1_ := Aside0.mk (below_step (by repeat (first | (with_reducible first | exact HB.out | apply below_alloc | apply pw_below_drewN | apply below_drew1 | refine below_set ?_ GE156.out) | exact HB.out)) hb)
                                      clear BK156
                                      clear HB
                                      have BK156 := n0_
                                      have HB := n1_
                                      clear n0_ n1_
                                      (try clear hb)
                                      (try clear hb2)
                                      (try clear hk)
                                      (try clear hi)
                                      refine hK.out _ _ ⟨(blk_cell BK156.out 0).trans rfl, (blk_cell BK156.out 1).trans rfl, ((HB.out.cell (World.block_lt_of_cell? w _ hw158_0)).trans hw158_0), ((HB.out.cell (World.block_lt_of_cell? w _ hw158_1)).trans hw158_1)⟩ (fun hHeld => ?_)
                                      clear hK K
                                      refine norm_ (a' := ?_) ?_ ?_
                                      rotate_left
                                      · show Act.put _ (some 29) _ = _
                                        simp only [Act.put, List.setIfInBounds_toArray, List.set_cons_zero, List.set_cons_succ, i64_w, i32_w]
                                        rfl
                                      refine one_ (i := 8) (N := some 35) #[true, true, true, true, true, true, true, true, true, false] rfl rfl (one_of HT_.out (by kernel_rfl)) (by decide) (fun K hK => ?_)
                                      refine goes_ Tryd.func33 (by kernel_rfl) rfl #[.string ((rd_T54 (rd_L5 l0 x10_1) x16_2).f0)] (by rfl) rfl rfl (by (try simp only [List.map_toArray, List.map_cons, List.map_nil]); first | done | rfl | (simp only [List.length_drop, List.length_take]; rfl)) ?_
                                      with_reducible refine (spec_folded.calls ((rd_T54 (rd_L5 l0 x10_1) x16_2).f0) t159 _ A15.out).mono ?_
                                      rintro e w22 ⟨rfl, hb⟩
                                      refine ⟨_, rfl, ?_⟩
                                      have n0_ := Aside0.mk (blk_below (g := gb156) (o := .cells #[.string ((rd_T54 y151 x23_3).f0), .string ((rd_T54 y151 x23_3).f1)] 54 (0, 0)) (by (with_reducible repeat (first | refine blk_drewN ?_ _ | refine blk_drew ?_ | refine blk_alloc ?_ _)); exact BK156.out) hb)
                                      have n1_ := Aside0.mk (below_step (by repeat (first | (with_reducible first | exact HB.out | apply below_alloc | apply pw_below_drewN | apply below_drew1 | refine below_set ?_ GE156.out) | exact HB.out)) hb)
                                      clear BK156
                                      clear HB
                                      have BK156 := n0_
                                      have HB := n1_
                                      clear n0_ n1_
                                      (try clear hb)
                                      (try clear hb2)
                                      (try clear hk)
                                      (try clear hi)
                                      refine hK.out _ _ ⟨(blk_cell BK156.out 0).trans rfl, (blk_cell BK156.out 1).trans rfl, ((HB.out.cell (World.block_lt_of_cell? w _ hw158_0)).trans hw158_0), ((HB.out.cell (World.block_lt_of_cell? w _ hw158_1)).trans hw158_1)⟩ (fun hHeld => ?_)
                                      clear hK K
                                      refine norm_ (a' := ?_) ?_ ?_
                                      rotate_left
                                      · show Act.put _ (some 35) _ = _
                                        simp only [Act.put, List.setIfInBounds_toArray, List.set_cons_zero, List.set_cons_succ, i64_w, i32_w]
                                        rfl
                                      refine pure_ (i := 9) (N := some 36) (v := ?_) (a' := ?_) #[true, true, true, true, true, true, true, true, true, true] rfl rfl (any_of HT_.out (by kernel_rfl)) (fun _ _ _ h => h) (Or.inl ⟨by rfl, ?_⟩) ?_ ?_
                                      rotate_left
                                      · intro w'
                                        go_simp
                                        with_reducible rfl
                                      rotate_left
                                      · simp only [Act.put, List.setIfInBounds_toArray, List.set_cons_zero, List.set_cons_succ, i64_w, i32_w]
                                        rfl
                                      refine done_ (done_of HT_.out (by kernel_rfl)) ?_
                                      try go_wp2
                                      go_ret
                                      exact ⟨by first | rfl | (simp [errW_none, errW_some] <;> rfl) | (simp [*, errW_none, errW_some] <;> rfl), by repeat (first | (with_reducible first | exact HB.out | apply below_alloc | apply pw_below_drewN | apply below_drew1 | refine below_set ?_ GE156.out) | exact HB.out)⟩
                                    · rw [if_neg c16] at H
                                      have c16b0 : (t157.toList == t159.toList) = false := beq_eq_false_iff_ne.mpr c16
                                      have c16b1 : (t157.toList != t159.toList) = true := bne_iff_ne.mpr c16
                                      have H' := Aside0.mk H
                                      clear H
                                      have p155 : 0 ≤ (x23_3 : Int) := of_decide_eq_true (by first | (with_reducible assumption) | assumption)
                                      have q155 : x23_3 < (y151.length : Int) := of_decide_eq_true (by first | (with_reducible assumption) | assumption)
                                      obtain ⟨ad155, e155, hx155_0, hx155_1⟩ := at_T54 HR154.out x23_3 p155 q155
                                      cases e155
                                      replace hx155_0 := (HB.out.cell (World.block_lt_of_cell? w _ hx155_0)).trans hx155_0
                                      replace hx155_1 := (HB.out.cell (World.block_lt_of_cell? w _ hx155_1)).trans hx155_1
                                      replace p155 := eq_true p155
                                      replace q155 := eq_true q155
                                      try go_wp2_with (first | ((with_reducible refine gate_dst (N := 7) rfl ?_); refine box_event ?hg (N := 7) ?hd (cs := #[.string (⟨#[]⟩ : ByteArray), .string (⟨#[]⟩ : ByteArray)]) (t := 54) ?hr ?_; (case hd => rfl); (case hg => rfl); (case hr => first | (go_simp; done) | (go_simp; rfl)); intro gb156 hg w23 hbox hb; have n0_ := Aside0.mk (below_step (by repeat (first | (with_reducible first | exact HB.out | apply below_alloc | apply pw_below_drewN | apply below_drew1) | exact HB.out)) hb); have n1_ := Aside0.mk (hbox); have n2_ := Aside0.mk ((by rw [hg]; exact (below_size (by repeat (first | (with_reducible first | exact HB.out | apply below_alloc | apply pw_below_drewN | apply below_drew1) | exact HB.out))) : w.heap.size ≤ gb156)); have n3_ := Aside0.mk ((by rw [hg]; exact (below_size (by repeat (first | (with_reducible first | exact HB.out | apply below_alloc | apply pw_below_drewN | apply below_drew1) | exact HB.out))) : w.heap.size ≤ gb156)); clear HB; have HB := n0_; have BK156 := n1_; have GW156 := n2_; have GE156 := n3_; clear n0_ n1_ n2_ n3_; clear hb hbox hg; have hcz24_0 : w23.cell? ⟨gb156, 0, none⟩ = some (.string (⟨#[]⟩ : ByteArray)) := (blk_cell BK156.out 0).trans rfl; have hcz24_1 : w23.cell? ⟨gb156, 1, none⟩ = some (.string (⟨#[]⟩ : ByteArray)) := (blk_cell BK156.out 1).trans rfl; have hfz24_0 := blk_frozen BK156.out 0; have hfz24_1 := blk_frozen BK156.out 1))
                                      have n0_ : Aside0 (((w23.setCell ⟨gb156, 0, none⟩ (.string ((rd_T54 y151 x23_3).f0))).setCell ⟨gb156, 1, none⟩ (.string ((rd_T54 y151 x23_3).f1))).heap[gb156]? = some (.cells #[.string ((rd_T54 y151 x23_3).f0), .string ((rd_T54 y151 x23_3).f1)] 54 (0, 0))) := ⟨by (with_reducible repeat (first | refine blk_drewN ?_ _ | refine blk_drew ?_ | refine blk_alloc ?_ _)); refine blk_put (cs := #[.string ((rd_T54 y151 x23_3).f0), .string (⟨#[]⟩ : ByteArray)]) ?_ 1 _ rfl; (with_reducible repeat (first | refine blk_drewN ?_ _ | refine blk_drew ?_ | refine blk_alloc ?_ _)); refine blk_put (cs := #[.string (⟨#[]⟩ : ByteArray), .string (⟨#[]⟩ : ByteArray)]) ?_ 0 _ rfl; (with_reducible repeat (first | refine blk_drewN ?_ _ | refine blk_drew ?_ | refine blk_alloc ?_ _)); exact BK156.out⟩
                                      have n1_ : Aside0 (Below w.heap.size w ((w23.setCell ⟨gb156, 0, none⟩ (.string ((rd_T54 y151 x23_3).f0))).setCell ⟨gb156, 1, none⟩ (.string ((rd_T54 y151 x23_3).f1)))) := ⟨by repeat (first | (with_reducible first | exact HB.out | apply below_alloc | apply pw_below_drewN | apply below_drew1 | refine below_set ?_ GE156.out) | exact HB.out)⟩
                                      (try clear BK156)
                                      (try clear HB)
                                      generalize ((w23.setCell ⟨gb156, 0, none⟩ (.string ((rd_T54 y151 x23_3).f0))).setCell ⟨gb156, 1, none⟩ (.string ((rd_T54 y151 x23_3).f1))) = w25 at n0_ n1_ ⊢
                                      have BK156 := n0_
                                      have HB := n1_
                                      clear n0_ n1_
                                      have n0_ := Aside0.mk (blk_drew BK156.out)
                                      have n1_ := Aside0.mk (below_drew1 HB.out)
                                      clear BK156
                                      clear HB
                                      have BK156 := n0_
                                      have HB := n1_
                                      clear n0_ n1_
                                      have p158 : 0 ≤ (x16_2 : Int) := of_decide_eq_true (by first | (with_reducible assumption) | assumption)
                                      have q158 : x16_2 < ((rd_L5 l0 x10_1).length : Int) := of_decide_eq_true (by first | (with_reducible assumption) | assumption)
                                      obtain ⟨ad158, e158, hx158_0, hx158_1⟩ := at_T54 HR150_0.out x16_2 p158 q158
                                      have hw158_1 := hx158_1
                                      have hw158_0 := hx158_0
                                      obtain rfl : ad155 = ad158 := (by injection e158)
                                      replace hx158_0 := (HB.out.cell (World.block_lt_of_cell? w _ hx158_0)).trans hx158_0
                                      replace hx158_1 := (HB.out.cell (World.block_lt_of_cell? w _ hx158_1)).trans hx158_1
                                      replace p158 := eq_true p158
                                      replace q158 := eq_true q158
                                      refine start_ (n := 10) (S := fun w' => w'.cell? ⟨gb156, 0, none⟩ = some (.string ((rd_T54 y151 x23_3).f0)) ∧ w'.cell? ⟨gb156, 1, none⟩ = some (.string ((rd_T54 y151 x23_3).f1)) ∧ w'.cell? (ad155.add ((x16_2).toNat * 2)) = some (.string ((rd_T54 (rd_L5 l0 x10_1) x16_2).f0)) ∧ w'.cell? ⟨(ad155.add ((x16_2).toNat * 2)).block, (ad155.add ((x16_2).toNat * 2)).off + 1, none⟩ = some (.string ((rd_T54 (rd_L5 l0 x10_1) x16_2).f1))) (ds := []) #[false, false, false, false, false, false, false, false, false, false] (by kernel_rfl) rfl rfl ⟨(blk_cell BK156.out 0).trans rfl, (blk_cell BK156.out 1).trans rfl, ((HB.out.cell (World.block_lt_of_cell? w _ hw158_0)).trans hw158_0), ((HB.out.cell (World.block_lt_of_cell? w _ hw158_1)).trans hw158_1)⟩ (fun hHeld => ?_); refine with_tabW spec_Apart.tab10 spec_Apart.bits10 (fun HT_ HW_ => ?_)
                                      generalize w25.drew = w26 at BK156 HB hx158_0 hx158_1 hHeld ⊢
                                      refine pure_ (i := 0) (N := some 27) (v := ?_) (a' := ?_) #[true, false, false, false, false, false, false, false, false, false] rfl rfl (any_of HT_.out (by kernel_rfl)) (fun _ _ _ h => h) (Or.inl ⟨by rfl, ?_⟩) ?_ ?_
                                      rotate_left
                                      · intro w'
                                        go_simp
                                        with_reducible rfl
                                      rotate_left
                                      · simp only [Act.put, List.setIfInBounds_toArray, List.set_cons_zero, List.set_cons_succ, i64_w, i32_w]
                                        rfl
                                      refine pure_ (i := 3) (N := some 30) (v := ?_) (a' := ?_) #[true, false, false, true, false, false, false, false, false, false] rfl rfl (any_of HT_.out (by kernel_rfl)) (fun _ _ _ h => h) (Or.inl ⟨by rfl, ?_⟩) ?_ ?_
                                      rotate_left
                                      · intro w'
                                        go_simp
                                        with_reducible rfl
                                      rotate_left
                                      · simp only [Act.put, List.setIfInBounds_toArray, List.set_cons_zero, List.set_cons_succ, i64_w, i32_w]
                                        rfl
                                      refine pure_ (i := 4) (N := some 31) (v := ?_) (a' := ?_) #[true, false, false, true, true, false, false, false, false, false] rfl rfl (any_of HT_.out (by kernel_rfl)) (fun _ _ _ h => h) (Or.inl ⟨by rfl, ?_⟩) ?_ ?_
                                      rotate_left
                                      · intro w'
                                        go_simp
                                        with_reducible rfl
                                      rotate_left
                                      · simp only [Act.put, List.setIfInBounds_toArray, List.set_cons_zero, List.set_cons_succ, i64_w, i32_w]
                                        rfl
                                      refine pure_ (i := 5) (N := some 32) (v := ?_) (a' := ?_) #[true, false, false, true, true, true, false, false, false, false] rfl rfl (any_of HT_.out (by kernel_rfl)) (fun _ _ _ h => h) (Or.inl ⟨by rfl, ?_⟩) ?_ ?_
                                      rotate_left
                                      · intro w'
                                        go_simp
                                        with_reducible rfl
                                      rotate_left
                                      · simp only [Act.put, List.setIfInBounds_toArray, List.set_cons_zero, List.set_cons_succ, i64_w, i32_w]
                                        rfl
                                      refine pure_ (i := 6) (N := some 33) (v := ?_) (a' := ?_) #[true, false, false, true, true, true, true, false, false, false] rfl rfl (any_of HT_.out (by kernel_rfl)) (fun _ _ _ h => h) (Or.inl ⟨by rfl, ?_⟩) ?_ ?_
                                      rotate_left
                                      · intro w'
                                        go_simp
                                        with_reducible rfl
                                      rotate_left
                                      · simp only [Act.put, List.setIfInBounds_toArray, List.set_cons_zero, List.set_cons_succ, i64_w, i32_w]
                                        rfl
                                      refine take_ (i := 1) (N := some 28) (v := ?_) (a' := ?_) #[true, true, false, true, true, true, true, false, false, false] rfl rfl (take_ofW HT_.out HW_.out (by kernel_rfl)) (fun _ _ _ h => h) (Or.inl ⟨by rfl, ?_⟩) hHeld ?_ ?_
                                      rotate_left
                                      · rintro w' ⟨s0, s1, s2, s3⟩
                                        go_simp
                                        with_reducible rfl
                                      rotate_left
                                      · simp only [Act.put, List.setIfInBounds_toArray, List.set_cons_zero, List.set_cons_succ, i64_w, i32_w]
                                        rfl
                                      refine take_ (i := 7) (N := some 34) (v := ?_) (a' := ?_) #[true, true, false, true, true, true, true, true, false, false] rfl rfl (take_ofW HT_.out HW_.out (by kernel_rfl)) (fun _ _ _ h => h) (Or.inl ⟨by rfl, ?_⟩) hHeld ?_ ?_
                                      rotate_left
                                      · rintro w' ⟨s0, s1, s2, s3⟩
                                        go_simp
                                        with_reducible rfl
                                      rotate_left
                                      · simp only [Act.put, List.setIfInBounds_toArray, List.set_cons_zero, List.set_cons_succ, i64_w, i32_w]
                                        rfl
                                      refine one_ (i := 2) (N := some 29) #[true, true, true, true, true, true, true, true, false, false] rfl rfl (one_of HT_.out (by kernel_rfl)) (by decide) (fun K hK => ?_)
                                      refine goes_ Tryd.func33 (by kernel_rfl) rfl #[.string ((rd_T54 y151 x23_3).f0)] (by rfl) rfl rfl (by (try simp only [List.map_toArray, List.map_cons, List.map_nil]); first | done | rfl | (simp only [List.length_drop, List.length_take]; rfl)) ?_
                                      with_reducible refine (spec_folded.calls ((rd_T54 y151 x23_3).f0) t157 _ A12.out).mono ?_
                                      rintro e w27 ⟨rfl, hb⟩
                                      refine ⟨_, rfl, ?_⟩
                                      have n0_ := Aside0.mk (blk_below (g := gb156) (o := .cells #[.string ((rd_T54 y151 x23_3).f0), .string ((rd_T54 y151 x23_3).f1)] 54 (0, 0)) (by (with_reducible repeat (first | refine blk_drewN ?_ _ | refine blk_drew ?_ | refine blk_alloc ?_ _)); exact BK156.out) hb)
                                      have n1_ := Aside0.mk (below_step (by repeat (first | (with_reducible first | exact HB.out | apply below_alloc | apply pw_below_drewN | apply below_drew1 | refine below_set ?_ GE156.out) | exact HB.out)) hb)
                                      clear BK156
                                      clear HB
                                      have BK156 := n0_
                                      have HB := n1_
                                      clear n0_ n1_
                                      (try clear hb)
                                      (try clear hb2)
                                      (try clear hk)
                                      (try clear hi)
                                      refine hK.out _ _ ⟨(blk_cell BK156.out 0).trans rfl, (blk_cell BK156.out 1).trans rfl, ((HB.out.cell (World.block_lt_of_cell? w _ hw158_0)).trans hw158_0), ((HB.out.cell (World.block_lt_of_cell? w _ hw158_1)).trans hw158_1)⟩ (fun hHeld => ?_)
                                      clear hK K
                                      refine norm_ (a' := ?_) ?_ ?_
                                      rotate_left
                                      · show Act.put _ (some 29) _ = _
                                        simp only [Act.put, List.setIfInBounds_toArray, List.set_cons_zero, List.set_cons_succ, i64_w, i32_w]
                                        rfl
                                      refine one_ (i := 8) (N := some 35) #[true, true, true, true, true, true, true, true, true, false] rfl rfl (one_of HT_.out (by kernel_rfl)) (by decide) (fun K hK => ?_)
                                      refine goes_ Tryd.func33 (by kernel_rfl) rfl #[.string ((rd_T54 (rd_L5 l0 x10_1) x16_2).f0)] (by rfl) rfl rfl (by (try simp only [List.map_toArray, List.map_cons, List.map_nil]); first | done | rfl | (simp only [List.length_drop, List.length_take]; rfl)) ?_
                                      with_reducible refine (spec_folded.calls ((rd_T54 (rd_L5 l0 x10_1) x16_2).f0) t159 _ A15.out).mono ?_
                                      rintro e w28 ⟨rfl, hb⟩
                                      refine ⟨_, rfl, ?_⟩
                                      have n0_ := Aside0.mk (blk_below (g := gb156) (o := .cells #[.string ((rd_T54 y151 x23_3).f0), .string ((rd_T54 y151 x23_3).f1)] 54 (0, 0)) (by (with_reducible repeat (first | refine blk_drewN ?_ _ | refine blk_drew ?_ | refine blk_alloc ?_ _)); exact BK156.out) hb)
                                      have n1_ := Aside0.mk (below_step (by repeat (first | (with_reducible first | exact HB.out | apply below_alloc | apply pw_below_drewN | apply below_drew1 | refine below_set ?_ GE156.out) | exact HB.out)) hb)
                                      clear BK156
                                      clear HB
                                      have BK156 := n0_
                                      have HB := n1_
                                      clear n0_ n1_
                                      (try clear hb)
                                      (try clear hb2)
                                      (try clear hk)
                                      (try clear hi)
                                      refine hK.out _ _ ⟨(blk_cell BK156.out 0).trans rfl, (blk_cell BK156.out 1).trans rfl, ((HB.out.cell (World.block_lt_of_cell? w _ hw158_0)).trans hw158_0), ((HB.out.cell (World.block_lt_of_cell? w _ hw158_1)).trans hw158_1)⟩ (fun hHeld => ?_)
                                      clear hK K
                                      refine norm_ (a' := ?_) ?_ ?_
                                      rotate_left
                                      · show Act.put _ (some 35) _ = _
                                        simp only [Act.put, List.setIfInBounds_toArray, List.set_cons_zero, List.set_cons_succ, i64_w, i32_w]
                                        rfl
                                      refine pure_ (i := 9) (N := some 36) (v := ?_) (a' := ?_) #[true, true, true, true, true, true, true, true, true, true] rfl rfl (any_of HT_.out (by kernel_rfl)) (fun _ _ _ h => h) (Or.inl ⟨by rfl, ?_⟩) ?_ ?_
                                      rotate_left
                                      · intro w'
                                        go_simp
                                        with_reducible rfl
                                      rotate_left
                                      · simp only [Act.put, List.setIfInBounds_toArray, List.set_cons_zero, List.set_cons_succ, i64_w, i32_w]
                                        rfl
                                      refine done_ (done_of HT_.out (by kernel_rfl)) ?_
                                      try go_wp2
                                      go_roundg k3
                                      case measure => have := HK1.out; have := HK2.out; have := HK3.out; omega
                                      case rel => exact ⟨(wrap64 (x23_3 + 1)), (by first | rfl | (simp; done) | (simp [*]; done) | (simp; generalize ByteArray.toList _ = l_; cases l_ <;> rfl)), H', ⟨by have := HK1.out; have := HK2.out; have := HK3.out; omega⟩, ⟨by repeat (first | (with_reducible first | exact HB.out | apply below_alloc | apply pw_below_drewN | apply below_drew1 | refine below_set ?_ GE156.out) | exact HB.out)⟩⟩
                                  · rw [if_neg c14] at H
                                    exact absurd H (by simp)
                                · rw [if_neg c13] at H
                                  exact absurd H (by simp)
                              · rw [if_neg c11] at H
                                exact absurd H (by simp)
                            · rw [if_neg c10] at H
                              exact absurd H (by simp)
                          · rw [if_neg c9] at H
                            have c9b0 : decide (x23_3 < (y151.length : Int)) = false := decide_eq_false c9
                            clear c9
                            have H' := Aside0.mk H
                            clear H
                            go_wp2
                            go_roundg k3
                            case measure => have := HK1.out; have := HK2.out; have := HK3.out; omega
                            case rel => exact ⟨(wrap64 (x16_2 + 1)), (by first | rfl | (simp; done) | (simp [*]; done) | (simp; generalize ByteArray.toList _ = l_; cases l_ <;> rfl)), H', ⟨by have := HK1.out; have := HK2.out; have := HK3.out; omega⟩, ⟨by repeat (first | (with_reducible first | exact HB.out | apply below_alloc | apply pw_below_drewN | apply below_drew1) | exact HB.out)⟩⟩
                    · rw [if_neg c7] at H
                      exact absurd H (by simp)
                  · rw [if_neg c6] at H
                    exact absurd H (by simp)
                · rw [if_neg c5] at H
                  have c5b0 : decide (x16_2 < ((rd_L5 l0 x10_1).length : Int)) = false := decide_eq_false c5
                  clear c5
                  have H' := Aside0.mk H
                  clear H
                  go_wp2
                  go_roundg k2
                  case measure => have := HK1.out; have := HK2.out; omega
                  case rel => exact ⟨(wrap64 (x10_1 + 1)), (by first | rfl | (simp; done) | (simp [*]; done) | (simp; generalize ByteArray.toList _ = l_; cases l_ <;> rfl)), H', ⟨by have := HK1.out; have := HK2.out; omega⟩, ⟨by repeat (first | (with_reducible first | exact HB.out | apply below_alloc | apply pw_below_drewN | apply below_drew1) | exact HB.out)⟩⟩
          · rw [if_neg c4] at H
            exact absurd H (by simp)
        · rw [if_neg c3] at H
          exact absurd H (by simp)
      · rw [if_neg c2] at H
        have c2b0 : decide (x10_1 < (l0.length : Int)) = false := decide_eq_false c2
        clear c2
        obtain rfl := Option.some.inj H
        go_wp2
        go_ret
        exact ⟨by first | rfl | (simp [errW_none, errW_some] <;> rfl) | (simp [*, errW_none, errW_some] <;> rfl), by repeat (first | (with_reducible first | exact HB.out | apply below_alloc | apply pw_below_drewN | apply below_drew1) | exact HB.out)⟩

-- NOT PRINTED: function 34 (impl_dn)

-- NOT PRINTED: function 68 (utf8_decodeRuneInStringSlow)

-- NOT PRINTED: function 66 (utf8_DecodeRuneInString)

-- NOT PRINTED: function 69 (unicode_lookupCaseRange)

-- NOT PRINTED: function 70 (unicode_convertCase)

-- NOT PRINTED: function 67 (unicode_SimpleFold)

-- NOT PRINTED: function 65 (strings_EqualFold)

-- NOT PRINTED: function 62 (goldap_AttributeTypeAndValue_Equal)

-- NOT PRINTED: function 57 (goldap_RelativeDN_hasAllAttributes)

-- NOT PRINTED: function 50 (goldap_RelativeDN_Equal)

-- NOT PRINTED: function 35 (goldap_DN_Equal)

-- NOT PRINTED: function 16 (impl_EqualDN)

end Go.Proofs.YtcohjechpnlogaaDoor.PDN
