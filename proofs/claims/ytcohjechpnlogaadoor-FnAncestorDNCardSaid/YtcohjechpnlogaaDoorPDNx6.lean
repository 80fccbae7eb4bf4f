/- Written by a program of this session's, after the kit's printer: functions of the reference and what they compute. -/
import Derived.Test.YtcohjechpnlogaaDoorPDNx0
import Derived.Test.YtcohjechpnlogaaDoorPDNx5
namespace Go.Proofs.YtcohjechpnlogaaDoor.PDN
open Go.RowKit Go.Proofs.YtcohjechpnlogaaDoorW.PrintWords Go.Proofs.YtcohjechpnlogaaDoorW.PrintLast Go.Proofs.YtcohjechpnlogaaDoorW.PrintMore
attribute [local go_sem] max2_int min2_int max_two min_two max_three min_three max_four min_four   -- for this text's walks alone
set_option linter.unusedVariables false
set_option linter.unusedSimpArgs false

/-! ### spec_SamePart: function 36 -/
mutual
def spec_SamePart.l0 : Nat → List (S54) → List (S54) → Bool → List (S54) → Int → Int → Option (Bool)
  | 0, _, _, _, _, _, _ => none
  | k + 1, x0, x1, x2, x17, x18, x19 => if x19 < x18 then (if 0 ≤ x19 then (if x19 < (x17.length : Int) then (spec_SamePart.l1 k x0 x1 x2 false x17 x18 x19 x1 (x1.length : Int) 0 ((rd_T54 x17 x19).f0) ((rd_T54 x17 x19).f1)) else (none)) else (none)) else (spec_SamePart.l2 k x0 x1 x2 x1 (x1.length : Int) 0)
def spec_SamePart.l1 : Nat → List (S54) → List (S54) → Bool → Bool → List (S54) → Int → Int → List (S54) → Int → Int → ByteArray → ByteArray → Option (Bool)
  | 0, _, _, _, _, _, _, _, _, _, _, _, _ => none
  | k + 1, x0, x1, x2, x9, x17, x18, x19, x23, x24, x25, x168000, x168001 => if x25 < x24 then (if 0 ≤ x25 then (if x25 < (x23.length : Int) then (if x9 = true then (spec_SamePart.l1 k x0 x1 x2 true x17 x18 x19 x23 x24 (wrap64 (x25 + 1)) x168000 x168001) else ((spec_sameName.f x168000 x168001 ((rd_T54 x23 x25).f0) ((rd_T54 x23 x25).f1) x2).bind fun t170 => (spec_SamePart.l1 k x0 x1 x2 t170 x17 x18 x19 x23 x24 (wrap64 (x25 + 1)) x168000 x168001))) else (none)) else (none)) else (if x9 = true then (spec_SamePart.l0 k x0 x1 x2 x17 x18 (wrap64 (x19 + 1))) else (some false))
def spec_SamePart.l2 : Nat → List (S54) → List (S54) → Bool → List (S54) → Int → Int → Option (Bool)
  | 0, _, _, _, _, _, _ => none
  | k + 1, x0, x1, x2, x40, x41, x42 => if x42 < x41 then (if 0 ≤ x42 then (if x42 < (x40.length : Int) then (spec_SamePart.l3 k x0 x1 x2 false x40 x41 x42 x0 (x0.length : Int) 0 ((rd_T54 x40 x42).f0) ((rd_T54 x40 x42).f1)) else (none)) else (none)) else (some ((x0.length : Int) == (x1.length : Int)))
def spec_SamePart.l3 : Nat → List (S54) → List (S54) → Bool → Bool → List (S54) → Int → Int → List (S54) → Int → Int → ByteArray → ByteArray → Option (Bool)
  | 0, _, _, _, _, _, _, _, _, _, _, _, _ => none
  | k + 1, x0, x1, x2, x14, x40, x41, x42, x46, x47, x48, x173000, x173001 => if x48 < x47 then (if 0 ≤ x48 then (if x48 < (x46.length : Int) then (if x14 = true then (spec_SamePart.l3 k x0 x1 x2 true x40 x41 x42 x46 x47 (wrap64 (x48 + 1)) x173000 x173001) else ((spec_sameName.f x173000 x173001 ((rd_T54 x46 x48).f0) ((rd_T54 x46 x48).f1) x2).bind fun t175 => (spec_SamePart.l3 k x0 x1 x2 t175 x40 x41 x42 x46 x47 (wrap64 (x48 + 1)) x173000 x173001))) else (none)) else (none)) else (if x14 = true then (spec_SamePart.l2 k x0 x1 x2 x40 x41 (wrap64 (x42 + 1))) else (some false))
end
def spec_SamePart.f (k : Nat) (l0 : List (S54)) (l1 : List (S54)) (a2 : Bool) : Option (Bool) := spec_SamePart.l0 k l0 l1 a2 l0 (l0.length : Int) 0
theorem spec_SamePart.mono_l : ∀ k, (∀ y0 y1 y2 y3 y4 y5, LeO (spec_SamePart.l0 k y0 y1 y2 y3 y4 y5) (spec_SamePart.l0 (k + 1) y0 y1 y2 y3 y4 y5)) ∧ (∀ y0 y1 y2 y3 y4 y5 y6 y7 y8 y9 y10 y11, LeO (spec_SamePart.l1 k y0 y1 y2 y3 y4 y5 y6 y7 y8 y9 y10 y11) (spec_SamePart.l1 (k + 1) y0 y1 y2 y3 y4 y5 y6 y7 y8 y9 y10 y11)) ∧ (∀ y0 y1 y2 y3 y4 y5, LeO (spec_SamePart.l2 k y0 y1 y2 y3 y4 y5) (spec_SamePart.l2 (k + 1) y0 y1 y2 y3 y4 y5)) ∧ (∀ y0 y1 y2 y3 y4 y5 y6 y7 y8 y9 y10 y11, LeO (spec_SamePart.l3 k y0 y1 y2 y3 y4 y5 y6 y7 y8 y9 y10 y11) (spec_SamePart.l3 (k + 1) y0 y1 y2 y3 y4 y5 y6 y7 y8 y9 y10 y11))
  | 0 => ⟨fun _ _ _ _ _ _ r h => by simp [spec_SamePart.l0] at h, fun _ _ _ _ _ _ _ _ _ _ _ _ r h => by simp [spec_SamePart.l1] at h, fun _ _ _ _ _ _ r h => by simp [spec_SamePart.l2] at h, fun _ _ _ _ _ _ _ _ _ _ _ _ r h => by simp [spec_SamePart.l3] at h⟩
  | k + 1 => by
    obtain ⟨ih0, ih1, ih2, ih3⟩ := spec_SamePart.mono_l k
    refine ⟨?_, ?_, ?_, ?_⟩
    · intro y0 y1 y2 y3 y4 y5
      unfold spec_SamePart.l0
      repeat' first
      | (with_reducible exact ih0 _ _ _ _ _ _)
      | (with_reducible exact ih1 _ _ _ _ _ _ _ _ _ _ _ _)
      | (with_reducible exact ih2 _ _ _ _ _ _)
      | (with_reducible exact ih3 _ _ _ _ _ _ _ _ _ _ _ _)
      | (with_reducible exact LeO.refl _)
      | (with_reducible exact LeO.none _)
      | (with_reducible refine LeO.ite ?_ ?_)
      | (with_reducible refine LeO.bind ?_ (fun _ => ?_))
      | exact ih0 _ _ _ _ _ _
      | exact ih1 _ _ _ _ _ _ _ _ _ _ _ _
      | exact ih2 _ _ _ _ _ _
      | exact ih3 _ _ _ _ _ _ _ _ _ _ _ _
      | exact LeO.none _
      | refine LeO.ite ?_ ?_
      | refine LeO.bind ?_ (fun _ => ?_)
    · intro y0 y1 y2 y3 y4 y5 y6 y7 y8 y9 y10 y11
      unfold spec_SamePart.l1
      repeat' first
      | (with_reducible exact ih0 _ _ _ _ _ _)
      | (with_reducible exact ih1 _ _ _ _ _ _ _ _ _ _ _ _)
      | (with_reducible exact ih2 _ _ _ _ _ _)
      | (with_reducible exact ih3 _ _ _ _ _ _ _ _ _ _ _ _)
      | (with_reducible exact LeO.refl _)
      | (with_reducible exact LeO.none _)
      | (with_reducible refine LeO.ite ?_ ?_)
      | (with_reducible refine LeO.bind ?_ (fun _ => ?_))
      | exact ih0 _ _ _ _ _ _
      | exact ih1 _ _ _ _ _ _ _ _ _ _ _ _
      | exact ih2 _ _ _ _ _ _
      | exact ih3 _ _ _ _ _ _ _ _ _ _ _ _
      | exact LeO.none _
      | refine LeO.ite ?_ ?_
      | refine LeO.bind ?_ (fun _ => ?_)
    · intro y0 y1 y2 y3 y4 y5
      unfold spec_SamePart.l2
      repeat' first
      | (with_reducible exact ih0 _ _ _ _ _ _)
      | (with_reducible exact ih1 _ _ _ _ _ _ _ _ _ _ _ _)
      | (with_reducible exact ih2 _ _ _ _ _ _)
      | (with_reducible exact ih3 _ _ _ _ _ _ _ _ _ _ _ _)
      | (with_reducible exact LeO.refl _)
      | (with_reducible exact LeO.none _)
      | (with_reducible refine LeO.ite ?_ ?_)
      | (with_reducible refine LeO.bind ?_ (fun _ => ?_))
      | exact ih0 _ _ _ _ _ _
      | exact ih1 _ _ _ _ _ _ _ _ _ _ _ _
      | exact ih2 _ _ _ _ _ _
      | exact ih3 _ _ _ _ _ _ _ _ _ _ _ _
      | exact LeO.none _
      | refine LeO.ite ?_ ?_
      | refine LeO.bind ?_ (fun _ => ?_)
    · intro y0 y1 y2 y3 y4 y5 y6 y7 y8 y9 y10 y11
      unfold spec_SamePart.l3
      repeat' first
      | (with_reducible exact ih0 _ _ _ _ _ _)
      | (with_reducible exact ih1 _ _ _ _ _ _ _ _ _ _ _ _)
      | (with_reducible exact ih2 _ _ _ _ _ _)
      | (with_reducible exact ih3 _ _ _ _ _ _ _ _ _ _ _ _)
      | (with_reducible exact LeO.refl _)
      | (with_reducible exact LeO.none _)
      | (with_reducible refine LeO.ite ?_ ?_)
      | (with_reducible refine LeO.bind ?_ (fun _ => ?_))
      | exact ih0 _ _ _ _ _ _
      | exact ih1 _ _ _ _ _ _ _ _ _ _ _ _
      | exact ih2 _ _ _ _ _ _
      | exact ih3 _ _ _ _ _ _ _ _ _ _ _ _
      | exact LeO.none _
      | refine LeO.ite ?_ ?_
      | refine LeO.bind ?_ (fun _ => ?_)
theorem spec_SamePart.mono : ∀ a0 a1 a2 k, LeO (spec_SamePart.f k a0 a1 a2) (spec_SamePart.f (k + 1) a0 a1 a2) := by
  intro a0 a1 a2 k
  obtain ⟨ih0, ih1, ih2, ih3⟩ := spec_SamePart.mono_l k
  unfold spec_SamePart.f
  repeat' first
      | (with_reducible exact ih0 _ _ _ _ _ _)
      | (with_reducible exact ih1 _ _ _ _ _ _ _ _ _ _ _ _)
      | (with_reducible exact ih2 _ _ _ _ _ _)
      | (with_reducible exact ih3 _ _ _ _ _ _ _ _ _ _ _ _)
      | (with_reducible exact LeO.refl _)
      | (with_reducible exact LeO.none _)
      | (with_reducible refine LeO.ite ?_ ?_)
      | (with_reducible refine LeO.bind ?_ (fun _ => ?_))
      | exact ih0 _ _ _ _ _ _
      | exact ih1 _ _ _ _ _ _ _ _ _ _ _ _
      | exact ih2 _ _ _ _ _ _
      | exact ih3 _ _ _ _ _ _ _ _ _ _ _ _
      | exact LeO.none _
      | refine LeO.ite ?_ ?_
      | refine LeO.bind ?_ (fun _ => ?_)
set_option maxHeartbeats 8000000 in
set_option maxRecDepth 100000 in
theorem spec_SamePart.calls (k : Nat) (A0 : Option Addr) (c0 : Nat) (l0 : List (S54)) (A1 : Option Addr) (c1 : Nat) (l1 : List (S54)) (a2 : Bool) (r : Bool) (w : World) (hr0 : Kd.C k54 w A0 l0.length l0) (hc0 : l0.length ≤ c0) (hr1 : Kd.C k54 w A1 l1.length l1) (hc1 : l1.length ≤ c1) (h : spec_SamePart.f k l0 l1 a2 = some r) :
    Calls Tryd.prog 36 #[.slice A0 l0.length c0, .slice A1 l1.length c1, .bool a2] w fun e w' => e = .returned (.bool r) ∧ Below w.heap.size w w' := by
  have hu54 := Tryd.underlying54
  have HR0 := Aside0.mk hr0
  have HC0 := Aside0.mk hc0
  clear hr0 hc0
  have HR1 := Aside0.mk hr1
  have HC1 := Aside0.mk hc1
  clear hr1 hc1
  have HB := Aside0.mk (Below.refl w.heap.size w)
  have H : (spec_SamePart.l0 k l0 l1 a2 l0 (l0.length : Int) 0) = some r := h
  clear h
  have H' := Aside0.mk H
  clear H
  go_enter Tryd.func36, Tryd.ntmps36
  go_wp2
  go_loopg [19] k (fun kq v19 w' => ∃ (x19_1 : Int), v19 = .int .i64 x19_1 ∧ Aside0 (spec_SamePart.l0 kq l0 l1 a2 l0 (l0.length : Int) x19_1 = some r) ∧ Aside0 (kq ≤ k) ∧ Aside0 (Below w.heap.size w w'))
  case atStart => exact ⟨(0), (by first | rfl | (simp; done) | (simp [*]; done) | (simp; generalize ByteArray.toList _ = l_; cases l_ <;> rfl)), H', ⟨Nat.le_refl _⟩, ⟨by repeat (first | (with_reducible first | exact HB.out | apply below_alloc | apply pw_below_drewN | apply below_drew1) | exact HB.out)⟩⟩
  case round =>
    clear H'
    try clear c1
    try clear p2
    try clear c3
    obtain ⟨x19_1, rfl, HA, HK1, HB⟩ := hrel
    cases gk with
    | zero => exact absurd HA.out (by simp [spec_SamePart.l0])
    | succ k1 =>
      have H := HA.out
      clear HA
      simp only [spec_SamePart.l0] at H
      by_cases c4 : x19_1 < (l0.length : Int)
      · rw [if_pos c4] at H
        have c4b0 : decide (x19_1 < (l0.length : Int)) = true := decide_eq_true c4
        clear c4
        by_cases c5 : 0 ≤ x19_1
        · rw [if_pos c5] at H
          have c5b0 : decide (0 ≤ x19_1) = true := decide_eq_true c5
          clear c5
          by_cases c6 : x19_1 < (l0.length : Int)
          · rw [if_pos c6] at H
            have c6b0 : decide (x19_1 < (l0.length : Int)) = true := decide_eq_true c6
            clear c6
            have H' := Aside0.mk H
            clear H
            have p166 : 0 ≤ (x19_1 : Int) := of_decide_eq_true (by first | (with_reducible assumption) | assumption)
            have q166 : x19_1 < (l0.length : Int) := of_decide_eq_true (by first | (with_reducible assumption) | assumption)
            obtain ⟨ad166, e166, hx166_0, hx166_1⟩ := at_T54 HR0.out x19_1 p166 q166
            cases e166
            replace hx166_0 := (HB.out.cell (World.block_lt_of_cell? w _ hx166_0)).trans hx166_0
            replace hx166_1 := (HB.out.cell (World.block_lt_of_cell? w _ hx166_1)).trans hx166_1
            replace p166 := eq_true p166
            replace q166 := eq_true q166
            go_wp2_with (first | ((with_reducible refine gate_dst (N := 8) rfl ?_); refine box_event ?hg (N := 8) ?hd (cs := #[.string (⟨#[]⟩ : ByteArray), .string (⟨#[]⟩ : ByteArray)]) (t := 54) ?hr ?_; (case hd => rfl); (case hg => rfl); (case hr => first | (go_simp; done) | (go_simp; rfl)); intro gb167 hg w7 hbox hb; have n0_ := Aside0.mk (below_step (by repeat (first | (with_reducible first | exact HB.out | apply below_alloc | apply pw_below_drewN | apply below_drew1) | exact HB.out)) hb); have n1_ := Aside0.mk (hbox); have n2_ := Aside0.mk ((by rw [hg]; exact (below_size (by repeat (first | (with_reducible first | exact HB.out | apply below_alloc | apply pw_below_drewN | apply below_drew1) | exact HB.out))) : w.heap.size ≤ gb167)); have n3_ := Aside0.mk ((by rw [hg]; exact (below_size (by repeat (first | (with_reducible first | exact HB.out | apply below_alloc | apply pw_below_drewN | apply below_drew1) | exact HB.out))) : w.heap.size ≤ gb167)); clear HB; have HB := n0_; have BK167 := n1_; have GW167 := n2_; have GE167 := n3_; clear n0_ n1_ n2_ n3_; clear hb hbox hg; have hcz8_0 : w7.cell? ⟨gb167, 0, none⟩ = some (.string (⟨#[]⟩ : ByteArray)) := (blk_cell BK167.out 0).trans rfl; have hcz8_1 : w7.cell? ⟨gb167, 1, none⟩ = some (.string (⟨#[]⟩ : ByteArray)) := (blk_cell BK167.out 1).trans rfl; have hfz8_0 := blk_frozen BK167.out 0; have hfz8_1 := blk_frozen BK167.out 1))
            go_loopg [9, 25] k1 (fun kq v9 v25 w' => ∃ (x9_2 : Bool) (x25_2 : Int), v9 = .bool x9_2 ∧ v25 = .int .i64 x25_2 ∧ Aside0 (spec_SamePart.l1 kq l0 l1 a2 x9_2 l0 (l0.length : Int) x19_1 l1 (l1.length : Int) x25_2 ((rd_T54 l0 x19_1).f0) ((rd_T54 l0 x19_1).f1) = some r) ∧ Aside0 (kq ≤ k1) ∧ Aside0 (w'.heap[gb167]? = some (.cells #[.string ((rd_T54 l0 x19_1).f0), .string ((rd_T54 l0 x19_1).f1)] 54 (0, 0))) ∧ Aside0 (Below w.heap.size w w'))
            case atStart => exact ⟨(false), (0), (by first | rfl | (simp; done) | (simp [*]; done) | (simp; generalize ByteArray.toList _ = l_; cases l_ <;> rfl)), (by first | rfl | (simp; done) | (simp [*]; done) | (simp; generalize ByteArray.toList _ = l_; cases l_ <;> rfl)), H', ⟨Nat.le_refl _⟩, ⟨by (with_reducible repeat (first | refine blk_drewN ?_ _ | refine blk_drew ?_ | refine blk_alloc ?_ _)); refine blk_put (cs := #[.string ((rd_T54 l0 x19_1).f0), .string (⟨#[]⟩ : ByteArray)]) ?_ 1 _ rfl; (with_reducible repeat (first | refine blk_drewN ?_ _ | refine blk_drew ?_ | refine blk_alloc ?_ _)); refine blk_put (cs := #[.string (⟨#[]⟩ : ByteArray), .string (⟨#[]⟩ : ByteArray)]) ?_ 0 _ rfl; (with_reducible repeat (first | refine blk_drewN ?_ _ | refine blk_drew ?_ | refine blk_alloc ?_ _)); exact BK167.out⟩, ⟨by repeat (first | (with_reducible first | exact HB.out | apply below_alloc | apply pw_below_drewN | apply below_drew1 | refine below_set ?_ GE167.out) | exact HB.out)⟩⟩
            case round =>
              clear H'
              try clear c1
              try clear p1
              try clear q1
              try clear hx1
              try clear p2
              try clear c3
              try clear c4
              try clear c4b0
              try clear c5
              try clear c5b0
              try clear c6
              try clear c6b0
              try clear hcz8_0
              try clear hcz8_1
              try clear hfz8_0
              try clear hfz8_1
              try clear hx166_0
              try clear hx166_1
              try clear p166
              try clear p2
              try clear q166
              obtain ⟨x9_2, x25_2, rfl, rfl, HA, HK2, BK167, HB⟩ := hrel
              cases gk with
              | zero => exact absurd HA.out (by simp [spec_SamePart.l1])
              | succ k2 =>
                have H := HA.out
                clear HA
                simp only [spec_SamePart.l1] at H
                by_cases c9 : x25_2 < (l1.length : Int)
                · rw [if_pos c9] at H
                  have c9b0 : decide (x25_2 < (l1.length : Int)) = true := decide_eq_true c9
                  clear c9
                  by_cases c10 : 0 ≤ x25_2
                  · rw [if_pos c10] at H
                    have c10b0 : decide (0 ≤ x25_2) = true := decide_eq_true c10
                    clear c10
                    by_cases c11 : x25_2 < (l1.length : Int)
                    · rw [if_pos c11] at H
                      have c11b0 : decide (x25_2 < (l1.length : Int)) = true := decide_eq_true c11
                      clear c11
                      by_cases c12 : x9_2 = true
                      · subst c12
                        have H1 : (spec_SamePart.l1 k2 l0 l1 a2 true l0 (l0.length : Int) x19_1 l1 (l1.length : Int) (wrap64 (x25_2 + 1)) ((rd_T54 l0 x19_1).f0) ((rd_T54 l0 x19_1).f1)) = some r := by rw [if_pos rfl] at H; exact H
                        clear H
                        have H := H1
                        clear H1
                        have H' := Aside0.mk H
                        clear H
                        have p168 : 0 ≤ (x25_2 : Int) := of_decide_eq_true (by first | (with_reducible assumption) | assumption)
                        have q168 : x25_2 < (l1.length : Int) := of_decide_eq_true (by first | (with_reducible assumption) | assumption)
                        obtain ⟨ad168, e168, hx168_0, hx168_1⟩ := at_T54 HR1.out x25_2 p168 q168
                        cases e168
                        replace hx168_0 := (HB.out.cell (World.block_lt_of_cell? w _ hx168_0)).trans hx168_0
                        replace hx168_1 := (HB.out.cell (World.block_lt_of_cell? w _ hx168_1)).trans hx168_1
                        replace p168 := eq_true p168
                        replace q168 := eq_true q168
                        go_wp2_with (first | ((with_reducible refine gate_dst (N := 11) rfl ?_); refine box_event ?hg (N := 11) ?hd (cs := #[.string (⟨#[]⟩ : ByteArray), .string (⟨#[]⟩ : ByteArray)]) (t := 54) ?hr ?_; (case hd => rfl); (case hg => rfl); (case hr => first | (go_simp; done) | (go_simp; rfl)); intro gb169 hg w13 hbox hb; have n0_ := Aside0.mk (blk_below (g := gb167) (o := .cells #[.string ((rd_T54 l0 x19_1).f0), .string ((rd_T54 l0 x19_1).f1)] 54 (0, 0)) (by (with_reducible repeat (first | refine blk_drewN ?_ _ | refine blk_drew ?_ | refine blk_alloc ?_ _)); exact BK167.out) hb); have n1_ := Aside0.mk (below_step (by repeat (first | (with_reducible first | exact HB.out | apply below_alloc | apply pw_below_drewN | apply below_drew1 | refine below_set ?_ GE167.out) | exact HB.out)) hb); have n2_ := Aside0.mk (hbox); have n3_ := Aside0.mk ((by rw [hg]; exact (below_size (by repeat (first | (with_reducible first | exact HB.out | apply below_alloc | apply pw_below_drewN | apply below_drew1 | refine below_set ?_ GE167.out) | exact HB.out))) : w.heap.size ≤ gb169)); have n4_ := Aside0.mk ((by rw [hg]; exact (below_size (by repeat (first | (with_reducible first | exact HB.out | apply below_alloc | apply pw_below_drewN | apply below_drew1 | refine below_set ?_ GE167.out) | exact HB.out))) : w.heap.size ≤ gb169)); have n5_ := Aside0.mk ((by rw [hg]; exact Nat.ne_of_lt (blk_lt (g := gb167) (o := .cells #[.string ((rd_T54 l0 x19_1).f0), .string ((rd_T54 l0 x19_1).f1)] 54 (0, 0)) (by (with_reducible repeat (first | refine blk_drewN ?_ _ | refine blk_drew ?_ | refine blk_alloc ?_ _)); exact BK167.out)) : gb167 ≠ gb169)); have n6_ := Aside0.mk ((by rw [hg]; exact Nat.ne_of_gt (blk_lt (g := gb167) (o := .cells #[.string ((rd_T54 l0 x19_1).f0), .string ((rd_T54 l0 x19_1).f1)] 54 (0, 0)) (by (with_reducible repeat (first | refine blk_drewN ?_ _ | refine blk_drew ?_ | refine blk_alloc ?_ _)); exact BK167.out)) : gb169 ≠ gb167)); clear BK167; clear HB; have BK167 := n0_; have HB := n1_; have BK169 := n2_; have GW169 := n3_; have GE169 := n4_; have NB167_169 := n5_; have NB169_167 := n6_; clear n0_ n1_ n2_ n3_ n4_ n5_ n6_; clear hb hbox hg; have hnb14 := NB169_167.out; have hnc14 := NB167_169.out; have hcz15_0 : w13.cell? ⟨gb169, 0, none⟩ = some (.string (⟨#[]⟩ : ByteArray)) := (blk_cell BK169.out 0).trans rfl; have hcz15_1 : w13.cell? ⟨gb169, 1, none⟩ = some (.string (⟨#[]⟩ : ByteArray)) := (blk_cell BK169.out 1).trans rfl; have hfz15_0 := blk_frozen BK169.out 0; have hfz15_1 := blk_frozen BK169.out 1))
                        go_roundg k2
                        case measure => have := HK1.out; have := HK2.out; omega
                        case rel => exact ⟨(true), (wrap64 (x25_2 + 1)), (by first | rfl | (simp; done) | (simp [*]; done) | (simp; generalize ByteArray.toList _ = l_; cases l_ <;> rfl)), (by first | rfl | (simp; done) | (simp [*]; done) | (simp; generalize ByteArray.toList _ = l_; cases l_ <;> rfl)), H', ⟨by have := HK1.out; have := HK2.out; omega⟩, ⟨by (with_reducible repeat (first | refine blk_drewN ?_ _ | refine blk_drew ?_ | refine blk_alloc ?_ _)); refine blk_far ?_ NB167_169.out _; (with_reducible repeat (first | refine blk_drewN ?_ _ | refine blk_drew ?_ | refine blk_alloc ?_ _)); refine blk_far ?_ NB167_169.out _; (with_reducible repeat (first | refine blk_drewN ?_ _ | refine blk_drew ?_ | refine blk_alloc ?_ _)); exact BK167.out⟩, ⟨by repeat (first | (with_reducible first | exact HB.out | apply below_alloc | apply pw_below_drewN | apply below_drew1 | refine below_set ?_ GE167.out | refine below_set ?_ GE169.out) | exact HB.out)⟩⟩
                      · replace c12 := Bool.eq_false_iff.mpr c12
                        subst c12
                        have H1 : ((spec_sameName.f ((rd_T54 l0 x19_1).f0) ((rd_T54 l0 x19_1).f1) ((rd_T54 l1 x25_2).f0) ((rd_T54 l1 x25_2).f1) a2).bind fun t170 => (spec_SamePart.l1 k2 l0 l1 a2 t170 l0 (l0.length : Int) x19_1 l1 (l1.length : Int) (wrap64 (x25_2 + 1)) ((rd_T54 l0 x19_1).f0) ((rd_T54 l0 x19_1).f1))) = some r := by rw [if_neg (show ¬ (false = true) by decide)] at H; exact H
                        clear H
                        have H := H1
                        clear H1
                        replace H := Option.bind_eq_some_iff.mp H
                        obtain ⟨t170, A160, H⟩ := H
                        replace H : (spec_SamePart.l1 k2 l0 l1 a2 t170 l0 (l0.length : Int) x19_1 l1 (l1.length : Int) (wrap64 (x25_2 + 1)) ((rd_T54 l0 x19_1).f0) ((rd_T54 l0 x19_1).f1)) = some r := H
                        have A16 := Aside0.mk A160
                        clear A160
                        have H' := Aside0.mk H
                        clear H
                        have p168 : 0 ≤ (x25_2 : Int) := of_decide_eq_true (by first | (with_reducible assumption) | assumption)
                        have q168 : x25_2 < (l1.length : Int) := of_decide_eq_true (by first | (with_reducible assumption) | assumption)
                        obtain ⟨ad168, e168, hx168_0, hx168_1⟩ := at_T54 HR1.out x25_2 p168 q168
                        cases e168
                        replace hx168_0 := (HB.out.cell (World.block_lt_of_cell? w _ hx168_0)).trans hx168_0
                        replace hx168_1 := (HB.out.cell (World.block_lt_of_cell? w _ hx168_1)).trans hx168_1
                        replace p168 := eq_true p168
                        replace q168 := eq_true q168
                        go_wp2_with (first | ((with_reducible refine gate_dst (N := 11) rfl ?_); refine box_event ?hg (N := 11) ?hd (cs := #[.string (⟨#[]⟩ : ByteArray), .string (⟨#[]⟩ : ByteArray)]) (t := 54) ?hr ?_; (case hd => rfl); (case hg => rfl); (case hr => first | (go_simp; done) | (go_simp; rfl)); intro gb169 hg w17 hbox hb; have n0_ := Aside0.mk (blk_below (g := gb167) (o := .cells #[.string ((rd_T54 l0 x19_1).f0), .string ((rd_T54 l0 x19_1).f1)] 54 (0, 0)) (by (with_reducible repeat (first | refine blk_drewN ?_ _ | refine blk_drew ?_ | refine blk_alloc ?_ _)); exact BK167.out) hb); have n1_ := Aside0.mk (below_step (by repeat (first | (with_reducible first | exact HB.out | apply below_alloc | apply pw_below_drewN | apply below_drew1 | refine below_set ?_ GE167.out) | exact HB.out)) hb); have n2_ := Aside0.mk (hbox); have n3_ := Aside0.mk ((by rw [hg]; exact (below_size (by repeat (first | (with_reducible first | exact HB.out | apply below_alloc | apply pw_below_drewN | apply below_drew1 | refine below_set ?_ GE167.out) | exact HB.out))) : w.heap.size ≤ gb169)); have n4_ := Aside0.mk ((by rw [hg]; exact (below_size (by repeat (first | (with_reducible first | exact HB.out | apply below_alloc | apply pw_below_drewN | apply below_drew1 | refine below_set ?_ GE167.out) | exact HB.out))) : w.heap.size ≤ gb169)); have n5_ := Aside0.mk ((by rw [hg]; exact Nat.ne_of_lt (blk_lt (g := gb167) (o := .cells #[.string ((rd_T54 l0 x19_1).f0), .string ((rd_T54 l0 x19_1).f1)] 54 (0, 0)) (by (with_reducible repeat (first | refine blk_drewN ?_ _ | refine blk_drew ?_ | refine blk_alloc ?_ _)); exact BK167.out)) : gb167 ≠ gb169)); have n6_ := Aside0.mk ((by rw [hg]; exact Nat.ne_of_gt (blk_lt (g := gb167) (o := .cells #[.string ((rd_T54 l0 x19_1).f0), .string ((rd_T54 l0 x19_1).f1)] 54 (0, 0)) (by (with_reducible repeat (first | refine blk_drewN ?_ _ | refine blk_drew ?_ | refine blk_alloc ?_ _)); exact BK167.out)) : gb169 ≠ gb167)); clear BK167; clear HB; have BK167 := n0_; have HB := n1_; have BK169 := n2_; have GW169 := n3_; have GE169 := n4_; have NB167_169 := n5_; have NB169_167 := n6_; clear n0_ n1_ n2_ n3_ n4_ n5_ n6_; clear hb hbox hg; have hnb18 := NB169_167.out; have hnc18 := NB167_169.out; have hcz19_0 : w17.cell? ⟨gb169, 0, none⟩ = some (.string (⟨#[]⟩ : ByteArray)) := (blk_cell BK169.out 0).trans rfl; have hcz19_1 : w17.cell? ⟨gb169, 1, none⟩ = some (.string (⟨#[]⟩ : ByteArray)) := (blk_cell BK169.out 1).trans rfl; have hfz19_0 := blk_frozen BK169.out 0; have hfz19_1 := blk_frozen BK169.out 1; have hcz20_0 : w17.cell? ⟨gb167, 0, none⟩ = some (.string ((rd_T54 l0 x19_1).f0)) := (blk_cell BK167.out 0).trans rfl; have hcz20_1 : w17.cell? ⟨gb167, 1, none⟩ = some (.string ((rd_T54 l0 x19_1).f1)) := (blk_cell BK167.out 1).trans rfl; have hfz20_0 := blk_frozen BK167.out 0; have hfz20_1 := blk_frozen BK167.out 1) | (go_at_call 51; (with_reducible refine (spec_sameName.calls ((rd_T54 l0 x19_1).f0) ((rd_T54 l0 x19_1).f1) ((rd_T54 l1 x25_2).f0) ((rd_T54 l1 x25_2).f1) a2 t170 _ A16.out).mono ?_); rintro e w21 ⟨rfl, hb⟩; have n0_ := Aside0.mk (blk_below (g := gb167) (o := .cells #[.string ((rd_T54 l0 x19_1).f0), .string ((rd_T54 l0 x19_1).f1)] 54 (0, 0)) (by (with_reducible repeat (first | refine blk_drewN ?_ _ | refine blk_drew ?_ | refine blk_alloc ?_ _)); refine blk_far ?_ NB167_169.out _; (with_reducible repeat (first | refine blk_drewN ?_ _ | refine blk_drew ?_ | refine blk_alloc ?_ _)); refine blk_far ?_ NB167_169.out _; (with_reducible repeat (first | refine blk_drewN ?_ _ | refine blk_drew ?_ | refine blk_alloc ?_ _)); exact BK167.out) hb); have n1_ := Aside0.mk (blk_below (g := gb169) (o := .cells #[.string ((rd_T54 l1 x25_2).f0), .string ((rd_T54 l1 x25_2).f1)] 54 (0, 0)) (by (with_reducible repeat (first | refine blk_drewN ?_ _ | refine blk_drew ?_ | refine blk_alloc ?_ _)); refine blk_put (cs := #[.string ((rd_T54 l1 x25_2).f0), .string (⟨#[]⟩ : ByteArray)]) ?_ 1 _ rfl; (with_reducible repeat (first | refine blk_drewN ?_ _ | refine blk_drew ?_ | refine blk_alloc ?_ _)); refine blk_put (cs := #[.string (⟨#[]⟩ : ByteArray), .string (⟨#[]⟩ : ByteArray)]) ?_ 0 _ rfl; (with_reducible repeat (first | refine blk_drewN ?_ _ | refine blk_drew ?_ | refine blk_alloc ?_ _)); exact BK169.out) hb); have n2_ := Aside0.mk (below_step (by repeat (first | (with_reducible first | exact HB.out | apply below_alloc | apply pw_below_drewN | apply below_drew1 | refine below_set ?_ GE167.out | refine below_set ?_ GE169.out) | exact HB.out)) hb); clear BK167; clear BK169; clear HB; have BK167 := n0_; have BK169 := n1_; have HB := n2_; clear n0_ n1_ n2_; (try clear hb); (try clear hb2); (try clear hk); (try clear hi)))
                        go_roundg k2
                        case measure => have := HK1.out; have := HK2.out; omega
                        case rel => exact ⟨(t170), (wrap64 (x25_2 + 1)), (by first | rfl | (simp; done) | (simp [*]; done) | (simp; generalize ByteArray.toList _ = l_; cases l_ <;> rfl)), (by first | rfl | (simp; done) | (simp [*]; done) | (simp; generalize ByteArray.toList _ = l_; cases l_ <;> rfl)), H', ⟨by have := HK1.out; have := HK2.out; omega⟩, ⟨by (with_reducible repeat (first | refine blk_drewN ?_ _ | refine blk_drew ?_ | refine blk_alloc ?_ _)); exact BK167.out⟩, ⟨by repeat (first | (with_reducible first | exact HB.out | apply below_alloc | apply pw_below_drewN | apply below_drew1 | refine below_set ?_ GE167.out | refine below_set ?_ GE169.out) | exact HB.out)⟩⟩
                    · rw [if_neg c11] at H
                      exact absurd H (by simp)
                  · rw [if_neg c10] at H
                    exact absurd H (by simp)
                · rw [if_neg c9] at H
                  have c9b0 : decide (x25_2 < (l1.length : Int)) = false := decide_eq_false c9
                  clear c9
                  by_cases c22 : x9_2 = true
                  · subst c22
                    have H1 : (spec_SamePart.l0 k2 l0 l1 a2 l0 (l0.length : Int) (wrap64 (x19_1 + 1))) = some r := by rw [if_pos rfl] at H; exact H
                    clear H
                    have H := H1
                    clear H1
                    have H' := Aside0.mk H
                    clear H
                    go_wp2
                    go_roundg k2
                    case measure => have := HK1.out; have := HK2.out; omega
                    case rel => exact ⟨(wrap64 (x19_1 + 1)), (by first | rfl | (simp; done) | (simp [*]; done) | (simp; generalize ByteArray.toList _ = l_; cases l_ <;> rfl)), H', ⟨by have := HK1.out; have := HK2.out; omega⟩, ⟨by repeat (first | (with_reducible first | exact HB.out | apply below_alloc | apply pw_below_drewN | apply below_drew1 | refine below_set ?_ GE167.out) | exact HB.out)⟩⟩
                  · replace c22 := Bool.eq_false_iff.mpr c22
                    subst c22
                    have H1 : (some false) = some r := by rw [if_neg (show ¬ (false = true) by decide)] at H; exact H
                    clear H
                    have H := H1
                    clear H1
                    obtain rfl := Option.some.inj H
                    go_wp2
                    go_ret
                    exact ⟨by first | rfl | (simp [errW_none, errW_some] <;> rfl) | (simp [*, errW_none, errW_some] <;> rfl), by repeat (first | (with_reducible first | exact HB.out | apply below_alloc | apply pw_below_drewN | apply below_drew1 | refine below_set ?_ GE167.out) | exact HB.out)⟩
          · rw [if_neg c6] at H
            exact absurd H (by simp)
        · rw [if_neg c5] at H
          exact absurd H (by simp)
      · rw [if_neg c4] at H
        have c4b0 : decide (x19_1 < (l0.length : Int)) = false := decide_eq_false c4
        clear c4
        have H' := Aside0.mk H
        clear H
        go_wp2
        go_loopg [42] k1 (fun kq v42 w' => ∃ (x42_2 : Int), v42 = .int .i64 x42_2 ∧ Aside0 (spec_SamePart.l2 kq l0 l1 a2 l1 (l1.length : Int) x42_2 = some r) ∧ Aside0 (kq ≤ k1) ∧ Aside0 (Below w.heap.size w w'))
        case atStart => exact ⟨(0), (by first | rfl | (simp; done) | (simp [*]; done) | (simp; generalize ByteArray.toList _ = l_; cases l_ <;> rfl)), H', ⟨Nat.le_refl _⟩, ⟨by repeat (first | (with_reducible first | exact HB.out | apply below_alloc | apply pw_below_drewN | apply below_drew1) | exact HB.out)⟩⟩
        case round =>
          clear H'
          try clear c1
          try clear p1
          try clear q1
          try clear hx1
          try clear c2
          try clear p2
          try clear c3
          try clear c4
          try clear c4b0
          try clear c5
          try clear c5b0
          try clear c6
          try clear c6b0
          try clear p6
          try clear c9
          try clear c9b0
          try clear c10
          try clear c10b0
          try clear c11
          try clear c11b0
          try clear c12
          try clear c14
          try clear p16
          try clear q16
          try clear hx16
          try clear c18
          try clear c22
          try clear hcz15_0
          try clear hcz15_1
          try clear hcz19_0
          try clear hcz19_1
          try clear hcz20_0
          try clear hcz20_1
          try clear hcz8_0
          try clear hcz8_1
          try clear hfz15_0
          try clear hfz15_1
          try clear hfz19_0
          try clear hfz19_1
          try clear hfz20_0
          try clear hfz20_1
          try clear hfz8_0
          try clear hfz8_1
          try clear hx166_0
          try clear hx166_1
          try clear hx168_0
          try clear hx168_1
          try clear p1
          try clear p166
          try clear p168
          try clear p2
          try clear q1
          try clear q166
          try clear q168
          obtain ⟨x42_2, rfl, HA, HK2, HB⟩ := hrel
          cases gk with
          | zero => exact absurd HA.out (by simp [spec_SamePart.l2])
          | succ k2 =>
            have H := HA.out
            clear HA
            simp only [spec_SamePart.l2] at H
            by_cases c23 : x42_2 < (l1.length : Int)
            · rw [if_pos c23] at H
              have c23b0 : decide (x42_2 < (l1.length : Int)) = true := decide_eq_true c23
              clear c23
              by_cases c24 : 0 ≤ x42_2
              · rw [if_pos c24] at H
                have c24b0 : decide (0 ≤ x42_2) = true := decide_eq_true c24
                clear c24
                by_cases c25 : x42_2 < (l1.length : Int)
                · rw [if_pos c25] at H
                  have c25b0 : decide (x42_2 < (l1.length : Int)) = true := decide_eq_true c25
                  clear c25
                  have H' := Aside0.mk H
                  clear H
                  have p171 : 0 ≤ (x42_2 : Int) := of_decide_eq_true (by first | (with_reducible assumption) | assumption)
                  have q171 : x42_2 < (l1.length : Int) := of_decide_eq_true (by first | (with_reducible assumption) | assumption)
                  obtain ⟨ad171, e171, hx171_0, hx171_1⟩ := at_T54 HR1.out x42_2 p171 q171
                  cases e171
                  replace hx171_0 := (HB.out.cell (World.block_lt_of_cell? w _ hx171_0)).trans hx171_0
                  replace hx171_1 := (HB.out.cell (World.block_lt_of_cell? w _ hx171_1)).trans hx171_1
                  replace p171 := eq_true p171
                  replace q171 := eq_true q171
                  go_wp2_with (first | ((with_reducible refine gate_dst (N := 13) rfl ?_); refine box_event ?hg (N := 13) ?hd (cs := #[.string (⟨#[]⟩ : ByteArray), .string (⟨#[]⟩ : ByteArray)]) (t := 54) ?hr ?_; (case hd => rfl); (case hg => rfl); (case hr => first | (go_simp; done) | (go_simp; rfl)); intro gb172 hg w26 hbox hb; have n0_ := Aside0.mk (below_step (by repeat (first | (with_reducible first | exact HB.out | apply below_alloc | apply pw_below_drewN | apply below_drew1) | exact HB.out)) hb); have n1_ := Aside0.mk (hbox); have n2_ := Aside0.mk ((by rw [hg]; exact (below_size (by repeat (first | (with_reducible first | exact HB.out | apply below_alloc | apply pw_below_drewN | apply below_drew1) | exact HB.out))) : w.heap.size ≤ gb172)); have n3_ := Aside0.mk ((by rw [hg]; exact (below_size (by repeat (first | (with_reducible first | exact HB.out | apply below_alloc | apply pw_below_drewN | apply below_drew1) | exact HB.out))) : w.heap.size ≤ gb172)); clear HB; have HB := n0_; have BK172 := n1_; have GW172 := n2_; have GE172 := n3_; clear n0_ n1_ n2_ n3_; clear hb hbox hg; have hcz27_0 : w26.cell? ⟨gb172, 0, none⟩ = some (.string (⟨#[]⟩ : ByteArray)) := (blk_cell BK172.out 0).trans rfl; have hcz27_1 : w26.cell? ⟨gb172, 1, none⟩ = some (.string (⟨#[]⟩ : ByteArray)) := (blk_cell BK172.out 1).trans rfl; have hfz27_0 := blk_frozen BK172.out 0; have hfz27_1 := blk_frozen BK172.out 1))
                  go_loopg [14, 48] k2 (fun kq v14 v48 w' => ∃ (x14_3 : Bool) (x48_3 : Int), v14 = .bool x14_3 ∧ v48 = .int .i64 x48_3 ∧ Aside0 (spec_SamePart.l3 kq l0 l1 a2 x14_3 l1 (l1.length : Int) x42_2 l0 (l0.length : Int) x48_3 ((rd_T54 l1 x42_2).f0) ((rd_T54 l1 x42_2).f1) = some r) ∧ Aside0 (kq ≤ k2) ∧ Aside0 (w'.heap[gb172]? = some (.cells #[.string ((rd_T54 l1 x42_2).f0), .string ((rd_T54 l1 x42_2).f1)] 54 (0, 0))) ∧ Aside0 (Below w.heap.size w w'))
                  case atStart => exact ⟨(false), (0), (by first | rfl | (simp; done) | (simp [*]; done) | (simp; generalize ByteArray.toList _ = l_; cases l_ <;> rfl)), (by first | rfl | (simp; done) | (simp [*]; done) | (simp; generalize ByteArray.toList _ = l_; cases l_ <;> rfl)), H', ⟨Nat.le_refl _⟩, ⟨by (with_reducible repeat (first | refine blk_drewN ?_ _ | refine blk_drew ?_ | refine blk_alloc ?_ _)); refine blk_put (cs := #[.string ((rd_T54 l1 x42_2).f0), .string (⟨#[]⟩ : ByteArray)]) ?_ 1 _ rfl; (with_reducible repeat (first | refine blk_drewN ?_ _ | refine blk_drew ?_ | refine blk_alloc ?_ _)); refine blk_put (cs := #[.string (⟨#[]⟩ : ByteArray), .string (⟨#[]⟩ : ByteArray)]) ?_ 0 _ rfl; (with_reducible repeat (first | refine blk_drewN ?_ _ | refine blk_drew ?_ | refine blk_alloc ?_ _)); exact BK172.out⟩, ⟨by repeat (first | (with_reducible first | exact HB.out | apply below_alloc | apply pw_below_drewN | apply below_drew1 | refine below_set ?_ GE172.out) | exact HB.out)⟩⟩
                  case round =>
                    clear H'
                    try clear c1
                    try clear p1
                    try clear q1
                    try clear hx1
                    try clear c2
                    try clear p2
                    try clear c3
                    try clear c4
                    try clear c4b0
                    try clear c5
                    try clear c5b0
                    try clear c6
                    try clear c6b0
                    try clear p6
                    try clear c9
                    try clear c9b0
                    try clear c10
                    try clear c10b0
                    try clear c11
                    try clear c11b0
                    try clear c12
                    try clear c14
                    try clear p16
                    try clear q16
                    try clear hx16
                    try clear p17
                    try clear q17
                    try clear hx17
                    try clear c18
                    try clear c22
                    try clear c23
                    try clear c23b0
                    try clear c24
                    try clear c24b0
                    try clear c25
                    try clear c25b0
                    try clear hcz15_0
                    try clear hcz15_1
                    try clear hcz19_0
                    try clear hcz19_1
                    try clear hcz20_0
                    try clear hcz20_1
                    try clear hcz27_0
                    try clear hcz27_1
                    try clear hcz8_0
                    try clear hcz8_1
                    try clear hfz15_0
                    try clear hfz15_1
                    try clear hfz19_0
                    try clear hfz19_1
                    try clear hfz20_0
                    try clear hfz20_1
                    try clear hfz27_0
                    try clear hfz27_1
                    try clear hfz8_0
                    try clear hfz8_1
                    try clear hx166_0
                    try clear hx166_1
                    try clear hx168_0
                    try clear hx168_1
                    try clear hx171_0
                    try clear hx171_1
                    try clear p1
                    try clear p16
                    try clear p166
                    try clear p168
                    try clear p171
                    try clear p2
                    try clear p6
                    try clear q1
                    try clear q16
                    try clear q166
                    try clear q168
                    try clear q171
                    obtain ⟨x14_3, x48_3, rfl, rfl, HA, HK3, BK172, HB⟩ := hrel
                    cases gk with
                    | zero => exact absurd HA.out (by simp [spec_SamePart.l3])
                    | succ k3 =>
                      have H := HA.out
                      clear HA
                      simp only [spec_SamePart.l3] at H
                      by_cases c28 : x48_3 < (l0.length : Int)
                      · rw [if_pos c28] at H
                        have c28b0 : decide (x48_3 < (l0.length : Int)) = true := decide_eq_true c28
                        clear c28
                        by_cases c29 : 0 ≤ x48_3
                        · rw [if_pos c29] at H
                          have c29b0 : decide (0 ≤ x48_3) = true := decide_eq_true c29
                          clear c29
                          by_cases c30 : x48_3 < (l0.length : Int)
                          · rw [if_pos c30] at H
                            have c30b0 : decide (x48_3 < (l0.length : Int)) = true := decide_eq_true c30
                            clear c30
                            by_cases c31 : x14_3 = true
                            · subst c31
                              have H1 : (spec_SamePart.l3 k3 l0 l1 a2 true l1 (l1.length : Int) x42_2 l0 (l0.length : Int) (wrap64 (x48_3 + 1)) ((rd_T54 l1 x42_2).f0) ((rd_T54 l1 x42_2).f1)) = some r := by rw [if_pos rfl] at H; exact H
                              clear H
                              have H := H1
                              clear H1
                              have H' := Aside0.mk H
                              clear H
                              have p173 : 0 ≤ (x48_3 : Int) := of_decide_eq_true (by first | (with_reducible assumption) | assumption)
                              have q173 : x48_3 < (l0.length : Int) := of_decide_eq_true (by first | (with_reducible assumption) | assumption)
                              obtain ⟨ad173, e173, hx173_0, hx173_1⟩ := at_T54 HR0.out x48_3 p173 q173
                              cases e173
                              replace hx173_0 := (HB.out.cell (World.block_lt_of_cell? w _ hx173_0)).trans hx173_0
                              replace hx173_1 := (HB.out.cell (World.block_lt_of_cell? w _ hx173_1)).trans hx173_1
                              replace p173 := eq_true p173
                              replace q173 := eq_true q173
                              go_wp2_with (first | ((with_reducible refine gate_dst (N := 16) rfl ?_); refine box_event ?hg (N := 16) ?hd (cs := #[.string (⟨#[]⟩ : ByteArray), .string (⟨#[]⟩ : ByteArray)]) (t := 54) ?hr ?_; (case hd => rfl); (case hg => rfl); (case hr => first | (go_simp; done) | (go_simp; rfl)); intro gb174 hg w32 hbox hb; have n0_ := Aside0.mk (blk_below (g := gb172) (o := .cells #[.string ((rd_T54 l1 x42_2).f0), .string ((rd_T54 l1 x42_2).f1)] 54 (0, 0)) (by (with_reducible repeat (first | refine blk_drewN ?_ _ | refine blk_drew ?_ | refine blk_alloc ?_ _)); exact BK172.out) hb); have n1_ := Aside0.mk (below_step (by repeat (first | (with_reducible first | exact HB.out | apply below_alloc | apply pw_below_drewN | apply below_drew1 | refine below_set ?_ GE172.out) | exact HB.out)) hb); have n2_ := Aside0.mk (hbox); have n3_ := Aside0.mk ((by rw [hg]; exact (below_size (by repeat (first | (with_reducible first | exact HB.out | apply below_alloc | apply pw_below_drewN | apply below_drew1 | refine below_set ?_ GE172.out) | exact HB.out))) : w.heap.size ≤ gb174)); have n4_ := Aside0.mk ((by rw [hg]; exact (below_size (by repeat (first | (with_reducible first | exact HB.out | apply below_alloc | apply pw_below_drewN | apply below_drew1 | refine below_set ?_ GE172.out) | exact HB.out))) : w.heap.size ≤ gb174)); have n5_ := Aside0.mk ((by rw [hg]; exact Nat.ne_of_lt (blk_lt (g := gb172) (o := .cells #[.string ((rd_T54 l1 x42_2).f0), .string ((rd_T54 l1 x42_2).f1)] 54 (0, 0)) (by (with_reducible repeat (first | refine blk_drewN ?_ _ | refine blk_drew ?_ | refine blk_alloc ?_ _)); exact BK172.out)) : gb172 ≠ gb174)); have n6_ := Aside0.mk ((by rw [hg]; exact Nat.ne_of_gt (blk_lt (g := gb172) (o := .cells #[.string ((rd_T54 l1 x42_2).f0), .string ((rd_T54 l1 x42_2).f1)] 54 (0, 0)) (by (with_reducible repeat (first | refine blk_drewN ?_ _ | refine blk_drew ?_ | refine blk_alloc ?_ _)); exact BK172.out)) : gb174 ≠ gb172)); clear BK172; clear HB; have BK172 := n0_; have HB := n1_; have BK174 := n2_; have GW174 := n3_; have GE174 := n4_; have NB172_174 := n5_; have NB174_172 := n6_; clear n0_ n1_ n2_ n3_ n4_ n5_ n6_; clear hb hbox hg; have hnb33 := NB174_172.out; have hnc33 := NB172_174.out; have hcz34_0 : w32.cell? ⟨gb174, 0, none⟩ = some (.string (⟨#[]⟩ : ByteArray)) := (blk_cell BK174.out 0).trans rfl; have hcz34_1 : w32.cell? ⟨gb174, 1, none⟩ = some (.string (⟨#[]⟩ : ByteArray)) := (blk_cell BK174.out 1).trans rfl; have hfz34_0 := blk_frozen BK174.out 0; have hfz34_1 := blk_frozen BK174.out 1))
                              go_roundg k3
                              case measure => have := HK1.out; have := HK2.out; have := HK3.out; omega
                              case rel => exact ⟨(true), (wrap64 (x48_3 + 1)), (by first | rfl | (simp; done) | (simp [*]; done) | (simp; generalize ByteArray.toList _ = l_; cases l_ <;> rfl)), (by first | rfl | (simp; done) | (simp [*]; done) | (simp; generalize ByteArray.toList _ = l_; cases l_ <;> rfl)), H', ⟨by have := HK1.out; have := HK2.out; have := HK3.out; omega⟩, ⟨by (with_reducible repeat (first | refine blk_drewN ?_ _ | refine blk_drew ?_ | refine blk_alloc ?_ _)); refine blk_far ?_ NB172_174.out _; (with_reducible repeat (first | refine blk_drewN ?_ _ | refine blk_drew ?_ | refine blk_alloc ?_ _)); refine blk_far ?_ NB172_174.out _; (with_reducible repeat (first | refine blk_drewN ?_ _ | refine blk_drew ?_ | refine blk_alloc ?_ _)); exact BK172.out⟩, ⟨by repeat (first | (with_reducible first | exact HB.out | apply below_alloc | apply pw_below_drewN | apply below_drew1 | refine below_set ?_ GE172.out | refine below_set ?_ GE174.out) | exact HB.out)⟩⟩
                            · replace c31 := Bool.eq_false_iff.mpr c31
                              subst c31
                              have H1 : ((spec_sameName.f ((rd_T54 l1 x42_2).f0) ((rd_T54 l1 x42_2).f1) ((rd_T54 l0 x48_3).f0) ((rd_T54 l0 x48_3).f1) a2).bind fun t175 => (spec_SamePart.l3 k3 l0 l1 a2 t175 l1 (l1.length : Int) x42_2 l0 (l0.length : Int) (wrap64 (x48_3 + 1)) ((rd_T54 l1 x42_2).f0) ((rd_T54 l1 x42_2).f1))) = some r := by rw [if_neg (show ¬ (false = true) by decide)] at H; exact H
                              clear H
                              have H := H1
                              clear H1
                              replace H := Option.bind_eq_some_iff.mp H
                              obtain ⟨t175, A350, H⟩ := H
                              replace H : (spec_SamePart.l3 k3 l0 l1 a2 t175 l1 (l1.length : Int) x42_2 l0 (l0.length : Int) (wrap64 (x48_3 + 1)) ((rd_T54 l1 x42_2).f0) ((rd_T54 l1 x42_2).f1)) = some r := H
                              have A35 := Aside0.mk A350
                              clear A350
                              have H' := Aside0.mk H
                              clear H
                              have p173 : 0 ≤ (x48_3 : Int) := of_decide_eq_true (by first | (with_reducible assumption) | assumption)
                              have q173 : x48_3 < (l0.length : Int) := of_decide_eq_true (by first | (with_reducible assumption) | assumption)
                              obtain ⟨ad173, e173, hx173_0, hx173_1⟩ := at_T54 HR0.out x48_3 p173 q173
                              cases e173
                              replace hx173_0 := (HB.out.cell (World.block_lt_of_cell? w _ hx173_0)).trans hx173_0
                              replace hx173_1 := (HB.out.cell (World.block_lt_of_cell? w _ hx173_1)).trans hx173_1
                              replace p173 := eq_true p173
                              replace q173 := eq_true q173
                              go_wp2_with (first | ((with_reducible refine gate_dst (N := 16) rfl ?_); refine box_event ?hg (N := 16) ?hd (cs := #[.string (⟨#[]⟩ : ByteArray), .string (⟨#[]⟩ : ByteArray)]) (t := 54) ?hr ?_; (case hd => rfl); (case hg => rfl); (case hr => first | (go_simp; done) | (go_simp; rfl)); intro gb174 hg w36 hbox hb; have n0_ := Aside0.mk (blk_below (g := gb172) (o := .cells #[.string ((rd_T54 l1 x42_2).f0), .string ((rd_T54 l1 x42_2).f1)] 54 (0, 0)) (by (with_reducible repeat (first | refine blk_drewN ?_ _ | refine blk_drew ?_ | refine blk_alloc ?_ _)); exact BK172.out) hb); have n1_ := Aside0.mk (below_step (by repeat (first | (with_reducible first | exact HB.out | apply below_alloc | apply pw_below_drewN | apply below_drew1 | refine below_set ?_ GE172.out) | exact HB.out)) hb); have n2_ := Aside0.mk (hbox); have n3_ := Aside0.mk ((by rw [hg]; exact (below_size (by repeat (first | (with_reducible first | exact HB.out | apply below_alloc | apply pw_below_drewN | apply below_drew1 | refine below_set ?_ GE172.out) | exact HB.out))) : w.heap.size ≤ gb174)); have n4_ := Aside0.mk ((by rw [hg]; exact (below_size (by repeat (first | (with_reducible first | exact HB.out | apply below_alloc | apply pw_below_drewN | apply below_drew1 | refine below_set ?_ GE172.out) | exact HB.out))) : w.heap.size ≤ gb174)); have n5_ := Aside0.mk ((by rw [hg]; exact Nat.ne_of_lt (blk_lt (g := gb172) (o := .cells #[.string ((rd_T54 l1 x42_2).f0), .string ((rd_T54 l1 x42_2).f1)] 54 (0, 0)) (by (with_reducible repeat (first | refine blk_drewN ?_ _ | refine blk_drew ?_ | refine blk_alloc ?_ _)); exact BK172.out)) : gb172 ≠ gb174)); have n6_ := Aside0.mk ((by rw [hg]; exact Nat.ne_of_gt (blk_lt (g := gb172) (o := .cells #[.string ((rd_T54 l1 x42_2).f0), .string ((rd_T54 l1 x42_2).f1)] 54 (0, 0)) (by (with_reducible repeat (first | refine blk_drewN ?_ _ | refine blk_drew ?_ | refine blk_alloc ?_ _)); exact BK172.out)) : gb174 ≠ gb172)); clear BK172; clear HB; have BK172 := n0_; have HB := n1_; have BK174 := n2_; have GW174 := n3_; have GE174 := n4_; have NB172_174 := n5_; have NB174_172 := n6_; clear n0_ n1_ n2_ n3_ n4_ n5_ n6_; clear hb hbox hg; have hnb37 := NB174_172.out; have hnc37 := NB172_174.out; have hcz38_0 : w36.cell? ⟨gb174, 0, none⟩ = some (.string (⟨#[]⟩ : ByteArray)) := (blk_cell BK174.out 0).trans rfl; have hcz38_1 : w36.cell? ⟨gb174, 1, none⟩ = some (.string (⟨#[]⟩ : ByteArray)) := (blk_cell BK174.out 1).trans rfl; have hfz38_0 := blk_frozen BK174.out 0; have hfz38_1 := blk_frozen BK174.out 1; have hcz39_0 : w36.cell? ⟨gb172, 0, none⟩ = some (.string ((rd_T54 l1 x42_2).f0)) := (blk_cell BK172.out 0).trans rfl; have hcz39_1 : w36.cell? ⟨gb172, 1, none⟩ = some (.string ((rd_T54 l1 x42_2).f1)) := (blk_cell BK172.out 1).trans rfl; have hfz39_0 := blk_frozen BK172.out 0; have hfz39_1 := blk_frozen BK172.out 1) | (go_at_call 51; (with_reducible refine (spec_sameName.calls ((rd_T54 l1 x42_2).f0) ((rd_T54 l1 x42_2).f1) ((rd_T54 l0 x48_3).f0) ((rd_T54 l0 x48_3).f1) a2 t175 _ A35.out).mono ?_); rintro e w40 ⟨rfl, hb⟩; have n0_ := Aside0.mk (blk_below (g := gb172) (o := .cells #[.string ((rd_T54 l1 x42_2).f0), .string ((rd_T54 l1 x42_2).f1)] 54 (0, 0)) (by (with_reducible repeat (first | refine blk_drewN ?_ _ | refine blk_drew ?_ | refine blk_alloc ?_ _)); refine blk_far ?_ NB172_174.out _; (with_reducible repeat (first | refine blk_drewN ?_ _ | refine blk_drew ?_ | refine blk_alloc ?_ _)); refine blk_far ?_ NB172_174.out _; (with_reducible repeat (first | refine blk_drewN ?_ _ | refine blk_drew ?_ | refine blk_alloc ?_ _)); exact BK172.out) hb); have n1_ := Aside0.mk (blk_below (g := gb174) (o := .cells #[.string ((rd_T54 l0 x48_3).f0), .string ((rd_T54 l0 x48_3).f1)] 54 (0, 0)) (by (with_reducible repeat (first | refine blk_drewN ?_ _ | refine blk_drew ?_ | refine blk_alloc ?_ _)); refine blk_put (cs := #[.string ((rd_T54 l0 x48_3).f0), .string (⟨#[]⟩ : ByteArray)]) ?_ 1 _ rfl; (with_reducible repeat (first | refine blk_drewN ?_ _ | refine blk_drew ?_ | refine blk_alloc ?_ _)); refine blk_put (cs := #[.string (⟨#[]⟩ : ByteArray), .string (⟨#[]⟩ : ByteArray)]) ?_ 0 _ rfl; (with_reducible repeat (first | refine blk_drewN ?_ _ | refine blk_drew ?_ | refine blk_alloc ?_ _)); exact BK174.out) hb); have n2_ := Aside0.mk (below_step (by repeat (first | (with_reducible first | exact HB.out | apply below_alloc | apply pw_below_drewN | apply below_drew1 | refine below_set ?_ GE172.out | refine below_set ?_ GE174.out) | exact HB.out)) hb); clear BK172; clear BK174; clear HB; have BK172 := n0_; have BK174 := n1_; have HB := n2_; clear n0_ n1_ n2_; (try clear hb); (try clear hb2); (try clear hk); (try clear hi)))
                              go_roundg k3
                              case measure => have := HK1.out; have := HK2.out; have := HK3.out; omega
                              case rel => exact ⟨(t175), (wrap64 (x48_3 + 1)), (by first | rfl | (simp; done) | (simp [*]; done) | (simp; generalize ByteArray.toList _ = l_; cases l_ <;> rfl)), (by first | rfl | (simp; done) | (simp [*]; done) | (simp; generalize ByteArray.toList _ = l_; cases l_ <;> rfl)), H', ⟨by have := HK1.out; have := HK2.out; have := HK3.out; omega⟩, ⟨by (with_reducible repeat (first | refine blk_drewN ?_ _ | refine blk_drew ?_ | refine blk_alloc ?_ _)); exact BK172.out⟩, ⟨by repeat (first | (with_reducible first | exact HB.out | apply below_alloc | apply pw_below_drewN | apply below_drew1 | refine below_set ?_ GE172.out | refine below_set ?_ GE174.out) | exact HB.out)⟩⟩
                          · rw [if_neg c30] at H
                            exact absurd H (by simp)
                        · rw [if_neg c29] at H
                          exact absurd H (by simp)
                      · rw [if_neg c28] at H
                        have c28b0 : decide (x48_3 < (l0.length : Int)) = false := decide_eq_false c28
                        clear c28
                        by_cases c41 : x14_3 = true
                        · subst c41
                          have H1 : (spec_SamePart.l2 k3 l0 l1 a2 l1 (l1.length : Int) (wrap64 (x42_2 + 1))) = some r := by rw [if_pos rfl] at H; exact H
                          clear H
                          have H := H1
                          clear H1
                          have H' := Aside0.mk H
                          clear H
                          go_wp2
                          go_roundg k3
                          case measure => have := HK1.out; have := HK2.out; have := HK3.out; omega
                          case rel => exact ⟨(wrap64 (x42_2 + 1)), (by first | rfl | (simp; done) | (simp [*]; done) | (simp; generalize ByteArray.toList _ = l_; cases l_ <;> rfl)), H', ⟨by have := HK1.out; have := HK2.out; have := HK3.out; omega⟩, ⟨by repeat (first | (with_reducible first | exact HB.out | apply below_alloc | apply pw_below_drewN | apply below_drew1 | refine below_set ?_ GE172.out) | exact HB.out)⟩⟩
                        · replace c41 := Bool.eq_false_iff.mpr c41
                          subst c41
                          have H1 : (some false) = some r := by rw [if_neg (show ¬ (false = true) by decide)] at H; exact H
                          clear H
                          have H := H1
                          clear H1
                          obtain rfl := Option.some.inj H
                          go_wp2
                          go_ret
                          exact ⟨by first | rfl | (simp [errW_none, errW_some] <;> rfl) | (simp [*, errW_none, errW_some] <;> rfl), by repeat (first | (with_reducible first | exact HB.out | apply below_alloc | apply pw_below_drewN | apply below_drew1 | refine below_set ?_ GE172.out) | exact HB.out)⟩
                · rw [if_neg c25] at H
                  exact absurd H (by simp)
              · rw [if_neg c24] at H
                exact absurd H (by simp)
            · rw [if_neg c23] at H
              have c23b0 : decide (x42_2 < (l1.length : Int)) = false := decide_eq_false c23
              clear c23
              obtain rfl := Option.some.inj H
              go_wp2
              go_ret
              exact ⟨by first | rfl | (simp [errW_none, errW_some] <;> rfl) | (simp [*, errW_none, errW_some] <;> rfl), by repeat (first | (with_reducible first | exact HB.out | apply below_alloc | apply pw_below_drewN | apply below_drew1) | exact HB.out)⟩

end Go.Proofs.YtcohjechpnlogaaDoor.PDN
