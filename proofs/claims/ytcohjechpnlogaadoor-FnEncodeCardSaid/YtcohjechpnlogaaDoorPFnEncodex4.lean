-- PRINTED BY print.sh 35421559b90ae4d0a3588c463048766b98c2df88dd9212a6774a882060cdf62d: not written by this session
import Derived.Test.YtcohjechpnlogaaDoorPFnEncodex0
import Derived.Test.YtcohjechpnlogaaDoorPFnEncodex3
namespace Go.Proofs.YtcohjechpnlogaaDoor.PFnEncode
open Go.RowKit Go.Proofs.YtcohjechpnlogaaDoorW.PrintWords Go.Proofs.YtcohjechpnlogaaDoorW.PrintLast Go.Proofs.YtcohjechpnlogaaDoorW.PrintMore
attribute [local go_sem] max2_int min2_int max_two min_two max_three min_three max_four min_four   -- for this text's walks alone
set_option linter.unusedVariables false
set_option linter.unusedSimpArgs false

/-! ### spec_Bytes: function 11 -/
mutual
def spec_Bytes.l0 : Nat → List Int → List (S29) → Int → Int → Int → Int → Bool → List Int → List (S29) → Option (List Int)
  | 0, _, _, _, _, _, _, _, _, _ => none
  | k + 1, x3, x11, x12, x13, x200000, x200001, x200002, x200003, x200004 => if x13 < x12 then (if 0 ≤ x13 then (if x13 < (x11.length : Int) then ((spec_Bytes.f k ((rd_T29 x11 x13).f0) ((rd_T29 x11 x13).f1) ((rd_T29 x11 x13).f2) ((rd_T29 x11 x13).f3) ((rd_T29 x11 x13).f4)).bind fun t208 => (if x3.length + t208.length < 140737488355328 then (spec_Bytes.l0 k (x3 ++ t208) x11 x12 (wrap64 (x13 + 1)) x200000 x200001 x200002 x200003 x200004) else (none))) else (none)) else (none)) else ((spec_Identifier.f k x200000 x200001 x200002 x200003 x200004).bind fun t214 => ((spec_Length.f k (x3.length : Int)).bind fun t217 => (if t214.length + t217.length < 140737488355328 then ((some (t214 ++ t217 : List Int)).bind fun y220 => (if y220.length + x3.length < 140737488355328 then (some (y220 ++ x3)) else (none))) else (none))))
def spec_Bytes.f : Nat → Int → Int → Bool → List Int → List (S29) → Option (List Int)
  | 0, _, _, _, _, _ => none
  | k + 1, a0_0, a0_1, a0_2, l0_3, l0_4 => (some (([] : List Int) : List Int)).bind fun y200 => (if y200.length + l0_3.length < 140737488355328 then (spec_Bytes.l0 k (y200 ++ l0_3) l0_4 (l0_4.length : Int) 0 a0_0 a0_1 a0_2 l0_3 l0_4) else (none))
end
theorem spec_Bytes.mono_l : ∀ k, (∀ y0 y1 y2 y3 y4, LeO (spec_Bytes.f k y0 y1 y2 y3 y4) (spec_Bytes.f (k + 1) y0 y1 y2 y3 y4)) ∧ (∀ y0 y1 y2 y3 y4 y5 y6 y7 y8, LeO (spec_Bytes.l0 k y0 y1 y2 y3 y4 y5 y6 y7 y8) (spec_Bytes.l0 (k + 1) y0 y1 y2 y3 y4 y5 y6 y7 y8))
  | 0 => ⟨fun _ _ _ _ _ r h => by simp [spec_Bytes.f] at h, fun _ _ _ _ _ _ _ _ _ r h => by simp [spec_Bytes.l0] at h⟩
  | k + 1 => by
    obtain ⟨ih0, ih1⟩ := spec_Bytes.mono_l k
    refine ⟨?_, ?_⟩
    · intro y0 y1 y2 y3 y4
      unfold spec_Bytes.f
      repeat' first
      | (with_reducible exact ih0 _ _ _ _ _)
      | (with_reducible exact ih1 _ _ _ _ _ _ _ _ _)
      | (with_reducible exact spec_Identifier.mono _ _ _ _ _ _)
      | (with_reducible exact spec_Length.mono _ _)
      | (with_reducible exact LeO.refl _)
      | (with_reducible exact LeO.none _)
      | (with_reducible refine LeO.ite ?_ ?_)
      | (with_reducible refine LeO.bind ?_ (fun _ => ?_))
      | exact ih0 _ _ _ _ _
      | exact ih1 _ _ _ _ _ _ _ _ _
      | exact spec_Identifier.mono _ _ _ _ _ _
      | exact spec_Length.mono _ _
      | exact LeO.none _
      | refine LeO.ite ?_ ?_
      | refine LeO.bind ?_ (fun _ => ?_)
    · intro y0 y1 y2 y3 y4 y5 y6 y7 y8
      unfold spec_Bytes.l0
      repeat' first
      | (with_reducible exact ih0 _ _ _ _ _)
      | (with_reducible exact ih1 _ _ _ _ _ _ _ _ _)
      | (with_reducible exact spec_Identifier.mono _ _ _ _ _ _)
      | (with_reducible exact spec_Length.mono _ _)
      | (with_reducible exact LeO.refl _)
      | (with_reducible exact LeO.none _)
      | (with_reducible refine LeO.ite ?_ ?_)
      | (with_reducible refine LeO.bind ?_ (fun _ => ?_))
      | exact ih0 _ _ _ _ _
      | exact ih1 _ _ _ _ _ _ _ _ _
      | exact spec_Identifier.mono _ _ _ _ _ _
      | exact spec_Length.mono _ _
      | exact LeO.none _
      | refine LeO.ite ?_ ?_
      | refine LeO.bind ?_ (fun _ => ?_)
theorem spec_Bytes.mono : ∀ a0 a1 a2 a3 a4 k, LeO (spec_Bytes.f k a0 a1 a2 a3 a4) (spec_Bytes.f (k + 1) a0 a1 a2 a3 a4) := by
  intro a0 a1 a2 a3 a4 k
  obtain ⟨ih0, ih1⟩ := spec_Bytes.mono_l k
  exact ih0 a0 a1 a2 a3 a4
set_option maxHeartbeats 8000000 in
set_option maxRecDepth 100000 in
theorem spec_Bytes.calls (k : Nat) : ∀ (a0_0 : Int) (a0_1 : Int) (a0_2 : Bool) (A0_3 : Option Addr) (c0_3 : Nat) (l0_3 : List Int) (A0_4 : Option Addr) (c0_4 : Nat) (l0_4 : List (S29)) (r : List Int) (w : World) (hr0_3 : Kd.C (Kd.int .u8) w A0_3 l0_3.length l0_3) (hc0_3 : l0_3.length ≤ c0_3) (hr0_4 : Kd.C k29 w A0_4 l0_4.length l0_4) (hc0_4 : l0_4.length ≤ c0_4) (h : spec_Bytes.f k a0_0 a0_1 a0_2 l0_3 l0_4 = some r),
    Calls Tryd.prog 11 #[.agg #[.int .i64 a0_0, .int .i64 a0_1, .bool a0_2, .slice A0_3 l0_3.length c0_3, .slice A0_4 l0_4.length c0_4]] w fun e w' => ∃ v0_ : Value, e = .returned (v0_) ∧ Kd.R (Kd.int .u8) 5 w' w.heap.size (fun _ => True) v0_ r ∧ Below w.heap.size w w' := by
  induction k using Nat.strongRecOn with
  | _ k ih =>
  intro a0_0 a0_1 a0_2 A0_3 c0_3 l0_3 A0_4 c0_4 l0_4 r w hr0_3 hc0_3 hr0_4 hc0_4 h
  cases k with
  | zero => exact absurd h (by simp [spec_Bytes.f])
  | succ k =>
  simp only [spec_Bytes.f] at h
  have hu29 := Tryd.underlying29
  have HR0_3 := Aside0.mk hr0_3
  have HC0_3 := Aside0.mk hc0_3
  clear hr0_3 hc0_3
  have HR0_4 := Aside0.mk hr0_4
  have HC0_4 := Aside0.mk hc0_4
  clear hr0_4 hc0_4
  have HB := Aside0.mk (Below.refl w.heap.size w)
  have H : ((some (([] : List Int) : List Int)).bind fun y200 => (if y200.length + l0_3.length < 140737488355328 then (spec_Bytes.l0 k (y200 ++ l0_3) l0_4 (l0_4.length : Int) 0 a0_0 a0_1 a0_2 l0_3 l0_4) else (none))) = some r := h
  clear h
  obtain ⟨y200, hy200⟩ : ∃ y_ : List Int, y_ = (([] : List Int)) := ⟨_, rfl⟩
  replace H : (if y200.length + l0_3.length < 140737488355328 then (spec_Bytes.l0 k (y200 ++ l0_3) l0_4 (l0_4.length : Int) 0 a0_0 a0_1 a0_2 l0_3 l0_4) else (none)) = some r := by first | (rw [hy200]; with_reducible exact H) | (have H2_ := (Option.bind_some _ _).symm.trans H; rw [hy200]; with_reducible exact H2_) | (have H2_ := (Option.bind_some _ _).symm.trans H; with_reducible exact H2_) | with_reducible exact H | (rw [hy200]; exact H) | exact H
  have Ny200 := Aside0.mk hy200
  clear hy200
  by_cases c2 : y200.length + l0_3.length < 140737488355328
  · rw [if_pos c2] at H
    have LMc2 := Aside0.mk c2
    clear c2
    obtain ⟨y203, hy203⟩ : ∃ y_ : List Int, y_ = (y200 ++ l0_3) := ⟨_, rfl⟩
    replace H : (spec_Bytes.l0 k y203 l0_4 (l0_4.length : Int) 0 a0_0 a0_1 a0_2 l0_3 l0_4) = some r := by first | (rw [hy203]; with_reducible exact H) | (have H2_ := (Option.bind_some _ _).symm.trans H; rw [hy203]; with_reducible exact H2_) | (have H2_ := (Option.bind_some _ _).symm.trans H; with_reducible exact H2_) | with_reducible exact H | (rw [hy203]; exact H) | exact H
    have Ny203 := Aside0.mk hy203
    clear hy203
    have H' := Aside0.mk H
    clear H
    go_enter Tryd.func11, Tryd.ntmps11
    go_wp2_with (first | ((with_reducible refine gate_dst (N := 1) rfl ?_); refine box_event ?hg (N := 1) ?hd (cs := #[.int .i64 a0_0, .int .i64 a0_1, .bool a0_2, .slice A0_3 l0_3.length c0_3, .slice A0_4 l0_4.length c0_4]) (t := 29) ?hr ?_; (case hd => rfl); (case hg => rfl); (case hr => first | (go_simp; done) | (go_simp; rfl)); intro gb199 hg w3 hbox hb; have n0_ := Aside0.mk (below_step (by repeat (first | (with_reducible first | exact HB.out | apply below_alloc | apply pw_below_drewN | apply below_drew1) | exact HB.out)) hb); have n1_ := Aside0.mk (hbox); have n2_ := Aside0.mk ((by rw [hg]; exact (below_size (by repeat (first | (with_reducible first | exact HB.out | apply below_alloc | apply pw_below_drewN | apply below_drew1) | exact HB.out))) : w.heap.size ≤ gb199)); have n3_ := Aside0.mk ((by rw [hg]; exact (below_size (by repeat (first | (with_reducible first | exact HB.out | apply below_alloc | apply pw_below_drewN | apply below_drew1) | exact HB.out))) : w.heap.size ≤ gb199)); clear HB; have HB := n0_; have BK199 := n1_; have GW199 := n2_; have GE199 := n3_; clear n0_ n1_ n2_ n3_; clear hb hbox hg) | ((with_reducible refine gate_dst (N := 6) rfl ?_); refine Kd.R_lit (Kd.int .u8) _ 5 ?hg (N := 6) ?hd (xs := ([] : List Int)) (inner := []) (ok := fun _ => True) (okp := fun _ => True) ?hr ?hp (fun _ hk => hk) trivial (Below.refl _ _) (Nat.le_refl _) (by simp) ?_; (case hd => rfl); (case hg => rfl); (case hr => first | (go_simp; done) | (go_simp; rfl)); (case hp => exact (Reps.none _ _)); intro v201 w4 ho5 hb hg_ hnew_; clear hg_ hnew_; (first | rw [← Ny200.out] at ho5 | (simp only [Int.reduceToNat] at ho5; rw [← Ny200.out] at ho5)); have n0_ := Aside0.mk (Kd.R_lower ho5 (below_size (by repeat (first | (with_reducible first | exact HB.out | apply below_alloc | apply pw_below_drewN | apply below_drew1 | refine below_set ?_ GE199.out) | exact HB.out)))); have n1_ := Aside0.mk (blk_below (g := gb199) (o := .cells #[.int .i64 a0_0, .int .i64 a0_1, .bool a0_2, .slice A0_3 l0_3.length c0_3, .slice A0_4 l0_4.length c0_4] 29 (0, 0)) (by (with_reducible repeat (first | refine blk_drewN ?_ _ | refine blk_drew ?_ | refine blk_alloc ?_ _)); exact BK199.out) hb); have n2_ := Aside0.mk (below_step (by repeat (first | (with_reducible first | exact HB.out | apply below_alloc | apply pw_below_drewN | apply below_drew1 | refine below_set ?_ GE199.out) | exact HB.out)) hb); clear BK199; clear HB; have HO202 := n0_; have BK199 := n1_; have HB := n2_; clear n0_ n1_ n2_; clear hb ho5; have hcz6_0 : w4.cell? ⟨gb199, 0, none⟩ = some (.int .i64 a0_0) := (blk_cell BK199.out 0).trans rfl; have hcz6_1 : w4.cell? ⟨gb199, 1, none⟩ = some (.int .i64 a0_1) := (blk_cell BK199.out 1).trans rfl; have hcz6_2 : w4.cell? ⟨gb199, 2, none⟩ = some (.bool a0_2) := (blk_cell BK199.out 2).trans rfl; have hcz6_3 : w4.cell? ⟨gb199, 3, none⟩ = some (.slice A0_3 l0_3.length c0_3) := (blk_cell BK199.out 3).trans rfl; have hcz6_4 : w4.cell? ⟨gb199, 4, none⟩ = some (.slice A0_4 l0_4.length c0_4) := (blk_cell BK199.out 4).trans rfl; have hfz6_0 := blk_frozen BK199.out 0; have hfz6_1 := blk_frozen BK199.out 1; have hfz6_2 := blk_frozen BK199.out 2; have hfz6_3 := blk_frozen BK199.out 3; have hfz6_4 := blk_frozen BK199.out 4) | ((with_reducible refine gate_builtin (b := .append) (xs := #[.tmp 6, .tmp 8]) rfl ?_); at_builtin; refine Kd.R_append_rows (Kd.int .u8) (w0 := w) w.heap.size rfl (.tmp 6) (.tmp 8) 22 5 (.int .u8 0) 1 rfl Tryd.underlying22 info5 rfl (by decide) (by omega) v201 y200 l0_3 _ _ _ (fun _ => True) (fun _ => False) rfl rfl ?aO ?aR (fun _ _ h => h) (fun _ h => h.elim) ?aF ?aB ?aS ?aL ?_; (case aR => repeat (first | exact (Kd.C_below HR0_3.out HB.out) | (with_reducible refine Kd.C_alloc ?_ _) | (with_reducible refine Kd.C_drewN ?_ _) | (with_reducible refine Kd.C_drew ?_))); (case aB => exact (by repeat (first | (with_reducible first | exact HB.out | apply below_alloc | apply pw_below_drewN | apply below_drew1 | refine below_set ?_ GE199.out) | exact HB.out))); (case aF => exact (fun _ _ => trivial)); (case aO => exact (by (with_reducible repeat (first | apply Kd.R_alloc | apply Kd.R_drewN | apply Kd.R_drew)); exact HO202.out)); (case aS => exact (below_size (by repeat (first | (with_reducible first | exact HB.out | apply below_alloc | apply pw_below_drewN | apply below_drew1 | refine below_set ?_ GE199.out) | exact HB.out)))); (case aL => have := LMc2.out; omega); intro v204 w7 ho hb hg hat; rw [← Ny203.out] at ho; have n0_ := Aside0.mk (blk_grown (g := gb199) (o := .cells #[.int .i64 a0_0, .int .i64 a0_1, .bool a0_2, .slice A0_3 l0_3.length c0_3, .slice A0_4 l0_4.length c0_4] 29 (0, 0)) (by (with_reducible repeat (first | refine blk_drewN ?_ _ | refine blk_drew ?_ | refine blk_alloc ?_ _)); exact BK199.out) hg (Kd.R_ne HO202.out BK199.out (by decide))); have n1_ := Aside0.mk (hb); have n2_ := Aside0.mk (ho); clear BK199; clear HB; clear HO202; have BK199 := n0_; have HB := n1_; have HO205 := n2_; clear n0_ n1_ n2_; clear ho hb hg hat; have hcz8_0 : w7.cell? ⟨gb199, 0, none⟩ = some (.int .i64 a0_0) := (blk_cell BK199.out 0).trans rfl; have hcz8_1 : w7.cell? ⟨gb199, 1, none⟩ = some (.int .i64 a0_1) := (blk_cell BK199.out 1).trans rfl; have hcz8_2 : w7.cell? ⟨gb199, 2, none⟩ = some (.bool a0_2) := (blk_cell BK199.out 2).trans rfl; have hcz8_3 : w7.cell? ⟨gb199, 3, none⟩ = some (.slice A0_3 l0_3.length c0_3) := (blk_cell BK199.out 3).trans rfl; have hcz8_4 : w7.cell? ⟨gb199, 4, none⟩ = some (.slice A0_4 l0_4.length c0_4) := (blk_cell BK199.out 4).trans rfl; have hfz8_0 := blk_frozen BK199.out 0; have hfz8_1 := blk_frozen BK199.out 1; have hfz8_2 := blk_frozen BK199.out 2; have hfz8_3 := blk_frozen BK199.out 3; have hfz8_4 := blk_frozen BK199.out 4))
    go_loopg [3, 13] k (fun kq v3 v13 w' => ∃ (x3_1 : List Int) (x13_1 : Int), v13 = .int .i64 x13_1 ∧ Aside0 (spec_Bytes.l0 kq x3_1 l0_4 (l0_4.length : Int) x13_1 a0_0 a0_1 a0_2 l0_3 l0_4 = some r) ∧ Aside0 (kq ≤ k) ∧ Aside0 (Kd.R (Kd.int .u8) 5 w' w.heap.size (fun _ => True) v3 x3_1) ∧ Aside0 (w'.heap[gb199]? = some (.cells #[.int .i64 a0_0, .int .i64 a0_1, .bool a0_2, (.slice A0_3 l0_3.length c0_3), (.slice A0_4 l0_4.length c0_4)] 29 (0, 0))) ∧ Aside0 (Below w.heap.size w w'))
    case atStart => exact ⟨(y203), (0), (by first | rfl | (simp; done) | (simp [*]; done)), H', ⟨Nat.le_refl _⟩, ⟨by (with_reducible repeat (first | apply Kd.R_alloc | apply Kd.R_drewN | apply Kd.R_drew)); exact HO205.out⟩, ⟨by (with_reducible repeat (first | refine blk_drewN ?_ _ | refine blk_drew ?_ | refine blk_alloc ?_ _)); exact BK199.out⟩, ⟨by repeat (first | (with_reducible first | exact HB.out | apply below_alloc | apply pw_below_drewN | apply below_drew1 | refine below_set ?_ GE199.out) | exact HB.out)⟩⟩
    case round =>
      clear H'
      try clear c1
      try clear c2
      try clear p2
      try clear hcz6_0
      try clear hcz6_1
      try clear hcz6_2
      try clear hcz6_3
      try clear hcz6_4
      try clear hcz8_0
      try clear hcz8_1
      try clear hcz8_2
      try clear hcz8_3
      try clear hcz8_4
      try clear hfz6_0
      try clear hfz6_1
      try clear hfz6_2
      try clear hfz6_3
      try clear hfz6_4
      try clear hfz8_0
      try clear hfz8_1
      try clear hfz8_2
      try clear hfz8_3
      try clear hfz8_4
      obtain ⟨x3_1, x13_1, rfl, HA, HK1, HO_3, BK199, HB⟩ := hrel
      cases gk with
      | zero => exact absurd HA.out (by simp [spec_Bytes.l0])
      | succ k1 =>
        have H := HA.out
        clear HA
        simp only [spec_Bytes.l0] at H
        by_cases c9 : x13_1 < (l0_4.length : Int)
        · rw [if_pos c9] at H
          have c9b0 : decide (x13_1 < (l0_4.length : Int)) = true := decide_eq_true c9
          clear c9
          by_cases c10 : 0 ≤ x13_1
          · rw [if_pos c10] at H
            have c10b0 : decide (0 ≤ x13_1) = true := decide_eq_true c10
            clear c10
            by_cases c11 : x13_1 < (l0_4.length : Int)
            · rw [if_pos c11] at H
              have c11b0 : decide (x13_1 < (l0_4.length : Int)) = true := decide_eq_true c11
              clear c11
              replace H := Option.bind_eq_some_iff.mp H
              obtain ⟨t208, A120, H⟩ := H
              replace H : (if x3_1.length + t208.length < 140737488355328 then (spec_Bytes.l0 k1 (x3_1 ++ t208) l0_4 (l0_4.length : Int) (wrap64 (x13_1 + 1)) a0_0 a0_1 a0_2 l0_3 l0_4) else (none)) = some r := H
              have A12 := Aside0.mk A120
              clear A120
              by_cases c13 : x3_1.length + t208.length < 140737488355328
              · rw [if_pos c13] at H
                have LMc13 := Aside0.mk c13
                clear c13
                obtain ⟨y211, hy211⟩ : ∃ y_ : List Int, y_ = (x3_1 ++ t208) := ⟨_, rfl⟩
                replace H : (spec_Bytes.l0 k1 y211 l0_4 (l0_4.length : Int) (wrap64 (x13_1 + 1)) a0_0 a0_1 a0_2 l0_3 l0_4) = some r := by first | (rw [hy211]; with_reducible exact H) | (have H2_ := (Option.bind_some _ _).symm.trans H; rw [hy211]; with_reducible exact H2_) | (have H2_ := (Option.bind_some _ _).symm.trans H; with_reducible exact H2_) | with_reducible exact H | (rw [hy211]; exact H) | exact H
                have Ny211 := Aside0.mk hy211
                clear hy211
                have H' := Aside0.mk H
                clear H
                have p206 : 0 ≤ (x13_1 : Int) := of_decide_eq_true (by first | (with_reducible assumption) | assumption)
                have q206 : x13_1 < (l0_4.length : Int) := of_decide_eq_true (by first | (with_reducible assumption) | assumption)
                obtain ⟨ad206, A206_3, c206_3, A206_4, c206_4, e206, hx206_0, hx206_1, hx206_2, hx206_3, hx206_4, hl206_3, hi206_3, hl206_4, hi206_4⟩ := at_T29 HR0_4.out x13_1 p206 q206
                cases e206
                replace hx206_0 := (HB.out.cell (World.block_lt_of_cell? w _ hx206_0)).trans hx206_0
                replace hx206_1 := (HB.out.cell (World.block_lt_of_cell? w _ hx206_1)).trans hx206_1
                replace hx206_2 := (HB.out.cell (World.block_lt_of_cell? w _ hx206_2)).trans hx206_2
                replace hx206_3 := (HB.out.cell (World.block_lt_of_cell? w _ hx206_3)).trans hx206_3
                replace hx206_4 := (HB.out.cell (World.block_lt_of_cell? w _ hx206_4)).trans hx206_4
                have HR206_3 := Aside0.mk hi206_3
                have HC206_3 := Aside0.mk hl206_3
                clear hi206_3 hl206_3
                have HR206_4 := Aside0.mk hi206_4
                have HC206_4 := Aside0.mk hl206_4
                clear hi206_4 hl206_4
                replace p206 := eq_true p206
                replace q206 := eq_true q206
                go_wp2_with (first | ((with_reducible refine gate_dst (N := 5) rfl ?_); refine box_event ?hg (N := 5) ?hd (cs := #[.int .i64 0, .int .i64 0, .bool false, .slice none 0 0, .slice none 0 0]) (t := 29) ?hr ?_; (case hd => rfl); (case hg => rfl); (case hr => first | (go_simp; done) | (go_simp; rfl)); intro gb207 hg w14 hbox hb; have n0_ := Aside0.mk (Kd.R_below (by (with_reducible repeat (first | apply Kd.R_alloc | apply Kd.R_drewN | apply Kd.R_drew)); exact HO_3.out) hb); have n1_ := Aside0.mk (blk_below (g := gb199) (o := .cells #[.int .i64 a0_0, .int .i64 a0_1, .bool a0_2, .slice A0_3 l0_3.length c0_3, .slice (some ad206) l0_4.length c0_4] 29 (0, 0)) (by (with_reducible repeat (first | refine blk_drewN ?_ _ | refine blk_drew ?_ | refine blk_alloc ?_ _)); exact BK199.out) hb); have n2_ := Aside0.mk (below_step (by repeat (first | (with_reducible first | exact HB.out | apply below_alloc | apply pw_below_drewN | apply below_drew1 | refine below_set ?_ GE199.out) | exact HB.out)) hb); have n3_ := Aside0.mk (hbox); have n4_ := Aside0.mk ((by rw [hg]; exact (below_size (by repeat (first | (with_reducible first | exact HB.out | apply below_alloc | apply pw_below_drewN | apply below_drew1 | refine below_set ?_ GE199.out) | exact HB.out))) : w.heap.size ≤ gb207)); have n5_ := Aside0.mk ((by rw [hg]; exact (below_size (by repeat (first | (with_reducible first | exact HB.out | apply below_alloc | apply pw_below_drewN | apply below_drew1 | refine below_set ?_ GE199.out) | exact HB.out))) : w.heap.size ≤ gb207)); have n6_ := Aside0.mk ((by rw [hg]; exact Nat.ne_of_lt (blk_lt (g := gb199) (o := .cells #[.int .i64 a0_0, .int .i64 a0_1, .bool a0_2, .slice A0_3 l0_3.length c0_3, .slice (some ad206) l0_4.length c0_4] 29 (0, 0)) (by (with_reducible repeat (first | refine blk_drewN ?_ _ | refine blk_drew ?_ | refine blk_alloc ?_ _)); exact BK199.out)) : gb199 ≠ gb207)); have n7_ := Aside0.mk ((by rw [hg]; exact Nat.ne_of_gt (blk_lt (g := gb199) (o := .cells #[.int .i64 a0_0, .int .i64 a0_1, .bool a0_2, .slice A0_3 l0_3.length c0_3, .slice (some ad206) l0_4.length c0_4] 29 (0, 0)) (by (with_reducible repeat (first | refine blk_drewN ?_ _ | refine blk_drew ?_ | refine blk_alloc ?_ _)); exact BK199.out)) : gb207 ≠ gb199)); clear HO_3; clear BK199; clear HB; have HO_3 := n0_; have BK199 := n1_; have HB := n2_; have BK207 := n3_; have GW207 := n4_; have GE207 := n5_; have NB199_207 := n6_; have NB207_199 := n7_; clear n0_ n1_ n2_ n3_ n4_ n5_ n6_ n7_; clear hb hbox hg; have hnb15 := NB207_199.out; have hnc15 := NB199_207.out; have hcz16_0 : w14.cell? ⟨gb207, 0, none⟩ = some (.int .i64 0) := (blk_cell BK207.out 0).trans rfl; have hcz16_1 : w14.cell? ⟨gb207, 1, none⟩ = some (.int .i64 0) := (blk_cell BK207.out 1).trans rfl; have hcz16_2 : w14.cell? ⟨gb207, 2, none⟩ = some (.bool false) := (blk_cell BK207.out 2).trans rfl; have hcz16_3 : w14.cell? ⟨gb207, 3, none⟩ = some (.slice none 0 0) := (blk_cell BK207.out 3).trans rfl; have hcz16_4 : w14.cell? ⟨gb207, 4, none⟩ = some (.slice none 0 0) := (blk_cell BK207.out 4).trans rfl; have hfz16_0 := blk_frozen BK207.out 0; have hfz16_1 := blk_frozen BK207.out 1; have hfz16_2 := blk_frozen BK207.out 2; have hfz16_3 := blk_frozen BK207.out 3; have hfz16_4 := blk_frozen BK207.out 4) | ((with_reducible refine gate_callee (f := 11) rfl ?_); refine goesL_ (some 19) rfl rfl Tryd.func11 (by kernel_rfl) rfl #[.agg #[.int .i64 ((rd_T29 l0_4 x13_1).f0), .int .i64 ((rd_T29 l0_4 x13_1).f1), .bool ((rd_T29 l0_4 x13_1).f2), .slice A206_3 ((rd_T29 l0_4 x13_1).f3).length c206_3, .slice A206_4 ((rd_T29 l0_4 x13_1).f4).length c206_4]] rfl (by (try simp only [List.map_toArray, List.map_cons, List.map_nil]); first | done | rfl | (simp only [List.length_drop, List.length_take]; rfl)) ?_; (with_reducible refine (ih k1 (by have := HK1.out; omega) ((rd_T29 l0_4 x13_1).f0) ((rd_T29 l0_4 x13_1).f1) ((rd_T29 l0_4 x13_1).f2) _ _ ((rd_T29 l0_4 x13_1).f3) _ _ ((rd_T29 l0_4 x13_1).f4) t208 _ ?side1 ?side2 ?side3 ?side4 A12.out).mono ?_); (case side1 => exact Kd.C_below HR206_3.out (by repeat (first | (with_reducible first | exact HB.out | apply below_alloc | apply pw_below_drewN | apply below_drew1 | refine below_set ?_ GE199.out | refine below_set ?_ GE207.out) | exact HB.out))); (case side2 => exact HC206_3.out); (case side3 => exact Kd.C_below HR206_4.out (by repeat (first | (with_reducible first | exact HB.out | apply below_alloc | apply pw_below_drewN | apply below_drew1 | refine below_set ?_ GE199.out | refine below_set ?_ GE207.out) | exact HB.out))); (case side4 => exact HC206_4.out); rintro e w17 ⟨v209, rfl, ho0, hb⟩; refine ⟨_, rfl, ?_⟩; have n0_ := Aside0.mk (Kd.R_elder' (by (with_reducible repeat (first | apply Kd.R_alloc | apply Kd.R_drewN | apply Kd.R_drew)); exact (Kd.R_mono (Kd.R_far (p := ⟨gb207, 4, none⟩) (Kd.R_far (p := ⟨gb207, 3, none⟩) (Kd.R_far (p := ⟨gb207, 2, none⟩) (Kd.R_far (p := ⟨gb207, 1, none⟩) (Kd.R_far (p := ⟨gb207, 0, none⟩) (Kd.R_types HO_3.out BK207.out (by decide)) (fun _ hk => hk.2) (.int .i64 ((rd_T29 l0_4 x13_1).f0))) (fun _ hk => hk.2) (.int .i64 ((rd_T29 l0_4 x13_1).f1))) (fun _ hk => hk.2) (.bool ((rd_T29 l0_4 x13_1).f2))) (fun _ hk => hk.2) (.slice A206_3 ((rd_T29 l0_4 x13_1).f3).length c206_3)) (fun _ hk => hk.2) (.slice A206_4 ((rd_T29 l0_4 x13_1).f4).length c206_4)) (fun _ h_ => h_.1))) (Kd.R_base ho0) hb); have n1_ := Aside0.mk (Kd.R_lower (Kd.R_new' ho0 (Kd.R_lt (by (with_reducible repeat (first | apply Kd.R_alloc | apply Kd.R_drewN | apply Kd.R_drew)); exact (Kd.R_mono (Kd.R_far (p := ⟨gb207, 4, none⟩) (Kd.R_far (p := ⟨gb207, 3, none⟩) (Kd.R_far (p := ⟨gb207, 2, none⟩) (Kd.R_far (p := ⟨gb207, 1, none⟩) (Kd.R_far (p := ⟨gb207, 0, none⟩) (Kd.R_types HO_3.out BK207.out (by decide)) (fun _ hk => hk.2) (.int .i64 ((rd_T29 l0_4 x13_1).f0))) (fun _ hk => hk.2) (.int .i64 ((rd_T29 l0_4 x13_1).f1))) (fun _ hk => hk.2) (.bool ((rd_T29 l0_4 x13_1).f2))) (fun _ hk => hk.2) (.slice A206_3 ((rd_T29 l0_4 x13_1).f3).length c206_3)) (fun _ hk => hk.2) (.slice A206_4 ((rd_T29 l0_4 x13_1).f4).length c206_4)) (fun _ h_ => h_.1))))) (below_size (by repeat (first | (with_reducible first | exact HB.out | apply below_alloc | apply pw_below_drewN | apply below_drew1 | refine below_set ?_ GE199.out | refine below_set ?_ GE207.out) | exact HB.out)))); have n2_ := Aside0.mk (blk_below (g := gb199) (o := .cells #[.int .i64 a0_0, .int .i64 a0_1, .bool a0_2, .slice A0_3 l0_3.length c0_3, .slice (some ad206) l0_4.length c0_4] 29 (0, 0)) (by (with_reducible repeat (first | refine blk_drewN ?_ _ | refine blk_drew ?_ | refine blk_alloc ?_ _)); refine blk_far ?_ NB199_207.out _; (with_reducible repeat (first | refine blk_drewN ?_ _ | refine blk_drew ?_ | refine blk_alloc ?_ _)); refine blk_far ?_ NB199_207.out _; (with_reducible repeat (first | refine blk_drewN ?_ _ | refine blk_drew ?_ | refine blk_alloc ?_ _)); refine blk_far ?_ NB199_207.out _; (with_reducible repeat (first | refine blk_drewN ?_ _ | refine blk_drew ?_ | refine blk_alloc ?_ _)); refine blk_far ?_ NB199_207.out _; (with_reducible repeat (first | refine blk_drewN ?_ _ | refine blk_drew ?_ | refine blk_alloc ?_ _)); refine blk_far ?_ NB199_207.out _; (with_reducible repeat (first | refine blk_drewN ?_ _ | refine blk_drew ?_ | refine blk_alloc ?_ _)); exact BK199.out) hb); have n3_ := Aside0.mk (blk_below (g := gb207) (o := .cells #[.int .i64 ((rd_T29 l0_4 x13_1).f0), .int .i64 ((rd_T29 l0_4 x13_1).f1), .bool ((rd_T29 l0_4 x13_1).f2), .slice A206_3 ((rd_T29 l0_4 x13_1).f3).length c206_3, .slice A206_4 ((rd_T29 l0_4 x13_1).f4).length c206_4] 29 (0, 0)) (by (with_reducible repeat (first | refine blk_drewN ?_ _ | refine blk_drew ?_ | refine blk_alloc ?_ _)); refine blk_put (cs := #[.int .i64 ((rd_T29 l0_4 x13_1).f0), .int .i64 ((rd_T29 l0_4 x13_1).f1), .bool ((rd_T29 l0_4 x13_1).f2), .slice A206_3 ((rd_T29 l0_4 x13_1).f3).length c206_3, .slice none 0 0]) ?_ 4 _ rfl; (with_reducible repeat (first | refine blk_drewN ?_ _ | refine blk_drew ?_ | refine blk_alloc ?_ _)); refine blk_put (cs := #[.int .i64 ((rd_T29 l0_4 x13_1).f0), .int .i64 ((rd_T29 l0_4 x13_1).f1), .bool ((rd_T29 l0_4 x13_1).f2), .slice none 0 0, .slice none 0 0]) ?_ 3 _ rfl; (with_reducible repeat (first | refine blk_drewN ?_ _ | refine blk_drew ?_ | refine blk_alloc ?_ _)); refine blk_put (cs := #[.int .i64 ((rd_T29 l0_4 x13_1).f0), .int .i64 ((rd_T29 l0_4 x13_1).f1), .bool false, .slice none 0 0, .slice none 0 0]) ?_ 2 _ rfl; (with_reducible repeat (first | refine blk_drewN ?_ _ | refine blk_drew ?_ | refine blk_alloc ?_ _)); refine blk_put (cs := #[.int .i64 ((rd_T29 l0_4 x13_1).f0), .int .i64 0, .bool false, .slice none 0 0, .slice none 0 0]) ?_ 1 _ rfl; (with_reducible repeat (first | refine blk_drewN ?_ _ | refine blk_drew ?_ | refine blk_alloc ?_ _)); refine blk_put (cs := #[.int .i64 0, .int .i64 0, .bool false, .slice none 0 0, .slice none 0 0]) ?_ 0 _ rfl; (with_reducible repeat (first | refine blk_drewN ?_ _ | refine blk_drew ?_ | refine blk_alloc ?_ _)); exact BK207.out) hb); have n4_ := Aside0.mk (below_step (by repeat (first | (with_reducible first | exact HB.out | apply below_alloc | apply pw_below_drewN | apply below_drew1 | refine below_set ?_ GE199.out | refine below_set ?_ GE207.out) | exact HB.out)) hb); clear HO_3; clear BK199; clear BK207; clear HB; have HO_3 := n0_; have HO210 := n1_; have BK199 := n2_; have BK207 := n3_; have HB := n4_; clear n0_ n1_ n2_ n3_ n4_; (try clear hb); (try clear hb2); (try clear hk); (try clear hi); (try clear ho0); obtain ⟨Ao19, co19, eo19⟩ := Kd.R_slice HO210.out; subst eo19) | ((with_reducible refine gate_builtin (b := .append) (xs := #[.tmp 17, .tmp 19]) rfl ?_); at_builtin; refine Kd.R_append_rows (Kd.int .u8) (w0 := w) w.heap.size rfl (.tmp 17) (.tmp 19) 22 5 (.int .u8 0) 1 rfl Tryd.underlying22 info5 rfl (by decide) (by omega) u3 x3_1 t208 _ _ _ (fun k_ => some k_ ≠ (.slice Ao19 t208.length co19 : Value).ownBlock) (fun _ => False) rfl rfl ?aO ?aR (fun _ _ h => h) (fun _ h => h.elim) ?aF ?aB ?aS ?aL ?_; (case aR => repeat (first | exact (Kd.R_reads' HO210.out).2.2 | (with_reducible refine Kd.C_alloc ?_ _) | (with_reducible refine Kd.C_drewN ?_ _) | (with_reducible refine Kd.C_drew ?_))); (case aB => exact (by repeat (first | (with_reducible first | exact HB.out | apply below_alloc | apply pw_below_drewN | apply below_drew1 | refine below_set ?_ GE199.out | refine below_set ?_ GE207.out) | exact HB.out))); (case aF => exact (fun k_ hk => Kd.fresh' (Kd.R_lt (by (with_reducible repeat (first | apply Kd.R_alloc | apply Kd.R_drewN | apply Kd.R_drew)); exact HO210.out)) k_ hk)); (case aO => exact (by (with_reducible repeat (first | apply Kd.R_alloc | apply Kd.R_drewN | apply Kd.R_drew)); exact Kd.R_mono HO_3.out (fun _ hk => hk.2))); (case aS => exact (below_size (by repeat (first | (with_reducible first | exact HB.out | apply below_alloc | apply pw_below_drewN | apply below_drew1 | refine below_set ?_ GE199.out | refine below_set ?_ GE207.out) | exact HB.out)))); (case aL => have := LMc13.out; omega); intro v212 w18 ho hb hg hat; rw [← Ny211.out] at ho; have n0_ := Aside0.mk (blk_grown (g := gb199) (o := .cells #[.int .i64 a0_0, .int .i64 a0_1, .bool a0_2, .slice A0_3 l0_3.length c0_3, .slice (some ad206) l0_4.length c0_4] 29 (0, 0)) (by (with_reducible repeat (first | refine blk_drewN ?_ _ | refine blk_drew ?_ | refine blk_alloc ?_ _)); exact BK199.out) hg (Kd.R_ne HO_3.out BK199.out (by decide))); have n1_ := Aside0.mk (blk_grown (g := gb207) (o := .cells #[.int .i64 ((rd_T29 l0_4 x13_1).f0), .int .i64 ((rd_T29 l0_4 x13_1).f1), .bool ((rd_T29 l0_4 x13_1).f2), .slice A206_3 ((rd_T29 l0_4 x13_1).f3).length c206_3, .slice A206_4 ((rd_T29 l0_4 x13_1).f4).length c206_4] 29 (0, 0)) (by (with_reducible repeat (first | refine blk_drewN ?_ _ | refine blk_drew ?_ | refine blk_alloc ?_ _)); exact BK207.out) hg (Kd.R_ne HO_3.out BK207.out (by decide))); have n2_ := Aside0.mk (Kd.R_after (ok := (fun _ => True)) (by (with_reducible repeat (first | apply Kd.R_alloc | apply Kd.R_drewN | apply Kd.R_drew)); exact HO210.out) hg hat); have n3_ := Aside0.mk (hb); have n4_ := Aside0.mk (ho); clear BK199; clear BK207; clear HO210; clear HB; clear HO_3; have BK199 := n0_; have BK207 := n1_; have HO210 := n2_; have HB := n3_; have HO213 := n4_; clear n0_ n1_ n2_ n3_ n4_; clear ho hb hg hat))
                go_roundg k1
                case measure => have := HK1.out; omega
                case rel => exact ⟨(y211), (wrap64 (x13_1 + 1)), (by first | rfl | (simp; done) | (simp [*]; done)), H', ⟨by have := HK1.out; omega⟩, ⟨by (with_reducible repeat (first | apply Kd.R_alloc | apply Kd.R_drewN | apply Kd.R_drew)); exact Kd.R_mono HO213.out (fun _ hk => trivial)⟩, ⟨by (with_reducible repeat (first | refine blk_drewN ?_ _ | refine blk_drew ?_ | refine blk_alloc ?_ _)); exact BK199.out⟩, ⟨by repeat (first | (with_reducible first | exact HB.out | apply below_alloc | apply pw_below_drewN | apply below_drew1 | refine below_set ?_ GE199.out | refine below_set ?_ GE207.out) | exact HB.out)⟩⟩
              · rw [if_neg c13] at H
                exact absurd H (by simp)
            · rw [if_neg c11] at H
              exact absurd H (by simp)
          · rw [if_neg c10] at H
            exact absurd H (by simp)
        · rw [if_neg c9] at H
          have c9b0 : decide (x13_1 < (l0_4.length : Int)) = false := decide_eq_false c9
          clear c9
          replace H := Option.bind_eq_some_iff.mp H
          obtain ⟨t214, A200, H⟩ := H
          replace H : ((spec_Length.f k1 (x3_1.length : Int)).bind fun t217 => (if t214.length + t217.length < 140737488355328 then ((some (t214 ++ t217 : List Int)).bind fun y220 => (if y220.length + x3_1.length < 140737488355328 then (some (y220 ++ x3_1)) else (none))) else (none))) = some r := H
          have A20 := Aside0.mk A200
          clear A200
          replace H := Option.bind_eq_some_iff.mp H
          obtain ⟨t217, A210, H⟩ := H
          replace H : (if t214.length + t217.length < 140737488355328 then ((some (t214 ++ t217 : List Int)).bind fun y220 => (if y220.length + x3_1.length < 140737488355328 then (some (y220 ++ x3_1)) else (none))) else (none)) = some r := H
          have A21 := Aside0.mk A210
          clear A210
          by_cases c22 : t214.length + t217.length < 140737488355328
          · rw [if_pos c22] at H
            have LMc22 := Aside0.mk c22
            clear c22
            obtain ⟨y220, hy220⟩ : ∃ y_ : List Int, y_ = (t214 ++ t217) := ⟨_, rfl⟩
            replace H : (if y220.length + x3_1.length < 140737488355328 then (some (y220 ++ x3_1)) else (none)) = some r := by first | (rw [hy220]; with_reducible exact H) | (have H2_ := (Option.bind_some _ _).symm.trans H; rw [hy220]; with_reducible exact H2_) | (have H2_ := (Option.bind_some _ _).symm.trans H; with_reducible exact H2_) | with_reducible exact H | (rw [hy220]; exact H) | exact H
            have Ny220 := Aside0.mk hy220
            clear hy220
            by_cases c23 : y220.length + x3_1.length < 140737488355328
            · rw [if_pos c23] at H
              have LMc23 := Aside0.mk c23
              clear c23
              obtain ⟨y223, hy223⟩ : ∃ y_ : List Int, y_ = (y220 ++ x3_1) := ⟨_, rfl⟩
              replace H : (some y223) = some r := by first | (rw [hy223]; with_reducible exact H) | (have H2_ := (Option.bind_some _ _).symm.trans H; rw [hy223]; with_reducible exact H2_) | (have H2_ := (Option.bind_some _ _).symm.trans H; with_reducible exact H2_) | with_reducible exact H | (rw [hy223]; exact H) | exact H
              have Ny223 := Aside0.mk hy223
              clear hy223
              obtain rfl := Option.some.inj H
              have hcz24_0 : wr.cell? ⟨gb199, 0, none⟩ = some (.int .i64 a0_0) := (blk_cell BK199.out 0).trans rfl
              have hcz24_1 : wr.cell? ⟨gb199, 1, none⟩ = some (.int .i64 a0_1) := (blk_cell BK199.out 1).trans rfl
              have hcz24_2 : wr.cell? ⟨gb199, 2, none⟩ = some (.bool a0_2) := (blk_cell BK199.out 2).trans rfl
              have hcz24_3 : wr.cell? ⟨gb199, 3, none⟩ = some (.slice A0_3 l0_3.length c0_3) := (blk_cell BK199.out 3).trans rfl
              have hcz24_4 : wr.cell? ⟨gb199, 4, none⟩ = some (.slice A0_4 l0_4.length c0_4) := (blk_cell BK199.out 4).trans rfl
              have hfz24_0 := blk_frozen BK199.out 0
              have hfz24_1 := blk_frozen BK199.out 1
              have hfz24_2 := blk_frozen BK199.out 2
              have hfz24_3 := blk_frozen BK199.out 3
              have hfz24_4 := blk_frozen BK199.out 4
              go_wp2_with (first | ((with_reducible refine gate_callee (f := 29) rfl ?_); refine goesL_ (some 23) rfl rfl Tryd.func29 (by kernel_rfl) rfl #[.agg #[.int .i64 a0_0, .int .i64 a0_1, .bool a0_2, .slice A0_3 l0_3.length c0_3, .slice A0_4 l0_4.length c0_4]] rfl (by (try simp only [List.map_toArray, List.map_cons, List.map_nil]); first | done | rfl | (simp only [List.length_drop, List.length_take]; rfl)) ?_; (with_reducible refine (spec_Identifier.calls k1 a0_0 a0_1 a0_2 _ _ l0_3 _ _ l0_4 t214 _ ?side1 ?side2 ?side3 ?side4 A20.out).mono ?_); (case side1 => repeat (first | exact (Kd.C_below HR0_3.out HB.out) | (with_reducible refine Kd.C_alloc ?_ _) | (with_reducible refine Kd.C_drewN ?_ _) | (with_reducible refine Kd.C_drew ?_))); (case side2 => exact HC0_3.out); (case side3 => repeat (first | exact (Kd.C_below HR0_4.out HB.out) | (with_reducible refine Kd.C_alloc ?_ _) | (with_reducible refine Kd.C_drewN ?_ _) | (with_reducible refine Kd.C_drew ?_))); (case side4 => exact HC0_4.out); rintro e w25 ⟨v215, rfl, ho0, hb⟩; refine ⟨_, rfl, ?_⟩; have n0_ := Aside0.mk (Kd.R_elder' (by (with_reducible repeat (first | apply Kd.R_alloc | apply Kd.R_drewN | apply Kd.R_drew)); exact HO_3.out) (Kd.R_base ho0) hb); have n1_ := Aside0.mk (Kd.R_lower (Kd.R_new' ho0 (Kd.R_lt (by (with_reducible repeat (first | apply Kd.R_alloc | apply Kd.R_drewN | apply Kd.R_drew)); exact HO_3.out))) (below_size (by repeat (first | (with_reducible first | exact HB.out | apply below_alloc | apply pw_below_drewN | apply below_drew1 | refine below_set ?_ GE199.out) | exact HB.out)))); have n2_ := Aside0.mk (blk_below (g := gb199) (o := .cells #[.int .i64 a0_0, .int .i64 a0_1, .bool a0_2, .slice A0_3 l0_3.length c0_3, .slice A0_4 l0_4.length c0_4] 29 (0, 0)) (by (with_reducible repeat (first | refine blk_drewN ?_ _ | refine blk_drew ?_ | refine blk_alloc ?_ _)); exact BK199.out) hb); have n3_ := Aside0.mk (below_step (by repeat (first | (with_reducible first | exact HB.out | apply below_alloc | apply pw_below_drewN | apply below_drew1 | refine below_set ?_ GE199.out) | exact HB.out)) hb); clear HO_3; clear BK199; clear HB; have HO_3 := n0_; have HO216 := n1_; have BK199 := n2_; have HB := n3_; clear n0_ n1_ n2_ n3_; (try clear hb); (try clear hb2); (try clear hk); (try clear hi); (try clear ho0); obtain ⟨Ao26, co26, eo26⟩ := Kd.R_slice HO_3.out; subst eo26) | ((with_reducible refine gate_callee (f := 30) rfl ?_); refine goesL_ (some 26) rfl rfl Tryd.func30 (by kernel_rfl) rfl #[.int .i64 (x3_1.length : Int)] rfl (by (try simp only [List.map_toArray, List.map_cons, List.map_nil]); first | done | rfl | (simp only [List.length_drop, List.length_take]; rfl)) ?_; (with_reducible refine (spec_Length.calls k1 (x3_1.length : Int) t217 _ A21.out).mono ?_); rintro e w27 ⟨v218, rfl, ho0, hb⟩; refine ⟨_, rfl, ?_⟩; have n0_ := Aside0.mk (Kd.R_elder' (by (with_reducible repeat (first | apply Kd.R_alloc | apply Kd.R_drewN | apply Kd.R_drew)); exact HO_3.out) (Kd.R_base ho0) hb); have n1_ := Aside0.mk (Kd.R_elder' (by (with_reducible repeat (first | apply Kd.R_alloc | apply Kd.R_drewN | apply Kd.R_drew)); exact HO216.out) (Kd.R_base ho0) hb); have n2_ := Aside0.mk (Kd.R_lower (Kd.R_new' (Kd.R_new' ho0 (Kd.R_lt (by (with_reducible repeat (first | apply Kd.R_alloc | apply Kd.R_drewN | apply Kd.R_drew)); exact HO_3.out))) (Kd.R_lt (by (with_reducible repeat (first | apply Kd.R_alloc | apply Kd.R_drewN | apply Kd.R_drew)); exact HO216.out))) (below_size (by repeat (first | (with_reducible first | exact HB.out | apply below_alloc | apply pw_below_drewN | apply below_drew1 | refine below_set ?_ GE199.out) | exact HB.out)))); have n3_ := Aside0.mk (blk_below (g := gb199) (o := .cells #[.int .i64 a0_0, .int .i64 a0_1, .bool a0_2, .slice A0_3 l0_3.length c0_3, .slice A0_4 l0_4.length c0_4] 29 (0, 0)) (by (with_reducible repeat (first | refine blk_drewN ?_ _ | refine blk_drew ?_ | refine blk_alloc ?_ _)); exact BK199.out) hb); have n4_ := Aside0.mk (below_step (by repeat (first | (with_reducible first | exact HB.out | apply below_alloc | apply pw_below_drewN | apply below_drew1 | refine below_set ?_ GE199.out) | exact HB.out)) hb); clear HO_3; clear HO216; clear BK199; clear HB; have HO_3 := n0_; have HO216 := n1_; have HO219 := n2_; have BK199 := n3_; have HB := n4_; clear n0_ n1_ n2_ n3_ n4_; (try clear hb); (try clear hb2); (try clear hk); (try clear hi); (try clear ho0); obtain ⟨Ao29, co29, eo29⟩ := Kd.R_slice HO219.out; subst eo29) | ((with_reducible refine gate_builtin (b := .append) (xs := #[.tmp 23, .tmp 26]) rfl ?_); at_builtin; refine Kd.R_append_rows (Kd.int .u8) (w0 := w) w.heap.size rfl (.tmp 23) (.tmp 26) 22 5 (.int .u8 0) 1 rfl Tryd.underlying22 info5 rfl (by decide) (by omega) v215 t214 t217 _ _ _ (fun k_ => some k_ ≠ (.slice Ao26 x3_1.length co26 : Value).ownBlock ∧ some k_ ≠ (.slice Ao29 t217.length co29 : Value).ownBlock) (fun _ => False) rfl rfl ?aO ?aR (fun _ _ h => h) (fun _ h => h.elim) ?aF ?aB ?aS ?aL ?_; (case aR => repeat (first | exact (Kd.R_reads' HO219.out).2.2 | (with_reducible refine Kd.C_alloc ?_ _) | (with_reducible refine Kd.C_drewN ?_ _) | (with_reducible refine Kd.C_drew ?_))); (case aB => exact (by repeat (first | (with_reducible first | exact HB.out | apply below_alloc | apply pw_below_drewN | apply below_drew1 | refine below_set ?_ GE199.out) | exact HB.out))); (case aF => exact (fun k_ hk => ⟨Kd.fresh' (Kd.R_lt (by (with_reducible repeat (first | apply Kd.R_alloc | apply Kd.R_drewN | apply Kd.R_drew)); exact HO_3.out)) k_ hk, Kd.fresh' (Kd.R_lt (by (with_reducible repeat (first | apply Kd.R_alloc | apply Kd.R_drewN | apply Kd.R_drew)); exact HO219.out)) k_ hk⟩)); (case aO => exact (by (with_reducible repeat (first | apply Kd.R_alloc | apply Kd.R_drewN | apply Kd.R_drew)); exact Kd.R_mono HO216.out (fun _ hk => ⟨hk.1.2, hk.2⟩))); (case aS => exact (below_size (by repeat (first | (with_reducible first | exact HB.out | apply below_alloc | apply pw_below_drewN | apply below_drew1 | refine below_set ?_ GE199.out) | exact HB.out)))); (case aL => have := LMc22.out; omega); intro v221 w28 ho hb hg hat; rw [← Ny220.out] at ho; have n0_ := Aside0.mk (Kd.R_after (ok := (fun k_ => some k_ ≠ (.slice Ao29 t217.length co29 : Value).ownBlock)) (by (with_reducible repeat (first | apply Kd.R_alloc | apply Kd.R_drewN | apply Kd.R_drew)); exact Kd.R_mono HO_3.out (fun _ hk => ⟨hk.2, hk.1.2⟩)) hg hat); have n1_ := Aside0.mk (blk_grown (g := gb199) (o := .cells #[.int .i64 a0_0, .int .i64 a0_1, .bool a0_2, .slice A0_3 l0_3.length c0_3, .slice A0_4 l0_4.length c0_4] 29 (0, 0)) (by (with_reducible repeat (first | refine blk_drewN ?_ _ | refine blk_drew ?_ | refine blk_alloc ?_ _)); exact BK199.out) hg (Kd.R_ne HO216.out BK199.out (by decide))); have n2_ := Aside0.mk (Kd.R_after (ok := (fun k_ => some k_ ≠ (.slice Ao26 x3_1.length co26 : Value).ownBlock)) (by (with_reducible repeat (first | apply Kd.R_alloc | apply Kd.R_drewN | apply Kd.R_drew)); exact Kd.R_mono HO219.out (fun _ hk => ⟨hk.1.2, hk.2⟩)) hg hat); have n3_ := Aside0.mk (hb); have n4_ := Aside0.mk (ho); clear HO_3; clear BK199; clear HO219; clear HB; clear HO216; have HO_3 := n0_; have BK199 := n1_; have HO219 := n2_; have HB := n3_; have HO222 := n4_; clear n0_ n1_ n2_ n3_ n4_; clear ho hb hg hat) | ((with_reducible refine gate_builtin (b := .append) (xs := #[.tmp 27, .tmp 28]) rfl ?_); at_builtin; refine Kd.R_append_rows (Kd.int .u8) (w0 := w) w.heap.size rfl (.tmp 27) (.tmp 28) 22 5 (.int .u8 0) 1 rfl Tryd.underlying22 info5 rfl (by decide) (by omega) v221 y220 x3_1 _ _ _ (fun k_ => some k_ ≠ (.slice Ao26 x3_1.length co26 : Value).ownBlock ∧ some k_ ≠ (.slice Ao29 t217.length co29 : Value).ownBlock) (fun _ => False) rfl rfl ?aO ?aR (fun _ _ h => h) (fun _ h => h.elim) ?aF ?aB ?aS ?aL ?_; (case aR => repeat (first | exact (Kd.R_reads' HO_3.out).2.2 | (with_reducible refine Kd.C_alloc ?_ _) | (with_reducible refine Kd.C_drewN ?_ _) | (with_reducible refine Kd.C_drew ?_))); (case aB => exact (by repeat (first | (with_reducible first | exact HB.out | apply below_alloc | apply pw_below_drewN | apply below_drew1 | refine below_set ?_ GE199.out) | exact HB.out))); (case aF => exact (fun k_ hk => ⟨Kd.fresh' (Kd.R_lt (by (with_reducible repeat (first | apply Kd.R_alloc | apply Kd.R_drewN | apply Kd.R_drew)); exact HO_3.out)) k_ hk, Kd.fresh' (Kd.R_lt (by (with_reducible repeat (first | apply Kd.R_alloc | apply Kd.R_drewN | apply Kd.R_drew)); exact HO219.out)) k_ hk⟩)); (case aO => exact (by (with_reducible repeat (first | apply Kd.R_alloc | apply Kd.R_drewN | apply Kd.R_drew)); exact HO222.out)); (case aS => exact (below_size (by repeat (first | (with_reducible first | exact HB.out | apply below_alloc | apply pw_below_drewN | apply below_drew1 | refine below_set ?_ GE199.out) | exact HB.out)))); (case aL => have := LMc23.out; omega); intro v224 w30 ho hb hg hat; rw [← Ny223.out] at ho; have n0_ := Aside0.mk (Kd.R_after (ok := (fun k_ => some k_ ≠ (.slice Ao29 t217.length co29 : Value).ownBlock)) (by (with_reducible repeat (first | apply Kd.R_alloc | apply Kd.R_drewN | apply Kd.R_drew)); exact HO_3.out) hg hat); have n1_ := Aside0.mk (blk_grown (g := gb199) (o := .cells #[.int .i64 a0_0, .int .i64 a0_1, .bool a0_2, .slice A0_3 l0_3.length c0_3, .slice A0_4 l0_4.length c0_4] 29 (0, 0)) (by (with_reducible repeat (first | refine blk_drewN ?_ _ | refine blk_drew ?_ | refine blk_alloc ?_ _)); exact BK199.out) hg (Kd.R_ne HO222.out BK199.out (by decide))); have n2_ := Aside0.mk (Kd.R_after (ok := (fun k_ => some k_ ≠ (.slice Ao26 x3_1.length co26 : Value).ownBlock)) (by (with_reducible repeat (first | apply Kd.R_alloc | apply Kd.R_drewN | apply Kd.R_drew)); exact HO219.out) hg hat); have n3_ := Aside0.mk (hb); have n4_ := Aside0.mk (ho); clear HO_3; clear BK199; clear HO219; clear HB; clear HO222; have HO_3 := n0_; have BK199 := n1_; have HO219 := n2_; have HB := n3_; have HO225 := n4_; clear n0_ n1_ n2_ n3_ n4_; clear ho hb hg hat))
              go_ret
              exact ⟨_, by first | rfl | (simp [errW_none, errW_some] <;> rfl) | (simp [*, errW_none, errW_some] <;> rfl), by (with_reducible repeat (first | apply Kd.R_alloc | apply Kd.R_drewN | apply Kd.R_drew)); exact Kd.R_mono HO225.out (fun _ hk => trivial), by repeat (first | (with_reducible first | exact HB.out | apply below_alloc | apply pw_below_drewN | apply below_drew1 | refine below_set ?_ GE199.out) | exact HB.out)⟩
            · rw [if_neg c23] at H
              exact absurd H (by simp)
          · rw [if_neg c22] at H
            exact absurd H (by simp)
  · rw [if_neg c2] at H
    exact absurd H (by simp)

-- NOT PRINTED: function 3 (laws_FnEncode)

end Go.Proofs.YtcohjechpnlogaaDoor.PFnEncode
