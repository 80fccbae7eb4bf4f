/- Written by a program of this session's, after the kit's printer: functions of the reference and what they compute. -/
import Derived.Test.YtcohjechpnlogaaDoorPDNx0
namespace Go.Proofs.YtcohjechpnlogaaDoor.PDN
open Go.RowKit Go.Proofs.YtcohjechpnlogaaDoorW.PrintWords Go.Proofs.YtcohjechpnlogaaDoorW.PrintLast Go.Proofs.YtcohjechpnlogaaDoorW.PrintMore
attribute [local go_sem] max2_int min2_int max_two min_two max_three min_three max_four min_four   -- for this text's walks alone
set_option linter.unusedVariables false
set_option linter.unusedSimpArgs false

/-! ### laws_names: function 13 -/
mutual
def laws_names.l0 : Nat → List (List (S54)) → List (List (S53)) → Int → Int → Option ((List (List (S54))))
  | 0, _, _, _, _ => none
  | k + 1, x3, x9, x10, x11 => if x11 < x10 then (if 0 ≤ x11 then (if x11 < (x9.length : Int) then (laws_names.l1 k x3 ([] : List (S54)) x9 x10 x11 (rd_L3 x9 x11) ((rd_L3 x9 x11).length : Int) 0) else (none)) else (none)) else (some x3)
def laws_names.l1 : Nat → List (List (S54)) → List (S54) → List (List (S53)) → Int → Int → List (S53) → Int → Int → Option ((List (List (S54))))
  | 0, _, _, _, _, _, _, _, _ => none
  | k + 1, x3, x6, x9, x10, x11, x15, x16, x17 => if x17 < x16 then (if 0 ≤ x17 then (if x17 < (x15.length : Int) then (if x6.length < 4398046511104 then (laws_names.l1 k x3 (x6 ++ [(⟨(rd_T53 x15 x17).f0, (rd_T53 x15 x17).f1⟩ : S54)]) x9 x10 x11 x15 x16 (wrap64 (x17 + 1))) else (none)) else (none)) else (none)) else (if x3.length < 5864062014805 then (laws_names.l0 k (x3 ++ [x6]) x9 x10 (wrap64 (x11 + 1))) else (none))
end
def laws_names.f (k : Nat) (l0 : List (List (S53))) : Option ((List (List (S54)))) := laws_names.l0 k ([] : List (List (S54))) l0 (l0.length : Int) 0
theorem laws_names.mono_l : ∀ k, (∀ y0 y1 y2 y3, LeO (laws_names.l0 k y0 y1 y2 y3) (laws_names.l0 (k + 1) y0 y1 y2 y3)) ∧ (∀ y0 y1 y2 y3 y4 y5 y6 y7, LeO (laws_names.l1 k y0 y1 y2 y3 y4 y5 y6 y7) (laws_names.l1 (k + 1) y0 y1 y2 y3 y4 y5 y6 y7))
  | 0 => ⟨fun _ _ _ _ r h => by simp [laws_names.l0] at h, fun _ _ _ _ _ _ _ _ r h => by simp [laws_names.l1] at h⟩
  | k + 1 => by
    obtain ⟨ih0, ih1⟩ := laws_names.mono_l k
    refine ⟨?_, ?_⟩
    · intro y0 y1 y2 y3
      unfold laws_names.l0
      repeat' first
      | (with_reducible exact ih0 _ _ _ _)
      | (with_reducible exact ih1 _ _ _ _ _ _ _ _)
      | (with_reducible exact LeO.refl _)
      | (with_reducible exact LeO.none _)
      | (with_reducible refine LeO.ite ?_ ?_)
      | (with_reducible refine LeO.bind ?_ (fun _ => ?_))
      | exact ih0 _ _ _ _
      | exact ih1 _ _ _ _ _ _ _ _
      | exact LeO.none _
      | refine LeO.ite ?_ ?_
      | refine LeO.bind ?_ (fun _ => ?_)
    · intro y0 y1 y2 y3 y4 y5 y6 y7
      unfold laws_names.l1
      repeat' first
      | (with_reducible exact ih0 _ _ _ _)
      | (with_reducible exact ih1 _ _ _ _ _ _ _ _)
      | (with_reducible exact LeO.refl _)
      | (with_reducible exact LeO.none _)
      | (with_reducible refine LeO.ite ?_ ?_)
      | (with_reducible refine LeO.bind ?_ (fun _ => ?_))
      | exact ih0 _ _ _ _
      | exact ih1 _ _ _ _ _ _ _ _
      | exact LeO.none _
      | refine LeO.ite ?_ ?_
      | refine LeO.bind ?_ (fun _ => ?_)
theorem laws_names.mono : ∀ a0 k, LeO (laws_names.f k a0) (laws_names.f (k + 1) a0) := by
  intro a0 k
  obtain ⟨ih0, ih1⟩ := laws_names.mono_l k
  unfold laws_names.f
  repeat' first
      | (with_reducible exact ih0 _ _ _ _)
      | (with_reducible exact ih1 _ _ _ _ _ _ _ _)
      | (with_reducible exact LeO.refl _)
      | (with_reducible exact LeO.none _)
      | (with_reducible refine LeO.ite ?_ ?_)
      | (with_reducible refine LeO.bind ?_ (fun _ => ?_))
      | exact ih0 _ _ _ _
      | exact ih1 _ _ _ _ _ _ _ _
      | exact LeO.none _
      | refine LeO.ite ?_ ?_
      | refine LeO.bind ?_ (fun _ => ?_)
set_option maxHeartbeats 8000000 in
set_option maxRecDepth 100000 in
theorem laws_names.calls (k : Nat) (A0 : Option Addr) (c0 : Nat) (l0 : List (List (S53))) (r : List (List (S54))) (w : World) (hr0 : Kd.C (Kd.slice 53 k53) w A0 l0.length l0) (hc0 : l0.length ≤ c0) (h : laws_names.f k l0 = some r) :
    Calls Tryd.prog 13 #[.slice A0 l0.length c0] w fun e w' => ∃ v0_ : Value, e = .returned (v0_) ∧ Kd.S (Kd.slice 54 k54) 51 w' w.heap.size (fun _ => True) v0_ r ∧ Below w.heap.size w w' := by
  have hu53 := Tryd.underlying53
  have hu54 := Tryd.underlying54
  have HR0 := Aside0.mk hr0
  have HC0 := Aside0.mk hc0
  clear hr0 hc0
  have HB := Aside0.mk (Below.refl w.heap.size w)
  have H : (laws_names.l0 k ([] : List (List (S54))) l0 (l0.length : Int) 0) = some r := h
  clear h
  have H' := Aside0.mk H
  clear H
  go_enter Tryd.func13, Tryd.ntmps13
  go_wp2
  go_loopg [3, 11] k (fun kq v3 v11 w' => ∃ (x3_1 : List (List (S54))) (x11_1 : Int), v11 = .int .i64 x11_1 ∧ Aside0 (laws_names.l0 kq x3_1 l0 (l0.length : Int) x11_1 = some r) ∧ Aside0 (kq ≤ k) ∧ Aside0 (Kd.S (Kd.slice 54 k54) 51 w' w.heap.size (fun _ => True) v3 x3_1) ∧ Aside0 (Below w.heap.size w w'))
  case atStart => exact ⟨(([] : List (List (S54)))), (0), (by first | rfl | (simp; done) | (simp [*]; done) | (simp; generalize ByteArray.toList _ = l_; cases l_ <;> rfl)), H', ⟨Nat.le_refl _⟩, ⟨by first | exact Kd.S_nil _ _ _ _ _ | exact Kd.N_nil _ _ _ _ _ | exact Kd.V_nil _ _ _ _ _ | exact Kd.Q_nil _ _ _ _ _ | exact Kd.R_nil _ _ _ _ _⟩, ⟨by repeat (first | (with_reducible first | exact HB.out | apply below_alloc | apply pw_below_drewN | apply below_drew1) | exact HB.out)⟩⟩
  case round =>
    clear H'
    try clear c1
    obtain ⟨x3_1, x11_1, rfl, HA, HK1, HO_3, HB⟩ := hrel
    cases gk with
    | zero => exact absurd HA.out (by simp [laws_names.l0])
    | succ k1 =>
      have H := HA.out
      clear HA
      simp only [laws_names.l0] at H
      by_cases c2 : x11_1 < (l0.length : Int)
      · rw [if_pos c2] at H
        have c2b0 : decide (x11_1 < (l0.length : Int)) = true := decide_eq_true c2
        clear c2
        by_cases c3 : 0 ≤ x11_1
        · rw [if_pos c3] at H
          have c3b0 : decide (0 ≤ x11_1) = true := decide_eq_true c3
          clear c3
          by_cases c4 : x11_1 < (l0.length : Int)
          · rw [if_pos c4] at H
            have c4b0 : decide (x11_1 < (l0.length : Int)) = true := decide_eq_true c4
            clear c4
            have H' := Aside0.mk H
            clear H
            have p136 : 0 ≤ (x11_1 : Int) := of_decide_eq_true (by first | (with_reducible assumption) | assumption)
            have q136 : x11_1 < (l0.length : Int) := of_decide_eq_true (by first | (with_reducible assumption) | assumption)
            obtain ⟨ad136, A136_0, c136_0, e136, hx136_0, hl136_0, hi136_0⟩ := at_L3 HR0.out x11_1 p136 q136
            cases e136
            replace hx136_0 := (HB.out.cell (World.block_lt_of_cell? w _ hx136_0)).trans hx136_0
            have HR136_0 := Aside0.mk hi136_0
            have HC136_0 := Aside0.mk hl136_0
            clear hi136_0 hl136_0
            replace p136 := eq_true p136
            replace q136 := eq_true q136
            go_wp2
            go_loopg [6, 17] k1 (fun kq v6 v17 w' => ∃ (x6_2 : List (S54)) (x17_2 : Int), v17 = .int .i64 x17_2 ∧ Aside0 (laws_names.l1 kq x3_1 x6_2 l0 (l0.length : Int) x11_1 (rd_L3 l0 x11_1) ((rd_L3 l0 x11_1).length : Int) x17_2 = some r) ∧ Aside0 (kq ≤ k1) ∧ Aside0 (Kd.S (Kd.slice 54 k54) 51 w' w.heap.size (fun k_ => some k_ ≠ (v6 : Value).ownBlock) u3 x3_1) ∧ Aside0 (Kd.R k54 54 w' w.heap.size (fun _ => True) v6 x6_2) ∧ Aside0 (Below w.heap.size w w'))
            case atStart => exact ⟨(([] : List (S54))), (0), (by first | rfl | (simp; done) | (simp [*]; done) | (simp; generalize ByteArray.toList _ = l_; cases l_ <;> rfl)), H', ⟨Nat.le_refl _⟩, ⟨by (with_reducible repeat (first | apply Kd.S_alloc | apply Kd.S_drewN | apply Kd.S_drew)); exact Kd.S_mono HO_3.out (fun _ hk => (by simp [Value.ownBlock]))⟩, ⟨by first | exact Kd.R_nil _ _ _ _ _ | exact Kd.N_nil _ _ _ _ _ | exact Kd.V_nil _ _ _ _ _ | exact Kd.Q_nil _ _ _ _ _ | exact Kd.S_nil _ _ _ _ _⟩, ⟨by repeat (first | (with_reducible first | exact HB.out | apply below_alloc | apply pw_below_drewN | apply below_drew1) | exact HB.out)⟩⟩
            case round =>
              clear H'
              try clear c1
              try clear p1
              try clear q1
              try clear hx1
              try clear c2
              try clear c2b0
              try clear p2
              try clear c3
              try clear c3b0
              try clear c4
              try clear c4b0
              try clear hx136_0
              try clear p136
              try clear q136
              obtain ⟨x6_2, x17_2, rfl, HA, HK2, HO_3, HO_6, HB⟩ := hrel
              cases gk with
              | zero => exact absurd HA.out (by simp [laws_names.l1])
              | succ k2 =>
                have H := HA.out
                clear HA
                simp only [laws_names.l1] at H
                by_cases c5 : x17_2 < ((rd_L3 l0 x11_1).length : Int)
                · rw [if_pos c5] at H
                  have c5b0 : decide (x17_2 < ((rd_L3 l0 x11_1).length : Int)) = true := decide_eq_true c5
                  clear c5
                  by_cases c6 : 0 ≤ x17_2
                  · rw [if_pos c6] at H
                    have c6b0 : decide (0 ≤ x17_2) = true := decide_eq_true c6
                    clear c6
                    by_cases c7 : x17_2 < ((rd_L3 l0 x11_1).length : Int)
                    · rw [if_pos c7] at H
                      have c7b0 : decide (x17_2 < ((rd_L3 l0 x11_1).length : Int)) = true := decide_eq_true c7
                      clear c7
                      by_cases c8 : x6_2.length < 4398046511104
                      · rw [if_pos c8] at H
                        have LMc8 := Aside0.mk c8
                        clear c8
                        obtain ⟨y139, hy139⟩ : ∃ y_ : List (S54), y_ = (x6_2 ++ [(⟨(rd_T53 (rd_L3 l0 x11_1) x17_2).f0, (rd_T53 (rd_L3 l0 x11_1) x17_2).f1⟩ : S54)]) := ⟨_, rfl⟩
                        replace H : (laws_names.l1 k2 x3_1 y139 l0 (l0.length : Int) x11_1 (rd_L3 l0 x11_1) ((rd_L3 l0 x11_1).length : Int) (wrap64 (x17_2 + 1))) = some r := by first | (rw [hy139]; with_reducible exact H) | (have H2_ := (Option.bind_some _ _).symm.trans H; rw [hy139]; with_reducible exact H2_) | (have H2_ := (Option.bind_some _ _).symm.trans H; with_reducible exact H2_) | with_reducible exact H | (rw [hy139]; exact H) | exact H
                        have Ny139 := Aside0.mk hy139
                        clear hy139
                        have H' := Aside0.mk H
                        clear H
                        have p137 : 0 ≤ (x17_2 : Int) := of_decide_eq_true (by first | (with_reducible assumption) | assumption)
                        have q137 : x17_2 < ((rd_L3 l0 x11_1).length : Int) := of_decide_eq_true (by first | (with_reducible assumption) | assumption)
                        obtain ⟨ad137, e137, hx137_0, hx137_1⟩ := at_T53 HR136_0.out x17_2 p137 q137
                        cases e137
                        replace hx137_0 := (HB.out.cell (World.block_lt_of_cell? w _ hx137_0)).trans hx137_0
                        replace hx137_1 := (HB.out.cell (World.block_lt_of_cell? w _ hx137_1)).trans hx137_1
                        replace p137 := eq_true p137
                        replace q137 := eq_true q137
                        go_wp2_with (first | ((with_reducible refine gate_dst (N := 8) rfl ?_); refine box_event ?hg (N := 8) ?hd (cs := #[.string (⟨#[]⟩ : ByteArray), .string (⟨#[]⟩ : ByteArray)]) (t := 53) ?hr ?_; (case hd => rfl); (case hg => rfl); (case hr => first | (go_simp; done) | (go_simp; rfl)); intro gb138 hg w9 hbox hb; have n0_ := Aside0.mk (Kd.S_below (by (with_reducible repeat (first | apply Kd.S_alloc | apply Kd.S_drewN | apply Kd.S_drew)); exact HO_3.out) hb); have n1_ := Aside0.mk (Kd.R_below (by (with_reducible repeat (first | apply Kd.R_alloc | apply Kd.R_drewN | apply Kd.R_drew)); exact HO_6.out) hb); have n2_ := Aside0.mk (below_step (by repeat (first | (with_reducible first | exact HB.out | apply below_alloc | apply pw_below_drewN | apply below_drew1) | exact HB.out)) hb); have n3_ := Aside0.mk (hbox); have n4_ := Aside0.mk ((by rw [hg]; exact (below_size (by repeat (first | (with_reducible first | exact HB.out | apply below_alloc | apply pw_below_drewN | apply below_drew1) | exact HB.out))) : w.heap.size ≤ gb138)); have n5_ := Aside0.mk ((by rw [hg]; exact (below_size (by repeat (first | (with_reducible first | exact HB.out | apply below_alloc | apply pw_below_drewN | apply below_drew1) | exact HB.out))) : w.heap.size ≤ gb138)); clear HO_3; clear HO_6; clear HB; have HO_3 := n0_; have HO_6 := n1_; have HB := n2_; have BK138 := n3_; have GW138 := n4_; have GE138 := n5_; clear n0_ n1_ n2_ n3_ n4_ n5_; clear hb hbox hg; have hcz10_0 : w9.cell? ⟨gb138, 0, none⟩ = some (.string (⟨#[]⟩ : ByteArray)) := (blk_cell BK138.out 0).trans rfl; have hcz10_1 : w9.cell? ⟨gb138, 1, none⟩ = some (.string (⟨#[]⟩ : ByteArray)) := (blk_cell BK138.out 1).trans rfl; have hfz10_0 := blk_frozen BK138.out 0; have hfz10_1 := blk_frozen BK138.out 1) | ((with_reducible refine gate_builtin (b := .append) (xs := #[.tmp 21, .tmp 27]) rfl ?_); at_builtin; refine Kd.R_append k54 (w0 := w) w.heap.size rfl (.tmp 21) (.tmp 27) 51 54 (.agg #[(.string ⟨#[]⟩), (.string ⟨#[]⟩)]) 32 rfl Tryd.underlying51 info54 rfl (by decide) (by omega) u6 x6_2 (⟨(rd_T53 (rd_L3 l0 x11_1) x17_2).f0, (rd_T53 (rd_L3 l0 x11_1) x17_2).f1⟩ : S54) [.string ((rd_T53 (rd_L3 l0 x11_1) x17_2).f0), .string ((rd_T53 (rd_L3 l0 x11_1) x17_2).f1)] (fun _ => True) (fun _ => False) rfl (by first | (go_simp; done) | (go_simp; rfl)) ?aP (fun _ hk => hk.elim) ?aF ?aO ?aB ?aS ?aL ?_; (case aP => exact k54_mkM _ _ _ (⟨(rd_T53 (rd_L3 l0 x11_1) x17_2).f0, (rd_T53 (rd_L3 l0 x11_1) x17_2).f1⟩ : S54)); (case aB => exact (by repeat (first | (with_reducible first | exact HB.out | apply below_alloc | apply pw_below_drewN | apply below_drew1 | refine below_set ?_ GE138.out) | exact HB.out))); (case aF => exact (fun _ _ => trivial)); (case aO => exact (by (with_reducible repeat (first | apply Kd.R_alloc | apply Kd.R_drewN | apply Kd.R_drew)); exact Kd.R_mono (Kd.R_far (p := ⟨gb138, 1, none⟩) (Kd.R_far (p := ⟨gb138, 0, none⟩) (Kd.R_types HO_6.out BK138.out (by decide)) (fun _ hk => hk.2) (.string ((rd_T53 (rd_L3 l0 x11_1) x17_2).f0))) (fun _ hk => hk.2) (.string ((rd_T53 (rd_L3 l0 x11_1) x17_2).f1))) (fun _ hk => trivial))); (case aS => exact (below_size (by repeat (first | (with_reducible first | exact HB.out | apply below_alloc | apply pw_below_drewN | apply below_drew1 | refine below_set ?_ GE138.out) | exact HB.out)))); (case aL => have := LMc8.out; omega); intro v140 w11 ho hb hg hat; rw [← Ny139.out] at ho; have n0_ := Aside0.mk (Kd.S_after (ok := (fun _ => True)) (by (with_reducible repeat (first | apply Kd.S_alloc | apply Kd.S_drewN | apply Kd.S_drew)); exact Kd.S_mono (Kd.S_far (p := ⟨gb138, 1, none⟩) (Kd.S_far (p := ⟨gb138, 0, none⟩) (Kd.S_types HO_3.out BK138.out (by decide)) (fun _ hk => hk.2) (.string ((rd_T53 (rd_L3 l0 x11_1) x17_2).f0))) (fun _ hk => hk.2) (.string ((rd_T53 (rd_L3 l0 x11_1) x17_2).f1))) (fun _ hk => ⟨trivial, hk.1⟩)) hg hat); have n1_ := Aside0.mk (blk_grown (g := gb138) (o := .cells #[.string ((rd_T53 (rd_L3 l0 x11_1) x17_2).f0), .string ((rd_T53 (rd_L3 l0 x11_1) x17_2).f1)] 53 (0, 0)) (by (with_reducible repeat (first | refine blk_drewN ?_ _ | refine blk_drew ?_ | refine blk_alloc ?_ _)); refine blk_put (cs := #[.string ((rd_T53 (rd_L3 l0 x11_1) x17_2).f0), .string (⟨#[]⟩ : ByteArray)]) ?_ 1 _ rfl; (with_reducible repeat (first | refine blk_drewN ?_ _ | refine blk_drew ?_ | refine blk_alloc ?_ _)); refine blk_put (cs := #[.string (⟨#[]⟩ : ByteArray), .string (⟨#[]⟩ : ByteArray)]) ?_ 0 _ rfl; (with_reducible repeat (first | refine blk_drewN ?_ _ | refine blk_drew ?_ | refine blk_alloc ?_ _)); exact BK138.out) hg (Kd.R_ne HO_6.out BK138.out (by decide))); have n2_ := Aside0.mk (hb); have n3_ := Aside0.mk (ho); clear HO_3; clear BK138; clear HB; clear HO_6; have HO_3 := n0_; have BK138 := n1_; have HB := n2_; have HO141 := n3_; clear n0_ n1_ n2_ n3_; clear ho hb hg hat))
                        go_roundg k2
                        case measure => have := HK1.out; have := HK2.out; omega
                        case rel => exact ⟨(y139), (wrap64 (x17_2 + 1)), (by first | rfl | (simp; done) | (simp [*]; done) | (simp; generalize ByteArray.toList _ = l_; cases l_ <;> rfl)), H', ⟨by have := HK1.out; have := HK2.out; omega⟩, ⟨by (with_reducible repeat (first | apply Kd.S_alloc | apply Kd.S_drewN | apply Kd.S_drew)); exact Kd.S_mono HO_3.out (fun _ hk => hk.2)⟩, ⟨by (with_reducible repeat (first | apply Kd.R_alloc | apply Kd.R_drewN | apply Kd.R_drew)); exact HO141.out⟩, ⟨by repeat (first | (with_reducible first | exact HB.out | apply below_alloc | apply pw_below_drewN | apply below_drew1 | refine below_set ?_ GE138.out) | exact HB.out)⟩⟩
                      · rw [if_neg c8] at H
                        exact absurd H (by simp)
                    · rw [if_neg c7] at H
                      exact absurd H (by simp)
                  · rw [if_neg c6] at H
                    exact absurd H (by simp)
                · rw [if_neg c5] at H
                  have c5b0 : decide (x17_2 < ((rd_L3 l0 x11_1).length : Int)) = false := decide_eq_false c5
                  clear c5
                  by_cases c12 : x3_1.length < 5864062014805
                  · rw [if_pos c12] at H
                    have LMc12 := Aside0.mk c12
                    clear c12
                    obtain ⟨y142, hy142⟩ : ∃ y_ : List (List (S54)), y_ = (x3_1 ++ [x6_2]) := ⟨_, rfl⟩
                    replace H : (laws_names.l0 k2 y142 l0 (l0.length : Int) (wrap64 (x11_1 + 1))) = some r := by first | (rw [hy142]; with_reducible exact H) | (have H2_ := (Option.bind_some _ _).symm.trans H; rw [hy142]; with_reducible exact H2_) | (have H2_ := (Option.bind_some _ _).symm.trans H; with_reducible exact H2_) | with_reducible exact H | (rw [hy142]; exact H) | exact H
                    have Ny142 := Aside0.mk hy142
                    clear hy142
                    have H' := Aside0.mk H
                    clear H
                    obtain ⟨Ao14, co14, eo14⟩ := Kd.R_slice HO_6.out
                    subst eo14
                    go_wp2_with (first | ((with_reducible refine gate_builtin (b := .append) (xs := #[.tmp 30, .tmp 32]) rfl ?_); at_builtin; refine Kd.S_append (Kd.slice 54 k54) (w0 := w) w.heap.size rfl (.tmp 30) (.tmp 32) 37 51 (.slice none 0 0) 24 rfl Tryd.underlying37 info51 rfl (by decide) (by omega) u3 x3_1 x6_2 [.slice Ao14 x6_2.length co14] (fun _ => True) (fun k_ => some k_ = (.slice Ao14 x6_2.length co14 : Value).ownBlock) rfl rfl ?aP (fun k_ hk_ => ((Kd.R_mono (ok' := fun k_ => ((fun _ => True)) k_ ∧ some k_ ≠ (u3 : Value).ownBlock) (Kd.R_apart' (HO_6.out) (Kd.S_typed HO_3.out) (by decide)) (fun k_ hk => ⟨trivial, hk.2⟩))).1 k_ hk_.symm) ?aF ?aO ?aB ?aS ?aL ?_; (case aP => exact Kd.M_row (Kd.R_mono (Kd.R_tight rfl (Kd.R_mono (ok' := fun k_ => ((fun _ => True)) k_ ∧ some k_ ≠ (u3 : Value).ownBlock) (Kd.R_apart' (HO_6.out) (Kd.S_typed HO_3.out) (by decide)) (fun k_ hk => ⟨trivial, hk.2⟩))) (fun _ h_ => h_))); (case aB => exact (by repeat (first | (with_reducible first | exact HB.out | apply below_alloc | apply pw_below_drewN | apply below_drew1) | exact HB.out))); (case aF => exact (fun _ _ => trivial)); (case aO => exact (by (with_reducible repeat (first | apply Kd.S_alloc | apply Kd.S_drewN | apply Kd.S_drew)); exact Kd.S_mono HO_3.out (fun k_ hk => ⟨trivial, fun e_ => hk e_⟩))); (case aS => exact (below_size (by repeat (first | (with_reducible first | exact HB.out | apply below_alloc | apply pw_below_drewN | apply below_drew1) | exact HB.out)))); (case aL => have := LMc12.out; omega); intro v143 w13 ho hb hg hat; rw [← Ny142.out] at ho; have n0_ := Aside0.mk (hb); have n1_ := Aside0.mk (ho); clear HB; clear HO_3; clear HO_6; have HB := n0_; have HO144 := n1_; clear n0_ n1_; clear ho hb hg hat))
                    go_roundg k2
                    case measure => have := HK1.out; have := HK2.out; omega
                    case rel => exact ⟨(y142), (wrap64 (x11_1 + 1)), (by first | rfl | (simp; done) | (simp [*]; done) | (simp; generalize ByteArray.toList _ = l_; cases l_ <;> rfl)), H', ⟨by have := HK1.out; have := HK2.out; omega⟩, ⟨by (with_reducible repeat (first | apply Kd.S_alloc | apply Kd.S_drewN | apply Kd.S_drew)); exact HO144.out⟩, ⟨by repeat (first | (with_reducible first | exact HB.out | apply below_alloc | apply pw_below_drewN | apply below_drew1) | exact HB.out)⟩⟩
                  · rw [if_neg c12] at H
                    exact absurd H (by simp)
          · rw [if_neg c4] at H
            exact absurd H (by simp)
        · rw [if_neg c3] at H
          exact absurd H (by simp)
      · rw [if_neg c2] at H
        have c2b0 : decide (x11_1 < (l0.length : Int)) = false := decide_eq_false c2
        clear c2
        obtain rfl := Option.some.inj H
        go_wp2
        go_ret
        exact ⟨_, by first | rfl | (simp [errW_none, errW_some] <;> rfl) | (simp [*, errW_none, errW_some] <;> rfl), by (with_reducible repeat (first | apply Kd.S_alloc | apply Kd.S_drewN | apply Kd.S_drew)); exact HO_3.out, by repeat (first | (with_reducible first | exact HB.out | apply below_alloc | apply pw_below_drewN | apply below_drew1) | exact HB.out)⟩

/-! ### spec_Word: function 49 -/
def spec_Word.l0 : Nat → ByteArray → Int → Int → Option (Bool)
  | 0, _, _, _ => none
  | k + 1, x0, x7, x8 => if x8 < x7 then (if 0 ≤ x8 then (if x8 < (x0.size : Int) then (if (bt x0 x8) ≥ 97 then (if (bt x0 x8) ≤ 122 then (spec_Word.l0 k x0 x7 (wrap64 (x8 + 1))) else (if (bt x0 x8) ≥ 65 then (if ((bt x0 x8) ≤ 90) then (spec_Word.l0 k x0 x7 (wrap64 (x8 + 1))) else (if x8 = 0 then (some false) else (if (bt x0 x8) = 45 then (spec_Word.l0 k x0 x7 (wrap64 (x8 + 1))) else (if (bt x0 x8) = 59 then (spec_Word.l0 k x0 x7 (wrap64 (x8 + 1))) else (if (bt x0 x8) = 46 then (spec_Word.l0 k x0 x7 (wrap64 (x8 + 1))) else (if (bt x0 x8) < 48 then (some false) else (if (bt x0 x8) > 57 then (some false) else (spec_Word.l0 k x0 x7 (wrap64 (x8 + 1)))))))))) else (if x8 = 0 then (some false) else (if (bt x0 x8) = 45 then (spec_Word.l0 k x0 x7 (wrap64 (x8 + 1))) else (if (bt x0 x8) = 59 then (spec_Word.l0 k x0 x7 (wrap64 (x8 + 1))) else (if (bt x0 x8) = 46 then (spec_Word.l0 k x0 x7 (wrap64 (x8 + 1))) else (if (bt x0 x8) < 48 then (some false) else (if (bt x0 x8) > 57 then (some false) else (spec_Word.l0 k x0 x7 (wrap64 (x8 + 1))))))))))) else (if (bt x0 x8) ≥ 65 then (if ((bt x0 x8) ≤ 90) then (spec_Word.l0 k x0 x7 (wrap64 (x8 + 1))) else (if x8 = 0 then (some false) else (if (bt x0 x8) = 45 then (spec_Word.l0 k x0 x7 (wrap64 (x8 + 1))) else (if (bt x0 x8) = 59 then (spec_Word.l0 k x0 x7 (wrap64 (x8 + 1))) else (if (bt x0 x8) = 46 then (spec_Word.l0 k x0 x7 (wrap64 (x8 + 1))) else (if (bt x0 x8) < 48 then (some false) else (if (bt x0 x8) > 57 then (some false) else (spec_Word.l0 k x0 x7 (wrap64 (x8 + 1)))))))))) else (if x8 = 0 then (some false) else (if (bt x0 x8) = 45 then (spec_Word.l0 k x0 x7 (wrap64 (x8 + 1))) else (if (bt x0 x8) = 59 then (spec_Word.l0 k x0 x7 (wrap64 (x8 + 1))) else (if (bt x0 x8) = 46 then (spec_Word.l0 k x0 x7 (wrap64 (x8 + 1))) else (if (bt x0 x8) < 48 then (some false) else (if (bt x0 x8) > 57 then (some false) else (spec_Word.l0 k x0 x7 (wrap64 (x8 + 1))))))))))) else (none)) else (none)) else (some (x0.toList != ([] : List UInt8)))
def spec_Word.f (k : Nat) (a0 : ByteArray) : Option (Bool) := spec_Word.l0 k a0 (a0.size : Int) 0
theorem spec_Word.mono_l : ∀ k, (∀ y0 y1 y2, LeO (spec_Word.l0 k y0 y1 y2) (spec_Word.l0 (k + 1) y0 y1 y2))
  | 0 => fun _ _ _ r h => by simp [spec_Word.l0] at h
  | k + 1 => by
    have ih0 := spec_Word.mono_l k
    · intro y0 y1 y2
      unfold spec_Word.l0
      repeat' first
      | (with_reducible exact ih0 _ _ _)
      | (with_reducible exact LeO.refl _)
      | (with_reducible exact LeO.none _)
      | (with_reducible refine LeO.ite ?_ ?_)
      | (with_reducible refine LeO.bind ?_ (fun _ => ?_))
      | exact ih0 _ _ _
      | exact LeO.none _
      | refine LeO.ite ?_ ?_
      | refine LeO.bind ?_ (fun _ => ?_)
theorem spec_Word.mono : ∀ a0 k, LeO (spec_Word.f k a0) (spec_Word.f (k + 1) a0) := by
  intro a0 k
  have ih0 := spec_Word.mono_l k
  unfold spec_Word.f
  repeat' first
      | (with_reducible exact ih0 _ _ _)
      | (with_reducible exact LeO.refl _)
      | (with_reducible exact LeO.none _)
      | (with_reducible refine LeO.ite ?_ ?_)
      | (with_reducible refine LeO.bind ?_ (fun _ => ?_))
      | exact ih0 _ _ _
      | exact LeO.none _
      | refine LeO.ite ?_ ?_
      | refine LeO.bind ?_ (fun _ => ?_)
set_option maxHeartbeats 8000000 in
set_option maxRecDepth 100000 in
theorem spec_Word.calls (k : Nat) (a0 : ByteArray) (r : Bool) (w : World) (h : spec_Word.f k a0 = some r) :
    Calls Tryd.prog 49 #[.string a0] w fun e w' => e = .returned (.bool r) ∧ Drawn0 w w' := by
  have H : (spec_Word.l0 k a0 (a0.size : Int) 0) = some r := h
  clear h
  have H' := Aside0.mk H
  clear H
  go_enter Tryd.func49, Tryd.ntmps49
  go_wp2
  go_loopg [8] k (fun kq v8 w' => ∃ (x8_1 : Int), v8 = .int .i64 x8_1 ∧ Aside0 (spec_Word.l0 kq a0 (a0.size : Int) x8_1 = some r) ∧ Aside0 (kq ≤ k) ∧ Drawn0 w w')
  case atStart => exact ⟨(0), (by first | rfl | (simp; done) | (simp [*]; done) | (simp; generalize ByteArray.toList _ = l_; cases l_ <;> rfl)), H', ⟨Nat.le_refl _⟩, by repeat (first | exact Drawn0.refl _ | apply Drawn0.step)⟩
  case round =>
    clear H'
    obtain ⟨x8_1, rfl, HA, HK1, ⟨m1, rfl⟩⟩ := hrel
    cases gk with
    | zero => exact absurd HA.out (by simp [spec_Word.l0])
    | succ k1 =>
      have H := HA.out
      clear HA
      simp only [spec_Word.l0] at H
      by_cases c2 : x8_1 < (a0.size : Int)
      · rw [if_pos c2] at H
        have c2b0 : decide (x8_1 < (a0.size : Int)) = true := decide_eq_true c2
        clear c2
        by_cases c3 : 0 ≤ x8_1
        · rw [if_pos c3] at H
          have c3b0 : decide (0 ≤ x8_1) = true := decide_eq_true c3
          clear c3
          by_cases c4 : x8_1 < (a0.size : Int)
          · rw [if_pos c4] at H
            have c4b0 : decide (x8_1 < (a0.size : Int)) = true := decide_eq_true c4
            clear c4
            by_cases c6 : (bt a0 x8_1) ≥ 97
            · rw [if_pos c6] at H
              have c6b0 : decide (97 ≤ (bt a0 x8_1)) = true := decide_eq_true c6
              clear c6
              by_cases c7 : (bt a0 x8_1) ≤ 122
              · rw [if_pos c7] at H
                have c7b0 : decide ((bt a0 x8_1) ≤ 122) = true := decide_eq_true c7
                clear c7
                have H' := Aside0.mk H
                clear H
                have p5 : 0 ≤ (x8_1 : Int) := of_decide_eq_true (by first | (with_reducible assumption) | assumption)
                have q5 : x8_1 < (a0.size : Int) := of_decide_eq_true (by first | (with_reducible assumption) | assumption)
                have hx5 := bt_at a0 x8_1
                replace p5 := eq_true p5
                replace q5 := eq_true q5
                go_wp2
                go_roundg k1
                case measure => have := HK1.out; omega
                case rel => exact ⟨(wrap64 (x8_1 + 1)), (by first | rfl | (simp; done) | (simp [*]; done) | (simp; generalize ByteArray.toList _ = l_; cases l_ <;> rfl)), H', ⟨by have := HK1.out; omega⟩, by repeat (first | exact Drawn0.refl _ | apply Drawn0.step)⟩
              · rw [if_neg c7] at H
                have c7b0 : decide ((bt a0 x8_1) ≤ 122) = false := decide_eq_false c7
                clear c7
                by_cases c8 : (bt a0 x8_1) ≥ 65
                · rw [if_pos c8] at H
                  have c8b0 : decide (65 ≤ (bt a0 x8_1)) = true := decide_eq_true c8
                  clear c8
                  by_cases c9 : ((bt a0 x8_1) ≤ 90)
                  · rw [if_pos c9] at H
                    have c9b0 : decide ((bt a0 x8_1) ≤ 90) = true := decide_eq_true c9
                    clear c9
                    have H' := Aside0.mk H
                    clear H
                    have p5 : 0 ≤ (x8_1 : Int) := of_decide_eq_true (by first | (with_reducible assumption) | assumption)
                    have q5 : x8_1 < (a0.size : Int) := of_decide_eq_true (by first | (with_reducible assumption) | assumption)
                    have hx5 := bt_at a0 x8_1
                    replace p5 := eq_true p5
                    replace q5 := eq_true q5
                    go_wp2
                    go_roundg k1
                    case measure => have := HK1.out; omega
                    case rel => exact ⟨(wrap64 (x8_1 + 1)), (by first | rfl | (simp; done) | (simp [*]; done) | (simp; generalize ByteArray.toList _ = l_; cases l_ <;> rfl)), H', ⟨by have := HK1.out; omega⟩, by repeat (first | exact Drawn0.refl _ | apply Drawn0.step)⟩
                  · rw [if_neg c9] at H
                    have c9b0 : decide ((bt a0 x8_1) ≤ 90) = false := decide_eq_false c9
                    clear c9
                    by_cases c10 : x8_1 = 0
                    · rw [if_pos c10] at H
                      have c10b0 : (x8_1 == 0) = true := beq_iff_eq.mpr c10
                      have c10b1 : (x8_1 != 0) = false := bne_eq_false_iff_eq.mpr c10
                      clear c10
                      obtain rfl := Option.some.inj H
                      have p5 : 0 ≤ (x8_1 : Int) := of_decide_eq_true (by first | (with_reducible assumption) | assumption)
                      have q5 : x8_1 < (a0.size : Int) := of_decide_eq_true (by first | (with_reducible assumption) | assumption)
                      have hx5 := bt_at a0 x8_1
                      replace p5 := eq_true p5
                      replace q5 := eq_true q5
                      go_wp2
                      go_ret
                      exact ⟨by first | rfl | (simp; done) | (simp [*]; done) | (simp; generalize ByteArray.toList _ = l_; cases l_ <;> rfl), by repeat (first | exact Drawn0.refl _ | apply Drawn0.step)⟩
                    · rw [if_neg c10] at H
                      have c10b0 : (x8_1 == 0) = false := beq_eq_false_iff_ne.mpr c10
                      have c10b1 : (x8_1 != 0) = true := bne_iff_ne.mpr c10
                      by_cases c11 : (bt a0 x8_1) = 45
                      · rw [if_pos c11] at H
                        have c11b0 : ((bt a0 x8_1) == 45) = true := beq_iff_eq.mpr c11
                        have c11b1 : ((bt a0 x8_1) != 45) = false := bne_eq_false_iff_eq.mpr c11
                        clear c11
                        have H' := Aside0.mk H
                        clear H
                        have p5 : 0 ≤ (x8_1 : Int) := of_decide_eq_true (by first | (with_reducible assumption) | assumption)
                        have q5 : x8_1 < (a0.size : Int) := of_decide_eq_true (by first | (with_reducible assumption) | assumption)
                        have hx5 := bt_at a0 x8_1
                        replace p5 := eq_true p5
                        replace q5 := eq_true q5
                        go_wp2
                        go_roundg k1
                        case measure => have := HK1.out; omega
                        case rel => exact ⟨(wrap64 (x8_1 + 1)), (by first | rfl | (simp; done) | (simp [*]; done) | (simp; generalize ByteArray.toList _ = l_; cases l_ <;> rfl)), H', ⟨by have := HK1.out; omega⟩, by repeat (first | exact Drawn0.refl _ | apply Drawn0.step)⟩
                      · rw [if_neg c11] at H
                        have c11b0 : ((bt a0 x8_1) == 45) = false := beq_eq_false_iff_ne.mpr c11
                        have c11b1 : ((bt a0 x8_1) != 45) = true := bne_iff_ne.mpr c11
                        by_cases c12 : (bt a0 x8_1) = 59
                        · rw [if_pos c12] at H
                          have c12b0 : ((bt a0 x8_1) == 59) = true := beq_iff_eq.mpr c12
                          have c12b1 : ((bt a0 x8_1) != 59) = false := bne_eq_false_iff_eq.mpr c12
                          clear c12
                          have H' := Aside0.mk H
                          clear H
                          have p5 : 0 ≤ (x8_1 : Int) := of_decide_eq_true (by first | (with_reducible assumption) | assumption)
                          have q5 : x8_1 < (a0.size : Int) := of_decide_eq_true (by first | (with_reducible assumption) | assumption)
                          have hx5 := bt_at a0 x8_1
                          replace p5 := eq_true p5
                          replace q5 := eq_true q5
                          go_wp2
                          go_roundg k1
                          case measure => have := HK1.out; omega
                          case rel => exact ⟨(wrap64 (x8_1 + 1)), (by first | rfl | (simp; done) | (simp [*]; done) | (simp; generalize ByteArray.toList _ = l_; cases l_ <;> rfl)), H', ⟨by have := HK1.out; omega⟩, by repeat (first | exact Drawn0.refl _ | apply Drawn0.step)⟩
                        · rw [if_neg c12] at H
                          have c12b0 : ((bt a0 x8_1) == 59) = false := beq_eq_false_iff_ne.mpr c12
                          have c12b1 : ((bt a0 x8_1) != 59) = true := bne_iff_ne.mpr c12
                          by_cases c13 : (bt a0 x8_1) = 46
                          · rw [if_pos c13] at H
                            have c13b0 : ((bt a0 x8_1) == 46) = true := beq_iff_eq.mpr c13
                            have c13b1 : ((bt a0 x8_1) != 46) = false := bne_eq_false_iff_eq.mpr c13
                            clear c13
                            have H' := Aside0.mk H
                            clear H
                            have p5 : 0 ≤ (x8_1 : Int) := of_decide_eq_true (by first | (with_reducible assumption) | assumption)
                            have q5 : x8_1 < (a0.size : Int) := of_decide_eq_true (by first | (with_reducible assumption) | assumption)
                            have hx5 := bt_at a0 x8_1
                            replace p5 := eq_true p5
                            replace q5 := eq_true q5
                            go_wp2
                            go_roundg k1
                            case measure => have := HK1.out; omega
                            case rel => exact ⟨(wrap64 (x8_1 + 1)), (by first | rfl | (simp; done) | (simp [*]; done) | (simp; generalize ByteArray.toList _ = l_; cases l_ <;> rfl)), H', ⟨by have := HK1.out; omega⟩, by repeat (first | exact Drawn0.refl _ | apply Drawn0.step)⟩
                          · rw [if_neg c13] at H
                            have c13b0 : ((bt a0 x8_1) == 46) = false := beq_eq_false_iff_ne.mpr c13
                            have c13b1 : ((bt a0 x8_1) != 46) = true := bne_iff_ne.mpr c13
                            by_cases c14 : (bt a0 x8_1) < 48
                            · rw [if_pos c14] at H
                              have c14b0 : decide ((bt a0 x8_1) < 48) = true := decide_eq_true c14
                              clear c14
                              obtain rfl := Option.some.inj H
                              have p5 : 0 ≤ (x8_1 : Int) := of_decide_eq_true (by first | (with_reducible assumption) | assumption)
                              have q5 : x8_1 < (a0.size : Int) := of_decide_eq_true (by first | (with_reducible assumption) | assumption)
                              have hx5 := bt_at a0 x8_1
                              replace p5 := eq_true p5
                              replace q5 := eq_true q5
                              go_wp2
                              go_ret
                              exact ⟨by first | rfl | (simp; done) | (simp [*]; done) | (simp; generalize ByteArray.toList _ = l_; cases l_ <;> rfl), by repeat (first | exact Drawn0.refl _ | apply Drawn0.step)⟩
                            · rw [if_neg c14] at H
                              have c14b0 : decide ((bt a0 x8_1) < 48) = false := decide_eq_false c14
                              clear c14
                              by_cases c15 : (bt a0 x8_1) > 57
                              · rw [if_pos c15] at H
                                have c15b0 : decide (57 < (bt a0 x8_1)) = true := decide_eq_true c15
                                clear c15
                                obtain rfl := Option.some.inj H
                                have p5 : 0 ≤ (x8_1 : Int) := of_decide_eq_true (by first | (with_reducible assumption) | assumption)
                                have q5 : x8_1 < (a0.size : Int) := of_decide_eq_true (by first | (with_reducible assumption) | assumption)
                                have hx5 := bt_at a0 x8_1
                                replace p5 := eq_true p5
                                replace q5 := eq_true q5
                                go_wp2
                                go_ret
                                exact ⟨by first | rfl | (simp; done) | (simp [*]; done) | (simp; generalize ByteArray.toList _ = l_; cases l_ <;> rfl), by repeat (first | exact Drawn0.refl _ | apply Drawn0.step)⟩
                              · rw [if_neg c15] at H
                                have c15b0 : decide (57 < (bt a0 x8_1)) = false := decide_eq_false c15
                                clear c15
                                have H' := Aside0.mk H
                                clear H
                                have p5 : 0 ≤ (x8_1 : Int) := of_decide_eq_true (by first | (with_reducible assumption) | assumption)
                                have q5 : x8_1 < (a0.size : Int) := of_decide_eq_true (by first | (with_reducible assumption) | assumption)
                                have hx5 := bt_at a0 x8_1
                                replace p5 := eq_true p5
                                replace q5 := eq_true q5
                                go_wp2
                                go_roundg k1
                                case measure => have := HK1.out; omega
                                case rel => exact ⟨(wrap64 (x8_1 + 1)), (by first | rfl | (simp; done) | (simp [*]; done) | (simp; generalize ByteArray.toList _ = l_; cases l_ <;> rfl)), H', ⟨by have := HK1.out; omega⟩, by repeat (first | exact Drawn0.refl _ | apply Drawn0.step)⟩
                · rw [if_neg c8] at H
                  have c8b0 : decide (65 ≤ (bt a0 x8_1)) = false := decide_eq_false c8
                  clear c8
                  by_cases c16 : x8_1 = 0
                  · rw [if_pos c16] at H
                    have c16b0 : (x8_1 == 0) = true := beq_iff_eq.mpr c16
                    have c16b1 : (x8_1 != 0) = false := bne_eq_false_iff_eq.mpr c16
                    clear c16
                    obtain rfl := Option.some.inj H
                    have p5 : 0 ≤ (x8_1 : Int) := of_decide_eq_true (by first | (with_reducible assumption) | assumption)
                    have q5 : x8_1 < (a0.size : Int) := of_decide_eq_true (by first | (with_reducible assumption) | assumption)
                    have hx5 := bt_at a0 x8_1
                    replace p5 := eq_true p5
                    replace q5 := eq_true q5
                    go_wp2
                    go_ret
                    exact ⟨by first | rfl | (simp; done) | (simp [*]; done) | (simp; generalize ByteArray.toList _ = l_; cases l_ <;> rfl), by repeat (first | exact Drawn0.refl _ | apply Drawn0.step)⟩
                  · rw [if_neg c16] at H
                    have c16b0 : (x8_1 == 0) = false := beq_eq_false_iff_ne.mpr c16
                    have c16b1 : (x8_1 != 0) = true := bne_iff_ne.mpr c16
                    by_cases c17 : (bt a0 x8_1) = 45
                    · rw [if_pos c17] at H
                      have c17b0 : ((bt a0 x8_1) == 45) = true := beq_iff_eq.mpr c17
                      have c17b1 : ((bt a0 x8_1) != 45) = false := bne_eq_false_iff_eq.mpr c17
                      clear c17
                      have H' := Aside0.mk H
                      clear H
                      have p5 : 0 ≤ (x8_1 : Int) := of_decide_eq_true (by first | (with_reducible assumption) | assumption)
                      have q5 : x8_1 < (a0.size : Int) := of_decide_eq_true (by first | (with_reducible assumption) | assumption)
                      have hx5 := bt_at a0 x8_1
                      replace p5 := eq_true p5
                      replace q5 := eq_true q5
                      go_wp2
                      go_roundg k1
                      case measure => have := HK1.out; omega
                      case rel => exact ⟨(wrap64 (x8_1 + 1)), (by first | rfl | (simp; done) | (simp [*]; done) | (simp; generalize ByteArray.toList _ = l_; cases l_ <;> rfl)), H', ⟨by have := HK1.out; omega⟩, by repeat (first | exact Drawn0.refl _ | apply Drawn0.step)⟩
                    · rw [if_neg c17] at H
                      have c17b0 : ((bt a0 x8_1) == 45) = false := beq_eq_false_iff_ne.mpr c17
                      have c17b1 : ((bt a0 x8_1) != 45) = true := bne_iff_ne.mpr c17
                      by_cases c18 : (bt a0 x8_1) = 59
                      · rw [if_pos c18] at H
                        have c18b0 : ((bt a0 x8_1) == 59) = true := beq_iff_eq.mpr c18
                        have c18b1 : ((bt a0 x8_1) != 59) = false := bne_eq_false_iff_eq.mpr c18
                        clear c18
                        have H' := Aside0.mk H
                        clear H
                        have p5 : 0 ≤ (x8_1 : Int) := of_decide_eq_true (by first | (with_reducible assumption) | assumption)
                        have q5 : x8_1 < (a0.size : Int) := of_decide_eq_true (by first | (with_reducible assumption) | assumption)
                        have hx5 := bt_at a0 x8_1
                        replace p5 := eq_true p5
                        replace q5 := eq_true q5
                        go_wp2
                        go_roundg k1
                        case measure => have := HK1.out; omega
                        case rel => exact ⟨(wrap64 (x8_1 + 1)), (by first | rfl | (simp; done) | (simp [*]; done) | (simp; generalize ByteArray.toList _ = l_; cases l_ <;> rfl)), H', ⟨by have := HK1.out; omega⟩, by repeat (first | exact Drawn0.refl _ | apply Drawn0.step)⟩
                      · rw [if_neg c18] at H
                        have c18b0 : ((bt a0 x8_1) == 59) = false := beq_eq_false_iff_ne.mpr c18
                        have c18b1 : ((bt a0 x8_1) != 59) = true := bne_iff_ne.mpr c18
                        by_cases c19 : (bt a0 x8_1) = 46
                        · rw [if_pos c19] at H
                          have c19b0 : ((bt a0 x8_1) == 46) = true := beq_iff_eq.mpr c19
                          have c19b1 : ((bt a0 x8_1) != 46) = false := bne_eq_false_iff_eq.mpr c19
                          clear c19
                          have H' := Aside0.mk H
                          clear H
                          have p5 : 0 ≤ (x8_1 : Int) := of_decide_eq_true (by first | (with_reducible assumption) | assumption)
                          have q5 : x8_1 < (a0.size : Int) := of_decide_eq_true (by first | (with_reducible assumption) | assumption)
                          have hx5 := bt_at a0 x8_1
                          replace p5 := eq_true p5
                          replace q5 := eq_true q5
                          go_wp2
                          go_roundg k1
                          case measure => have := HK1.out; omega
                          case rel => exact ⟨(wrap64 (x8_1 + 1)), (by first | rfl | (simp; done) | (simp [*]; done) | (simp; generalize ByteArray.toList _ = l_; cases l_ <;> rfl)), H', ⟨by have := HK1.out; omega⟩, by repeat (first | exact Drawn0.refl _ | apply Drawn0.step)⟩
                        · rw [if_neg c19] at H
                          have c19b0 : ((bt a0 x8_1) == 46) = false := beq_eq_false_iff_ne.mpr c19
                          have c19b1 : ((bt a0 x8_1) != 46) = true := bne_iff_ne.mpr c19
                          by_cases c20 : (bt a0 x8_1) < 48
                          · rw [if_pos c20] at H
                            have c20b0 : decide ((bt a0 x8_1) < 48) = true := decide_eq_true c20
                            clear c20
                            obtain rfl := Option.some.inj H
                            have p5 : 0 ≤ (x8_1 : Int) := of_decide_eq_true (by first | (with_reducible assumption) | assumption)
                            have q5 : x8_1 < (a0.size : Int) := of_decide_eq_true (by first | (with_reducible assumption) | assumption)
                            have hx5 := bt_at a0 x8_1
                            replace p5 := eq_true p5
                            replace q5 := eq_true q5
                            go_wp2
                            go_ret
                            exact ⟨by first | rfl | (simp; done) | (simp [*]; done) | (simp; generalize ByteArray.toList _ = l_; cases l_ <;> rfl), by repeat (first | exact Drawn0.refl _ | apply Drawn0.step)⟩
                          · rw [if_neg c20] at H
                            have c20b0 : decide ((bt a0 x8_1) < 48) = false := decide_eq_false c20
                            clear c20
                            by_cases c21 : (bt a0 x8_1) > 57
                            · rw [if_pos c21] at H
                              have c21b0 : decide (57 < (bt a0 x8_1)) = true := decide_eq_true c21
                              clear c21
                              obtain rfl := Option.some.inj H
                              have p5 : 0 ≤ (x8_1 : Int) := of_decide_eq_true (by first | (with_reducible assumption) | assumption)
                              have q5 : x8_1 < (a0.size : Int) := of_decide_eq_true (by first | (with_reducible assumption) | assumption)
                              have hx5 := bt_at a0 x8_1
                              replace p5 := eq_true p5
                              replace q5 := eq_true q5
                              go_wp2
                              go_ret
                              exact ⟨by first | rfl | (simp; done) | (simp [*]; done) | (simp; generalize ByteArray.toList _ = l_; cases l_ <;> rfl), by repeat (first | exact Drawn0.refl _ | apply Drawn0.step)⟩
                            · rw [if_neg c21] at H
                              have c21b0 : decide (57 < (bt a0 x8_1)) = false := decide_eq_false c21
                              clear c21
                              have H' := Aside0.mk H
                              clear H
                              have p5 : 0 ≤ (x8_1 : Int) := of_decide_eq_true (by first | (with_reducible assumption) | assumption)
                              have q5 : x8_1 < (a0.size : Int) := of_decide_eq_true (by first | (with_reducible assumption) | assumption)
                              have hx5 := bt_at a0 x8_1
                              replace p5 := eq_true p5
                              replace q5 := eq_true q5
                              go_wp2
                              go_roundg k1
                              case measure => have := HK1.out; omega
                              case rel => exact ⟨(wrap64 (x8_1 + 1)), (by first | rfl | (simp; done) | (simp [*]; done) | (simp; generalize ByteArray.toList _ = l_; cases l_ <;> rfl)), H', ⟨by have := HK1.out; omega⟩, by repeat (first | exact Drawn0.refl _ | apply Drawn0.step)⟩
            · rw [if_neg c6] at H
              have c6b0 : decide (97 ≤ (bt a0 x8_1)) = false := decide_eq_false c6
              clear c6
              by_cases c22 : (bt a0 x8_1) ≥ 65
              · rw [if_pos c22] at H
                have c22b0 : decide (65 ≤ (bt a0 x8_1)) = true := decide_eq_true c22
                clear c22
                by_cases c23 : ((bt a0 x8_1) ≤ 90)
                · rw [if_pos c23] at H
                  have c23b0 : decide ((bt a0 x8_1) ≤ 90) = true := decide_eq_true c23
                  clear c23
                  have H' := Aside0.mk H
                  clear H
                  have p5 : 0 ≤ (x8_1 : Int) := of_decide_eq_true (by first | (with_reducible assumption) | assumption)
                  have q5 : x8_1 < (a0.size : Int) := of_decide_eq_true (by first | (with_reducible assumption) | assumption)
                  have hx5 := bt_at a0 x8_1
                  replace p5 := eq_true p5
                  replace q5 := eq_true q5
                  go_wp2
                  go_roundg k1
                  case measure => have := HK1.out; omega
                  case rel => exact ⟨(wrap64 (x8_1 + 1)), (by first | rfl | (simp; done) | (simp [*]; done) | (simp; generalize ByteArray.toList _ = l_; cases l_ <;> rfl)), H', ⟨by have := HK1.out; omega⟩, by repeat (first | exact Drawn0.refl _ | apply Drawn0.step)⟩
                · rw [if_neg c23] at H
                  have c23b0 : decide ((bt a0 x8_1) ≤ 90) = false := decide_eq_false c23
                  clear c23
                  by_cases c24 : x8_1 = 0
                  · rw [if_pos c24] at H
                    have c24b0 : (x8_1 == 0) = true := beq_iff_eq.mpr c24
                    have c24b1 : (x8_1 != 0) = false := bne_eq_false_iff_eq.mpr c24
                    clear c24
                    obtain rfl := Option.some.inj H
                    have p5 : 0 ≤ (x8_1 : Int) := of_decide_eq_true (by first | (with_reducible assumption) | assumption)
                    have q5 : x8_1 < (a0.size : Int) := of_decide_eq_true (by first | (with_reducible assumption) | assumption)
                    have hx5 := bt_at a0 x8_1
                    replace p5 := eq_true p5
                    replace q5 := eq_true q5
                    go_wp2
                    go_ret
                    exact ⟨by first | rfl | (simp; done) | (simp [*]; done) | (simp; generalize ByteArray.toList _ = l_; cases l_ <;> rfl), by repeat (first | exact Drawn0.refl _ | apply Drawn0.step)⟩
                  · rw [if_neg c24] at H
                    have c24b0 : (x8_1 == 0) = false := beq_eq_false_iff_ne.mpr c24
                    have c24b1 : (x8_1 != 0) = true := bne_iff_ne.mpr c24
                    by_cases c25 : (bt a0 x8_1) = 45
                    · rw [if_pos c25] at H
                      have c25b0 : ((bt a0 x8_1) == 45) = true := beq_iff_eq.mpr c25
                      have c25b1 : ((bt a0 x8_1) != 45) = false := bne_eq_false_iff_eq.mpr c25
                      clear c25
                      have H' := Aside0.mk H
                      clear H
                      have p5 : 0 ≤ (x8_1 : Int) := of_decide_eq_true (by first | (with_reducible assumption) | assumption)
                      have q5 : x8_1 < (a0.size : Int) := of_decide_eq_true (by first | (with_reducible assumption) | assumption)
                      have hx5 := bt_at a0 x8_1
                      replace p5 := eq_true p5
                      replace q5 := eq_true q5
                      go_wp2
                      go_roundg k1
                      case measure => have := HK1.out; omega
                      case rel => exact ⟨(wrap64 (x8_1 + 1)), (by first | rfl | (simp; done) | (simp [*]; done) | (simp; generalize ByteArray.toList _ = l_; cases l_ <;> rfl)), H', ⟨by have := HK1.out; omega⟩, by repeat (first | exact Drawn0.refl _ | apply Drawn0.step)⟩
                    · rw [if_neg c25] at H
                      have c25b0 : ((bt a0 x8_1) == 45) = false := beq_eq_false_iff_ne.mpr c25
                      have c25b1 : ((bt a0 x8_1) != 45) = true := bne_iff_ne.mpr c25
                      by_cases c26 : (bt a0 x8_1) = 59
                      · rw [if_pos c26] at H
                        have c26b0 : ((bt a0 x8_1) == 59) = true := beq_iff_eq.mpr c26
                        have c26b1 : ((bt a0 x8_1) != 59) = false := bne_eq_false_iff_eq.mpr c26
                        clear c26
                        have H' := Aside0.mk H
                        clear H
                        have p5 : 0 ≤ (x8_1 : Int) := of_decide_eq_true (by first | (with_reducible assumption) | assumption)
                        have q5 : x8_1 < (a0.size : Int) := of_decide_eq_true (by first | (with_reducible assumption) | assumption)
                        have hx5 := bt_at a0 x8_1
                        replace p5 := eq_true p5
                        replace q5 := eq_true q5
                        go_wp2
                        go_roundg k1
                        case measure => have := HK1.out; omega
                        case rel => exact ⟨(wrap64 (x8_1 + 1)), (by first | rfl | (simp; done) | (simp [*]; done) | (simp; generalize ByteArray.toList _ = l_; cases l_ <;> rfl)), H', ⟨by have := HK1.out; omega⟩, by repeat (first | exact Drawn0.refl _ | apply Drawn0.step)⟩
                      · rw [if_neg c26] at H
                        have c26b0 : ((bt a0 x8_1) == 59) = false := beq_eq_false_iff_ne.mpr c26
                        have c26b1 : ((bt a0 x8_1) != 59) = true := bne_iff_ne.mpr c26
                        by_cases c27 : (bt a0 x8_1) = 46
                        · rw [if_pos c27] at H
                          have c27b0 : ((bt a0 x8_1) == 46) = true := beq_iff_eq.mpr c27
                          have c27b1 : ((bt a0 x8_1) != 46) = false := bne_eq_false_iff_eq.mpr c27
                          clear c27
                          have H' := Aside0.mk H
                          clear H
                          have p5 : 0 ≤ (x8_1 : Int) := of_decide_eq_true (by first | (with_reducible assumption) | assumption)
                          have q5 : x8_1 < (a0.size : Int) := of_decide_eq_true (by first | (with_reducible assumption) | assumption)
                          have hx5 := bt_at a0 x8_1
                          replace p5 := eq_true p5
                          replace q5 := eq_true q5
                          go_wp2
                          go_roundg k1
                          case measure => have := HK1.out; omega
                          case rel => exact ⟨(wrap64 (x8_1 + 1)), (by first | rfl | (simp; done) | (simp [*]; done) | (simp; generalize ByteArray.toList _ = l_; cases l_ <;> rfl)), H', ⟨by have := HK1.out; omega⟩, by repeat (first | exact Drawn0.refl _ | apply Drawn0.step)⟩
                        · rw [if_neg c27] at H
                          have c27b0 : ((bt a0 x8_1) == 46) = false := beq_eq_false_iff_ne.mpr c27
                          have c27b1 : ((bt a0 x8_1) != 46) = true := bne_iff_ne.mpr c27
                          by_cases c28 : (bt a0 x8_1) < 48
                          · rw [if_pos c28] at H
                            have c28b0 : decide ((bt a0 x8_1) < 48) = true := decide_eq_true c28
                            clear c28
                            obtain rfl := Option.some.inj H
                            have p5 : 0 ≤ (x8_1 : Int) := of_decide_eq_true (by first | (with_reducible assumption) | assumption)
                            have q5 : x8_1 < (a0.size : Int) := of_decide_eq_true (by first | (with_reducible assumption) | assumption)
                            have hx5 := bt_at a0 x8_1
                            replace p5 := eq_true p5
                            replace q5 := eq_true q5
                            go_wp2
                            go_ret
                            exact ⟨by first | rfl | (simp; done) | (simp [*]; done) | (simp; generalize ByteArray.toList _ = l_; cases l_ <;> rfl), by repeat (first | exact Drawn0.refl _ | apply Drawn0.step)⟩
                          · rw [if_neg c28] at H
                            have c28b0 : decide ((bt a0 x8_1) < 48) = false := decide_eq_false c28
                            clear c28
                            by_cases c29 : (bt a0 x8_1) > 57
                            · rw [if_pos c29] at H
                              have c29b0 : decide (57 < (bt a0 x8_1)) = true := decide_eq_true c29
                              clear c29
                              obtain rfl := Option.some.inj H
                              have p5 : 0 ≤ (x8_1 : Int) := of_decide_eq_true (by first | (with_reducible assumption) | assumption)
                              have q5 : x8_1 < (a0.size : Int) := of_decide_eq_true (by first | (with_reducible assumption) | assumption)
                              have hx5 := bt_at a0 x8_1
                              replace p5 := eq_true p5
                              replace q5 := eq_true q5
                              go_wp2
                              go_ret
                              exact ⟨by first | rfl | (simp; done) | (simp [*]; done) | (simp; generalize ByteArray.toList _ = l_; cases l_ <;> rfl), by repeat (first | exact Drawn0.refl _ | apply Drawn0.step)⟩
                            · rw [if_neg c29] at H
                              have c29b0 : decide (57 < (bt a0 x8_1)) = false := decide_eq_false c29
                              clear c29
                              have H' := Aside0.mk H
                              clear H
                              have p5 : 0 ≤ (x8_1 : Int) := of_decide_eq_true (by first | (with_reducible assumption) | assumption)
                              have q5 : x8_1 < (a0.size : Int) := of_decide_eq_true (by first | (with_reducible assumption) | assumption)
                              have hx5 := bt_at a0 x8_1
                              replace p5 := eq_true p5
                              replace q5 := eq_true q5
                              go_wp2
                              go_roundg k1
                              case measure => have := HK1.out; omega
                              case rel => exact ⟨(wrap64 (x8_1 + 1)), (by first | rfl | (simp; done) | (simp [*]; done) | (simp; generalize ByteArray.toList _ = l_; cases l_ <;> rfl)), H', ⟨by have := HK1.out; omega⟩, by repeat (first | exact Drawn0.refl _ | apply Drawn0.step)⟩
              · rw [if_neg c22] at H
                have c22b0 : decide (65 ≤ (bt a0 x8_1)) = false := decide_eq_false c22
                clear c22
                by_cases c30 : x8_1 = 0
                · rw [if_pos c30] at H
                  have c30b0 : (x8_1 == 0) = true := beq_iff_eq.mpr c30
                  have c30b1 : (x8_1 != 0) = false := bne_eq_false_iff_eq.mpr c30
                  clear c30
                  obtain rfl := Option.some.inj H
                  have p5 : 0 ≤ (x8_1 : Int) := of_decide_eq_true (by first | (with_reducible assumption) | assumption)
                  have q5 : x8_1 < (a0.size : Int) := of_decide_eq_true (by first | (with_reducible assumption) | assumption)
                  have hx5 := bt_at a0 x8_1
                  replace p5 := eq_true p5
                  replace q5 := eq_true q5
                  go_wp2
                  go_ret
                  exact ⟨by first | rfl | (simp; done) | (simp [*]; done) | (simp; generalize ByteArray.toList _ = l_; cases l_ <;> rfl), by repeat (first | exact Drawn0.refl _ | apply Drawn0.step)⟩
                · rw [if_neg c30] at H
                  have c30b0 : (x8_1 == 0) = false := beq_eq_false_iff_ne.mpr c30
                  have c30b1 : (x8_1 != 0) = true := bne_iff_ne.mpr c30
                  by_cases c31 : (bt a0 x8_1) = 45
                  · rw [if_pos c31] at H
                    have c31b0 : ((bt a0 x8_1) == 45) = true := beq_iff_eq.mpr c31
                    have c31b1 : ((bt a0 x8_1) != 45) = false := bne_eq_false_iff_eq.mpr c31
                    clear c31
                    have H' := Aside0.mk H
                    clear H
                    have p5 : 0 ≤ (x8_1 : Int) := of_decide_eq_true (by first | (with_reducible assumption) | assumption)
                    have q5 : x8_1 < (a0.size : Int) := of_decide_eq_true (by first | (with_reducible assumption) | assumption)
                    have hx5 := bt_at a0 x8_1
                    replace p5 := eq_true p5
                    replace q5 := eq_true q5
                    go_wp2
                    go_roundg k1
                    case measure => have := HK1.out; omega
                    case rel => exact ⟨(wrap64 (x8_1 + 1)), (by first | rfl | (simp; done) | (simp [*]; done) | (simp; generalize ByteArray.toList _ = l_; cases l_ <;> rfl)), H', ⟨by have := HK1.out; omega⟩, by repeat (first | exact Drawn0.refl _ | apply Drawn0.step)⟩
                  · rw [if_neg c31] at H
                    have c31b0 : ((bt a0 x8_1) == 45) = false := beq_eq_false_iff_ne.mpr c31
                    have c31b1 : ((bt a0 x8_1) != 45) = true := bne_iff_ne.mpr c31
                    by_cases c32 : (bt a0 x8_1) = 59
                    · rw [if_pos c32] at H
                      have c32b0 : ((bt a0 x8_1) == 59) = true := beq_iff_eq.mpr c32
                      have c32b1 : ((bt a0 x8_1) != 59) = false := bne_eq_false_iff_eq.mpr c32
                      clear c32
                      have H' := Aside0.mk H
                      clear H
                      have p5 : 0 ≤ (x8_1 : Int) := of_decide_eq_true (by first | (with_reducible assumption) | assumption)
                      have q5 : x8_1 < (a0.size : Int) := of_decide_eq_true (by first | (with_reducible assumption) | assumption)
                      have hx5 := bt_at a0 x8_1
                      replace p5 := eq_true p5
                      replace q5 := eq_true q5
                      go_wp2
                      go_roundg k1
                      case measure => have := HK1.out; omega
                      case rel => exact ⟨(wrap64 (x8_1 + 1)), (by first | rfl | (simp; done) | (simp [*]; done) | (simp; generalize ByteArray.toList _ = l_; cases l_ <;> rfl)), H', ⟨by have := HK1.out; omega⟩, by repeat (first | exact Drawn0.refl _ | apply Drawn0.step)⟩
                    · rw [if_neg c32] at H
                      have c32b0 : ((bt a0 x8_1) == 59) = false := beq_eq_false_iff_ne.mpr c32
                      have c32b1 : ((bt a0 x8_1) != 59) = true := bne_iff_ne.mpr c32
                      by_cases c33 : (bt a0 x8_1) = 46
                      · rw [if_pos c33] at H
                        have c33b0 : ((bt a0 x8_1) == 46) = true := beq_iff_eq.mpr c33
                        have c33b1 : ((bt a0 x8_1) != 46) = false := bne_eq_false_iff_eq.mpr c33
                        clear c33
                        have H' := Aside0.mk H
                        clear H
                        have p5 : 0 ≤ (x8_1 : Int) := of_decide_eq_true (by first | (with_reducible assumption) | assumption)
                        have q5 : x8_1 < (a0.size : Int) := of_decide_eq_true (by first | (with_reducible assumption) | assumption)
                        have hx5 := bt_at a0 x8_1
                        replace p5 := eq_true p5
                        replace q5 := eq_true q5
                        go_wp2
                        go_roundg k1
                        case measure => have := HK1.out; omega
                        case rel => exact ⟨(wrap64 (x8_1 + 1)), (by first | rfl | (simp; done) | (simp [*]; done) | (simp; generalize ByteArray.toList _ = l_; cases l_ <;> rfl)), H', ⟨by have := HK1.out; omega⟩, by repeat (first | exact Drawn0.refl _ | apply Drawn0.step)⟩
                      · rw [if_neg c33] at H
                        have c33b0 : ((bt a0 x8_1) == 46) = false := beq_eq_false_iff_ne.mpr c33
                        have c33b1 : ((bt a0 x8_1) != 46) = true := bne_iff_ne.mpr c33
                        by_cases c34 : (bt a0 x8_1) < 48
                        · rw [if_pos c34] at H
                          have c34b0 : decide ((bt a0 x8_1) < 48) = true := decide_eq_true c34
                          clear c34
                          obtain rfl := Option.some.inj H
                          have p5 : 0 ≤ (x8_1 : Int) := of_decide_eq_true (by first | (with_reducible assumption) | assumption)
                          have q5 : x8_1 < (a0.size : Int) := of_decide_eq_true (by first | (with_reducible assumption) | assumption)
                          have hx5 := bt_at a0 x8_1
                          replace p5 := eq_true p5
                          replace q5 := eq_true q5
                          go_wp2
                          go_ret
                          exact ⟨by first | rfl | (simp; done) | (simp [*]; done) | (simp; generalize ByteArray.toList _ = l_; cases l_ <;> rfl), by repeat (first | exact Drawn0.refl _ | apply Drawn0.step)⟩
                        · rw [if_neg c34] at H
                          have c34b0 : decide ((bt a0 x8_1) < 48) = false := decide_eq_false c34
                          clear c34
                          by_cases c35 : (bt a0 x8_1) > 57
                          · rw [if_pos c35] at H
                            have c35b0 : decide (57 < (bt a0 x8_1)) = true := decide_eq_true c35
                            clear c35
                            obtain rfl := Option.some.inj H
                            have p5 : 0 ≤ (x8_1 : Int) := of_decide_eq_true (by first | (with_reducible assumption) | assumption)
                            have q5 : x8_1 < (a0.size : Int) := of_decide_eq_true (by first | (with_reducible assumption) | assumption)
                            have hx5 := bt_at a0 x8_1
                            replace p5 := eq_true p5
                            replace q5 := eq_true q5
                            go_wp2
                            go_ret
                            exact ⟨by first | rfl | (simp; done) | (simp [*]; done) | (simp; generalize ByteArray.toList _ = l_; cases l_ <;> rfl), by repeat (first | exact Drawn0.refl _ | apply Drawn0.step)⟩
                          · rw [if_neg c35] at H
                            have c35b0 : decide (57 < (bt a0 x8_1)) = false := decide_eq_false c35
                            clear c35
                            have H' := Aside0.mk H
                            clear H
                            have p5 : 0 ≤ (x8_1 : Int) := of_decide_eq_true (by first | (with_reducible assumption) | assumption)
                            have q5 : x8_1 < (a0.size : Int) := of_decide_eq_true (by first | (with_reducible assumption) | assumption)
                            have hx5 := bt_at a0 x8_1
                            replace p5 := eq_true p5
                            replace q5 := eq_true q5
                            go_wp2
                            go_roundg k1
                            case measure => have := HK1.out; omega
                            case rel => exact ⟨(wrap64 (x8_1 + 1)), (by first | rfl | (simp; done) | (simp [*]; done) | (simp; generalize ByteArray.toList _ = l_; cases l_ <;> rfl)), H', ⟨by have := HK1.out; omega⟩, by repeat (first | exact Drawn0.refl _ | apply Drawn0.step)⟩
          · rw [if_neg c4] at H
            exact absurd H (by simp)
        · rw [if_neg c3] at H
          exact absurd H (by simp)
      · rw [if_neg c2] at H
        have c2b0 : decide (x8_1 < (a0.size : Int)) = false := decide_eq_false c2
        clear c2
        obtain rfl := Option.some.inj H
        go_wp2
        go_ret
        exact ⟨by first | rfl | (simp; done) | (simp [*]; done) | (simp; generalize ByteArray.toList _ = l_; cases l_ <;> rfl), by repeat (first | exact Drawn0.refl _ | apply Drawn0.step)⟩

end Go.Proofs.YtcohjechpnlogaaDoor.PDN
