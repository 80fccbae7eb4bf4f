/- Parts of the proof of one law, in the order in which they build.  -/
import Derived.Test.YtejbpbdlolehnaaDoorAny2
import Derived.Test.YtejbpbdlolehnaaDoorAny3
import Derived.Test.YtejbpbdlolehnaaDoorAny4
namespace Go.Proofs.YtejbpbdlolehnaaDoor.PFnEncode
open Go.RowKit Go.Proofs.YtejbpbdlolehnaaDoorW.PrintWords Go.Proofs.YtejbpbdlolehnaaDoorW.PrintLast Go.Proofs.YtejbpbdlolehnaaDoorW.PrintMore
attribute [local go_sem] max2_int min2_int max_two min_two max_three min_three max_four min_four   -- for this text's walks alone
set_option linter.unusedVariables false
set_option linter.unusedSimpArgs false

/-! ### laws_zzFits1: function 6 -/
-- NOT PRINTED: function 16 (laws_within)

-- NOT PRINTED: function 7 (laws_packet)

/-! ### spec_Size: function 17 -/
mutual
def spec_Size.l0 : Nat → Int → List (S29) → Int → Int → Option (Int)
  | 0, _, _, _, _ => none
  | k + 1, x3, x11, x12, x13 => if x13 < x12 then (if 0 ≤ x13 then (if x13 < (x11.length : Int) then ((spec_Size.f k ((rd_T29 x11 x13).f0) ((rd_T29 x11 x13).f1) ((rd_T29 x11 x13).f2) ((rd_T29 x11 x13).f3) ((rd_T29 x11 x13).f4)).bind fun t107 => (spec_Size.l0 k (wrap64 (x3 + t107)) x11 x12 (wrap64 (x13 + 1)))) else (none)) else (none)) else (some x3)
def spec_Size.f : Nat → Int → Int → Bool → List Int → List (S29) → Option (Int)
  | 0, _, _, _, _, _ => none
  | k + 1, a0_0, a0_1, a0_2, l0_3, l0_4 => spec_Size.l0 k (wrap64 (1 + (l0_3.length : Int))) l0_4 (l0_4.length : Int) 0
end
theorem spec_Size.mono_l : ∀ k, (∀ y0 y1 y2 y3 y4, LeO (spec_Size.f k y0 y1 y2 y3 y4) (spec_Size.f (k + 1) y0 y1 y2 y3 y4)) ∧ (∀ y0 y1 y2 y3, LeO (spec_Size.l0 k y0 y1 y2 y3) (spec_Size.l0 (k + 1) y0 y1 y2 y3))
  | 0 => ⟨fun _ _ _ _ _ r h => by simp [spec_Size.f] at h, fun _ _ _ _ r h => by simp [spec_Size.l0] at h⟩
  | k + 1 => by
    obtain ⟨ih0, ih1⟩ := spec_Size.mono_l k
    refine ⟨?_, ?_⟩
    · intro y0 y1 y2 y3 y4
      unfold spec_Size.f
      repeat' first
      | (with_reducible exact ih0 _ _ _ _ _)
      | (with_reducible exact ih1 _ _ _ _)
      | (with_reducible exact LeO.refl _)
      | (with_reducible exact LeO.none _)
      | (with_reducible refine LeO.ite ?_ ?_)
      | (with_reducible refine LeO.bind ?_ (fun _ => ?_))
      | exact ih0 _ _ _ _ _
      | exact ih1 _ _ _ _
      | exact LeO.none _
      | refine LeO.ite ?_ ?_
      | refine LeO.bind ?_ (fun _ => ?_)
    · intro y0 y1 y2 y3
      unfold spec_Size.l0
      repeat' first
      | (with_reducible exact ih0 _ _ _ _ _)
      | (with_reducible exact ih1 _ _ _ _)
      | (with_reducible exact LeO.refl _)
      | (with_reducible exact LeO.none _)
      | (with_reducible refine LeO.ite ?_ ?_)
      | (with_reducible refine LeO.bind ?_ (fun _ => ?_))
      | exact ih0 _ _ _ _ _
      | exact ih1 _ _ _ _
      | exact LeO.none _
      | refine LeO.ite ?_ ?_
      | refine LeO.bind ?_ (fun _ => ?_)
theorem spec_Size.mono : ∀ a0 a1 a2 a3 a4 k, LeO (spec_Size.f k a0 a1 a2 a3 a4) (spec_Size.f (k + 1) a0 a1 a2 a3 a4) := by
  intro a0 a1 a2 a3 a4 k
  obtain ⟨ih0, ih1⟩ := spec_Size.mono_l k
  exact ih0 a0 a1 a2 a3 a4
set_option maxHeartbeats 8000000 in
set_option maxRecDepth 100000 in
theorem spec_Size.calls (k : Nat) : ∀ (a0_0 : Int) (a0_1 : Int) (a0_2 : Bool) (A0_3 : Option Addr) (c0_3 : Nat) (l0_3 : List Int) (A0_4 : Option Addr) (c0_4 : Nat) (l0_4 : List (S29)) (r : Int) (w : World) (hr0_3 : Kd.C (Kd.int .u8) w A0_3 l0_3.length l0_3) (hc0_3 : l0_3.length ≤ c0_3) (hr0_4 : Kd.C k29 w A0_4 l0_4.length l0_4) (hc0_4 : l0_4.length ≤ c0_4) (h : spec_Size.f k a0_0 a0_1 a0_2 l0_3 l0_4 = some r),
    Calls Tryd.prog 17 #[.agg #[.int .i64 a0_0, .int .i64 a0_1, .bool a0_2, .slice A0_3 l0_3.length c0_3, .slice A0_4 l0_4.length c0_4]] w fun e w' => e = .returned (.int .i64 r) ∧ Below w.heap.size w w' := by
  induction k using Nat.strongRecOn with
  | _ k ih =>
  intro a0_0 a0_1 a0_2 A0_3 c0_3 l0_3 A0_4 c0_4 l0_4 r w hr0_3 hc0_3 hr0_4 hc0_4 h
  cases k with
  | zero => exact absurd h (by simp [spec_Size.f])
  | succ k =>
  simp only [spec_Size.f] at h
  have hu29 := Tryd.underlying29
  have HR0_3 := Aside0.mk hr0_3
  have HC0_3 := Aside0.mk hc0_3
  clear hr0_3 hc0_3
  have HR0_4 := Aside0.mk hr0_4
  have HC0_4 := Aside0.mk hc0_4
  clear hr0_4 hc0_4
  have HB := Aside0.mk (Below.refl w.heap.size w)
  have H : (spec_Size.l0 k (wrap64 (1 + (l0_3.length : Int))) l0_4 (l0_4.length : Int) 0) = some r := h
  clear h
  have H' := Aside0.mk H
  clear H
  go_enter Tryd.func17, Tryd.ntmps17
  go_wp2_with (first | ((with_reducible refine gate_dst (N := 1) rfl ?_); refine box_event ?hg (N := 1) ?hd (cs := #[.int .i64 a0_0, .int .i64 a0_1, .bool a0_2, .slice A0_3 l0_3.length c0_3, .slice A0_4 l0_4.length c0_4]) (t := 29) ?hr ?_; (case hd => rfl); (case hg => rfl); (case hr => first | (go_simp; done) | (go_simp; rfl)); intro gb104 hg w2 hbox hb; have n0_ := Aside0.mk (below_step (by repeat (first | (with_reducible first | exact HB.out | apply below_alloc | apply pw_below_drewN | apply below_drew1) | exact HB.out)) hb); have n1_ := Aside0.mk (hbox); have n2_ := Aside0.mk ((by rw [hg]; exact (below_size (by repeat (first | (with_reducible first | exact HB.out | apply below_alloc | apply pw_below_drewN | apply below_drew1) | exact HB.out))) : w.heap.size ≤ gb104)); have n3_ := Aside0.mk ((by rw [hg]; exact (below_size (by repeat (first | (with_reducible first | exact HB.out | apply below_alloc | apply pw_below_drewN | apply below_drew1) | exact HB.out))) : w.heap.size ≤ gb104)); clear HB; have HB := n0_; have BK104 := n1_; have GW104 := n2_; have GE104 := n3_; clear n0_ n1_ n2_ n3_; clear hb hbox hg; have hcz3_0 : w2.cell? ⟨gb104, 0, none⟩ = some (.int .i64 a0_0) := (blk_cell BK104.out 0).trans rfl; have hcz3_1 : w2.cell? ⟨gb104, 1, none⟩ = some (.int .i64 a0_1) := (blk_cell BK104.out 1).trans rfl; have hcz3_2 : w2.cell? ⟨gb104, 2, none⟩ = some (.bool a0_2) := (blk_cell BK104.out 2).trans rfl; have hcz3_3 : w2.cell? ⟨gb104, 3, none⟩ = some (.slice A0_3 l0_3.length c0_3) := (blk_cell BK104.out 3).trans rfl; have hcz3_4 : w2.cell? ⟨gb104, 4, none⟩ = some (.slice A0_4 l0_4.length c0_4) := (blk_cell BK104.out 4).trans rfl; have hfz3_0 := blk_frozen BK104.out 0; have hfz3_1 := blk_frozen BK104.out 1; have hfz3_2 := blk_frozen BK104.out 2; have hfz3_3 := blk_frozen BK104.out 3; have hfz3_4 := blk_frozen BK104.out 4))
  go_loopg [3, 13] k (fun kq v3 v13 w' => ∃ (x3_1 : Int) (x13_1 : Int), v3 = .int .i64 x3_1 ∧ v13 = .int .i64 x13_1 ∧ Aside0 (spec_Size.l0 kq x3_1 l0_4 (l0_4.length : Int) x13_1 = some r) ∧ Aside0 (kq ≤ k) ∧ Aside0 (w'.heap[gb104]? = some (.cells #[.int .i64 a0_0, .int .i64 a0_1, .bool a0_2, (.slice A0_3 l0_3.length c0_3), (.slice A0_4 l0_4.length c0_4)] 29 (0, 0))) ∧ Aside0 (Below w.heap.size w w'))
  case atStart => exact ⟨(wrap64 (1 + (l0_3.length : Int))), (0), (by first | rfl | (simp; done) | (simp [*]; done)), (by first | rfl | (simp; done) | (simp [*]; done)), H', ⟨Nat.le_refl _⟩, ⟨by (with_reducible repeat (first | refine blk_drewN ?_ _ | refine blk_drew ?_ | refine blk_alloc ?_ _)); exact BK104.out⟩, ⟨by repeat (first | (with_reducible first | exact HB.out | apply below_alloc | apply pw_below_drewN | apply below_drew1 | refine below_set ?_ GE104.out) | exact HB.out)⟩⟩
  case round =>
    clear H'
    try clear c1
    try clear p2
    try clear hcz3_0
    try clear hcz3_1
    try clear hcz3_2
    try clear hcz3_3
    try clear hcz3_4
    try clear hfz3_0
    try clear hfz3_1
    try clear hfz3_2
    try clear hfz3_3
    try clear hfz3_4
    obtain ⟨x3_1, x13_1, rfl, rfl, HA, HK1, BK104, HB⟩ := hrel
    cases gk with
    | zero => exact absurd HA.out (by simp [spec_Size.l0])
    | succ k1 =>
      have H := HA.out
      clear HA
      simp only [spec_Size.l0] at H
      by_cases c4 : x13_1 < (l0_4.length : Int)
      · rw [if_pos c4] at H
        have c4b0 : decide (x13_1 < (l0_4.length : Int)) = true := decide_eq_true c4
        clear c4
        by_cases c5 : 0 ≤ x13_1
        · rw [if_pos c5] at H
          have c5b0 : decide (0 ≤ x13_1) = true := decide_eq_true c5
          clear c5
          by_cases c6 : x13_1 < (l0_4.length : Int)
          · rw [if_pos c6] at H
            have c6b0 : decide (x13_1 < (l0_4.length : Int)) = true := decide_eq_true c6
            clear c6
            replace H := Option.bind_eq_some_iff.mp H
            obtain ⟨t107, A70, H⟩ := H
            replace H : (spec_Size.l0 k1 (wrap64 (x3_1 + t107)) l0_4 (l0_4.length : Int) (wrap64 (x13_1 + 1))) = some r := H
            have A7 := Aside0.mk A70
            clear A70
            have H' := Aside0.mk H
            clear H
            have p105 : 0 ≤ (x13_1 : Int) := of_decide_eq_true (by first | (with_reducible assumption) | assumption)
            have q105 : x13_1 < (l0_4.length : Int) := of_decide_eq_true (by first | (with_reducible assumption) | assumption)
            obtain ⟨ad105, A105_3, c105_3, A105_4, c105_4, e105, hx105_0, hx105_1, hx105_2, hx105_3, hx105_4, hl105_3, hi105_3, hl105_4, hi105_4⟩ := at_T29 HR0_4.out x13_1 p105 q105
            cases e105
            replace hx105_0 := (HB.out.cell (World.block_lt_of_cell? w _ hx105_0)).trans hx105_0
            replace hx105_1 := (HB.out.cell (World.block_lt_of_cell? w _ hx105_1)).trans hx105_1
            replace hx105_2 := (HB.out.cell (World.block_lt_of_cell? w _ hx105_2)).trans hx105_2
            replace hx105_3 := (HB.out.cell (World.block_lt_of_cell? w _ hx105_3)).trans hx105_3
            replace hx105_4 := (HB.out.cell (World.block_lt_of_cell? w _ hx105_4)).trans hx105_4
            have HR105_3 := Aside0.mk hi105_3
            have HC105_3 := Aside0.mk hl105_3
            clear hi105_3 hl105_3
            have HR105_4 := Aside0.mk hi105_4
            have HC105_4 := Aside0.mk hl105_4
            clear hi105_4 hl105_4
            replace p105 := eq_true p105
            replace q105 := eq_true q105
            go_wp2_with (first | ((with_reducible refine gate_dst (N := 5) rfl ?_); refine box_event ?hg (N := 5) ?hd (cs := #[.int .i64 0, .int .i64 0, .bool false, .slice none 0 0, .slice none 0 0]) (t := 29) ?hr ?_; (case hd => rfl); (case hg => rfl); (case hr => first | (go_simp; done) | (go_simp; rfl)); intro gb106 hg w8 hbox hb; have n0_ := Aside0.mk (blk_below (g := gb104) (o := .cells #[.int .i64 a0_0, .int .i64 a0_1, .bool a0_2, .slice A0_3 l0_3.length c0_3, .slice (some ad105) l0_4.length c0_4] 29 (0, 0)) (by (with_reducible repeat (first | refine blk_drewN ?_ _ | refine blk_drew ?_ | refine blk_alloc ?_ _)); exact BK104.out) hb); have n1_ := Aside0.mk (below_step (by repeat (first | (with_reducible first | exact HB.out | apply below_alloc | apply pw_below_drewN | apply below_drew1 | refine below_set ?_ GE104.out) | exact HB.out)) hb); have n2_ := Aside0.mk (hbox); have n3_ := Aside0.mk ((by rw [hg]; exact (below_size (by repeat (first | (with_reducible first | exact HB.out | apply below_alloc | apply pw_below_drewN | apply below_drew1 | refine below_set ?_ GE104.out) | exact HB.out))) : w.heap.size ≤ gb106)); have n4_ := Aside0.mk ((by rw [hg]; exact (below_size (by repeat (first | (with_reducible first | exact HB.out | apply below_alloc | apply pw_below_drewN | apply below_drew1 | refine below_set ?_ GE104.out) | exact HB.out))) : w.heap.size ≤ gb106)); have n5_ := Aside0.mk ((by rw [hg]; exact Nat.ne_of_lt (blk_lt (g := gb104) (o := .cells #[.int .i64 a0_0, .int .i64 a0_1, .bool a0_2, .slice A0_3 l0_3.length c0_3, .slice (some ad105) l0_4.length c0_4] 29 (0, 0)) (by (with_reducible repeat (first | refine blk_drewN ?_ _ | refine blk_drew ?_ | refine blk_alloc ?_ _)); exact BK104.out)) : gb104 ≠ gb106)); have n6_ := Aside0.mk ((by rw [hg]; exact Nat.ne_of_gt (blk_lt (g := gb104) (o := .cells #[.int .i64 a0_0, .int .i64 a0_1, .bool a0_2, .slice A0_3 l0_3.length c0_3, .slice (some ad105) l0_4.length c0_4] 29 (0, 0)) (by (with_reducible repeat (first | refine blk_drewN ?_ _ | refine blk_drew ?_ | refine blk_alloc ?_ _)); exact BK104.out)) : gb106 ≠ gb104)); clear BK104; clear HB; have BK104 := n0_; have HB := n1_; have BK106 := n2_; have GW106 := n3_; have GE106 := n4_; have NB104_106 := n5_; have NB106_104 := n6_; clear n0_ n1_ n2_ n3_ n4_ n5_ n6_; clear hb hbox hg; have hnb9 := NB106_104.out; have hnc9 := NB104_106.out; have hcz10_0 : w8.cell? ⟨gb106, 0, none⟩ = some (.int .i64 0) := (blk_cell BK106.out 0).trans rfl; have hcz10_1 : w8.cell? ⟨gb106, 1, none⟩ = some (.int .i64 0) := (blk_cell BK106.out 1).trans rfl; have hcz10_2 : w8.cell? ⟨gb106, 2, none⟩ = some (.bool false) := (blk_cell BK106.out 2).trans rfl; have hcz10_3 : w8.cell? ⟨gb106, 3, none⟩ = some (.slice none 0 0) := (blk_cell BK106.out 3).trans rfl; have hcz10_4 : w8.cell? ⟨gb106, 4, none⟩ = some (.slice none 0 0) := (blk_cell BK106.out 4).trans rfl; have hfz10_0 := blk_frozen BK106.out 0; have hfz10_1 := blk_frozen BK106.out 1; have hfz10_2 := blk_frozen BK106.out 2; have hfz10_3 := blk_frozen BK106.out 3; have hfz10_4 := blk_frozen BK106.out 4) | ((with_reducible refine gate_callee (f := 17) rfl ?_); refine goesL_ (some 19) rfl rfl Tryd.func17 (by kernel_rfl) rfl #[.agg #[.int .i64 ((rd_T29 l0_4 x13_1).f0), .int .i64 ((rd_T29 l0_4 x13_1).f1), .bool ((rd_T29 l0_4 x13_1).f2), .slice A105_3 ((rd_T29 l0_4 x13_1).f3).length c105_3, .slice A105_4 ((rd_T29 l0_4 x13_1).f4).length c105_4]] rfl (by (try simp only [List.map_toArray, List.map_cons, List.map_nil]); first | done | rfl | (simp only [List.length_drop, List.length_take]; rfl)) ?_; (with_reducible refine (ih k1 (by have := HK1.out; omega) ((rd_T29 l0_4 x13_1).f0) ((rd_T29 l0_4 x13_1).f1) ((rd_T29 l0_4 x13_1).f2) _ _ ((rd_T29 l0_4 x13_1).f3) _ _ ((rd_T29 l0_4 x13_1).f4) t107 _ ?side1 ?side2 ?side3 ?side4 A7.out).mono ?_); (case side1 => exact Kd.C_below HR105_3.out (by repeat (first | (with_reducible first | exact HB.out | apply below_alloc | apply pw_below_drewN | apply below_drew1 | refine below_set ?_ GE104.out | refine below_set ?_ GE106.out) | exact HB.out))); (case side2 => exact HC105_3.out); (case side3 => exact Kd.C_below HR105_4.out (by repeat (first | (with_reducible first | exact HB.out | apply below_alloc | apply pw_below_drewN | apply below_drew1 | refine below_set ?_ GE104.out | refine below_set ?_ GE106.out) | exact HB.out))); (case side4 => exact HC105_4.out); rintro e w11 ⟨rfl, hb⟩; refine ⟨_, rfl, ?_⟩; have n0_ := Aside0.mk (blk_below (g := gb104) (o := .cells #[.int .i64 a0_0, .int .i64 a0_1, .bool a0_2, .slice A0_3 l0_3.length c0_3, .slice (some ad105) l0_4.length c0_4] 29 (0, 0)) (by (with_reducible repeat (first | refine blk_drewN ?_ _ | refine blk_drew ?_ | refine blk_alloc ?_ _)); refine blk_far ?_ NB104_106.out _; (with_reducible repeat (first | refine blk_drewN ?_ _ | refine blk_drew ?_ | refine blk_alloc ?_ _)); refine blk_far ?_ NB104_106.out _; (with_reducible repeat (first | refine blk_drewN ?_ _ | refine blk_drew ?_ | refine blk_alloc ?_ _)); refine blk_far ?_ NB104_106.out _; (with_reducible repeat (first | refine blk_drewN ?_ _ | refine blk_drew ?_ | refine blk_alloc ?_ _)); refine blk_far ?_ NB104_106.out _; (with_reducible repeat (first | refine blk_drewN ?_ _ | refine blk_drew ?_ | refine blk_alloc ?_ _)); refine blk_far ?_ NB104_106.out _; (with_reducible repeat (first | refine blk_drewN ?_ _ | refine blk_drew ?_ | refine blk_alloc ?_ _)); exact BK104.out) hb); have n1_ := Aside0.mk (blk_below (g := gb106) (o := .cells #[.int .i64 ((rd_T29 l0_4 x13_1).f0), .int .i64 ((rd_T29 l0_4 x13_1).f1), .bool ((rd_T29 l0_4 x13_1).f2), .slice A105_3 ((rd_T29 l0_4 x13_1).f3).length c105_3, .slice A105_4 ((rd_T29 l0_4 x13_1).f4).length c105_4] 29 (0, 0)) (by (with_reducible repeat (first | refine blk_drewN ?_ _ | refine blk_drew ?_ | refine blk_alloc ?_ _)); refine blk_put (cs := #[.int .i64 ((rd_T29 l0_4 x13_1).f0), .int .i64 ((rd_T29 l0_4 x13_1).f1), .bool ((rd_T29 l0_4 x13_1).f2), .slice A105_3 ((rd_T29 l0_4 x13_1).f3).length c105_3, .slice none 0 0]) ?_ 4 _ rfl; (with_reducible repeat (first | refine blk_drewN ?_ _ | refine blk_drew ?_ | refine blk_alloc ?_ _)); refine blk_put (cs := #[.int .i64 ((rd_T29 l0_4 x13_1).f0), .int .i64 ((rd_T29 l0_4 x13_1).f1), .bool ((rd_T29 l0_4 x13_1).f2), .slice none 0 0, .slice none 0 0]) ?_ 3 _ rfl; (with_reducible repeat (first | refine blk_drewN ?_ _ | refine blk_drew ?_ | refine blk_alloc ?_ _)); refine blk_put (cs := #[.int .i64 ((rd_T29 l0_4 x13_1).f0), .int .i64 ((rd_T29 l0_4 x13_1).f1), .bool false, .slice none 0 0, .slice none 0 0]) ?_ 2 _ rfl; (with_reducible repeat (first | refine blk_drewN ?_ _ | refine blk_drew ?_ | refine blk_alloc ?_ _)); refine blk_put (cs := #[.int .i64 ((rd_T29 l0_4 x13_1).f0), .int .i64 0, .bool false, .slice none 0 0, .slice none 0 0]) ?_ 1 _ rfl; (with_reducible repeat (first | refine blk_drewN ?_ _ | refine blk_drew ?_ | refine blk_alloc ?_ _)); refine blk_put (cs := #[.int .i64 0, .int .i64 0, .bool false, .slice none 0 0, .slice none 0 0]) ?_ 0 _ rfl; (with_reducible repeat (first | refine blk_drewN ?_ _ | refine blk_drew ?_ | refine blk_alloc ?_ _)); exact BK106.out) hb); have n2_ := Aside0.mk (below_step (by repeat (first | (with_reducible first | exact HB.out | apply below_alloc | apply pw_below_drewN | apply below_drew1 | refine below_set ?_ GE104.out | refine below_set ?_ GE106.out) | exact HB.out)) hb); clear BK104; clear BK106; clear HB; have BK104 := n0_; have BK106 := n1_; have HB := n2_; clear n0_ n1_ n2_; (try clear hb); (try clear hb2); (try clear hk); (try clear hi)))
            go_roundg k1
            case measure => have := HK1.out; omega
            case rel => exact ⟨(wrap64 (x3_1 + t107)), (wrap64 (x13_1 + 1)), (by first | rfl | (simp; done) | (simp [*]; done)), (by first | rfl | (simp; done) | (simp [*]; done)), H', ⟨by have := HK1.out; omega⟩, ⟨by (with_reducible repeat (first | refine blk_drewN ?_ _ | refine blk_drew ?_ | refine blk_alloc ?_ _)); exact BK104.out⟩, ⟨by repeat (first | (with_reducible first | exact HB.out | apply below_alloc | apply pw_below_drewN | apply below_drew1 | refine below_set ?_ GE104.out | refine below_set ?_ GE106.out) | exact HB.out)⟩⟩
          · rw [if_neg c6] at H
            exact absurd H (by simp)
        · rw [if_neg c5] at H
          exact absurd H (by simp)
      · rw [if_neg c4] at H
        have c4b0 : decide (x13_1 < (l0_4.length : Int)) = false := decide_eq_false c4
        clear c4
        obtain rfl := Option.some.inj H
        go_wp2
        go_ret
        exact ⟨by first | rfl | (simp [errW_none, errW_some] <;> rfl) | (simp [*, errW_none, errW_some] <;> rfl), by repeat (first | (with_reducible first | exact HB.out | apply below_alloc | apply pw_below_drewN | apply below_drew1 | refine below_set ?_ GE104.out) | exact HB.out)⟩

/-! ### spec_Deep: function 18 -/
mutual
def spec_Deep.l0 : Nat → Int → List (S29) → Int → Int → Option (Int)
  | 0, _, _, _, _ => none
  | k + 1, x3, x7, x8, x9 => if x9 < x8 then (if 0 ≤ x9 then (if x9 < (x7.length : Int) then ((spec_Deep.f k ((rd_T29 x7 x9).f0) ((rd_T29 x7 x9).f1) ((rd_T29 x7 x9).f2) ((rd_T29 x7 x9).f3) ((rd_T29 x7 x9).f4)).bind fun t111 => (spec_Deep.l0 k (mx x3 t111) x7 x8 (wrap64 (x9 + 1)))) else (none)) else (none)) else (some (wrap64 (x3 + 1)))
def spec_Deep.f : Nat → Int → Int → Bool → List Int → List (S29) → Option (Int)
  | 0, _, _, _, _, _ => none
  | k + 1, a0_0, a0_1, a0_2, l0_3, l0_4 => spec_Deep.l0 k 0 l0_4 (l0_4.length : Int) 0
end
theorem spec_Deep.mono_l : ∀ k, (∀ y0 y1 y2 y3 y4, LeO (spec_Deep.f k y0 y1 y2 y3 y4) (spec_Deep.f (k + 1) y0 y1 y2 y3 y4)) ∧ (∀ y0 y1 y2 y3, LeO (spec_Deep.l0 k y0 y1 y2 y3) (spec_Deep.l0 (k + 1) y0 y1 y2 y3))
  | 0 => ⟨fun _ _ _ _ _ r h => by simp [spec_Deep.f] at h, fun _ _ _ _ r h => by simp [spec_Deep.l0] at h⟩
  | k + 1 => by
    obtain ⟨ih0, ih1⟩ := spec_Deep.mono_l k
    refine ⟨?_, ?_⟩
    · intro y0 y1 y2 y3 y4
      unfold spec_Deep.f
      repeat' first
      | (with_reducible exact ih0 _ _ _ _ _)
      | (with_reducible exact ih1 _ _ _ _)
      | (with_reducible exact LeO.refl _)
      | (with_reducible exact LeO.none _)
      | (with_reducible refine LeO.ite ?_ ?_)
      | (with_reducible refine LeO.bind ?_ (fun _ => ?_))
      | exact ih0 _ _ _ _ _
      | exact ih1 _ _ _ _
      | exact LeO.none _
      | refine LeO.ite ?_ ?_
      | refine LeO.bind ?_ (fun _ => ?_)
    · intro y0 y1 y2 y3
      unfold spec_Deep.l0
      repeat' first
      | (with_reducible exact ih0 _ _ _ _ _)
      | (with_reducible exact ih1 _ _ _ _)
      | (with_reducible exact LeO.refl _)
      | (with_reducible exact LeO.none _)
      | (with_reducible refine LeO.ite ?_ ?_)
      | (with_reducible refine LeO.bind ?_ (fun _ => ?_))
      | exact ih0 _ _ _ _ _
      | exact ih1 _ _ _ _
      | exact LeO.none _
      | refine LeO.ite ?_ ?_
      | refine LeO.bind ?_ (fun _ => ?_)
theorem spec_Deep.mono : ∀ a0 a1 a2 a3 a4 k, LeO (spec_Deep.f k a0 a1 a2 a3 a4) (spec_Deep.f (k + 1) a0 a1 a2 a3 a4) := by
  intro a0 a1 a2 a3 a4 k
  obtain ⟨ih0, ih1⟩ := spec_Deep.mono_l k
  exact ih0 a0 a1 a2 a3 a4
set_option maxHeartbeats 8000000 in
set_option maxRecDepth 100000 in
theorem spec_Deep.calls (k : Nat) : ∀ (a0_0 : Int) (a0_1 : Int) (a0_2 : Bool) (A0_3 : Option Addr) (c0_3 : Nat) (l0_3 : List Int) (A0_4 : Option Addr) (c0_4 : Nat) (l0_4 : List (S29)) (r : Int) (w : World) (hr0_3 : Kd.C (Kd.int .u8) w A0_3 l0_3.length l0_3) (hc0_3 : l0_3.length ≤ c0_3) (hr0_4 : Kd.C k29 w A0_4 l0_4.length l0_4) (hc0_4 : l0_4.length ≤ c0_4) (h : spec_Deep.f k a0_0 a0_1 a0_2 l0_3 l0_4 = some r),
    Calls Tryd.prog 18 #[.agg #[.int .i64 a0_0, .int .i64 a0_1, .bool a0_2, .slice A0_3 l0_3.length c0_3, .slice A0_4 l0_4.length c0_4]] w fun e w' => e = .returned (.int .i64 r) ∧ Below w.heap.size w w' := by
  induction k using Nat.strongRecOn with
  | _ k ih =>
  intro a0_0 a0_1 a0_2 A0_3 c0_3 l0_3 A0_4 c0_4 l0_4 r w hr0_3 hc0_3 hr0_4 hc0_4 h
  cases k with
  | zero => exact absurd h (by simp [spec_Deep.f])
  | succ k =>
  simp only [spec_Deep.f] at h
  have hu29 := Tryd.underlying29
  have HR0_3 := Aside0.mk hr0_3
  have HC0_3 := Aside0.mk hc0_3
  clear hr0_3 hc0_3
  have HR0_4 := Aside0.mk hr0_4
  have HC0_4 := Aside0.mk hc0_4
  clear hr0_4 hc0_4
  have HB := Aside0.mk (Below.refl w.heap.size w)
  have H : (spec_Deep.l0 k 0 l0_4 (l0_4.length : Int) 0) = some r := h
  clear h
  have H' := Aside0.mk H
  clear H
  go_enter Tryd.func18, Tryd.ntmps18
  go_wp2_with (first | ((with_reducible refine gate_dst (N := 1) rfl ?_); refine box_event ?hg (N := 1) ?hd (cs := #[.int .i64 a0_0, .int .i64 a0_1, .bool a0_2, .slice A0_3 l0_3.length c0_3, .slice A0_4 l0_4.length c0_4]) (t := 29) ?hr ?_; (case hd => rfl); (case hg => rfl); (case hr => first | (go_simp; done) | (go_simp; rfl)); intro gb108 hg w2 hbox hb; have n0_ := Aside0.mk (below_step (by repeat (first | (with_reducible first | exact HB.out | apply below_alloc | apply pw_below_drewN | apply below_drew1) | exact HB.out)) hb); have n1_ := Aside0.mk (hbox); have n2_ := Aside0.mk ((by rw [hg]; exact (below_size (by repeat (first | (with_reducible first | exact HB.out | apply below_alloc | apply pw_below_drewN | apply below_drew1) | exact HB.out))) : w.heap.size ≤ gb108)); have n3_ := Aside0.mk ((by rw [hg]; exact (below_size (by repeat (first | (with_reducible first | exact HB.out | apply below_alloc | apply pw_below_drewN | apply below_drew1) | exact HB.out))) : w.heap.size ≤ gb108)); clear HB; have HB := n0_; have BK108 := n1_; have GW108 := n2_; have GE108 := n3_; clear n0_ n1_ n2_ n3_; clear hb hbox hg; have hcz3_0 : w2.cell? ⟨gb108, 0, none⟩ = some (.int .i64 a0_0) := (blk_cell BK108.out 0).trans rfl; have hcz3_1 : w2.cell? ⟨gb108, 1, none⟩ = some (.int .i64 a0_1) := (blk_cell BK108.out 1).trans rfl; have hcz3_2 : w2.cell? ⟨gb108, 2, none⟩ = some (.bool a0_2) := (blk_cell BK108.out 2).trans rfl; have hcz3_3 : w2.cell? ⟨gb108, 3, none⟩ = some (.slice A0_3 l0_3.length c0_3) := (blk_cell BK108.out 3).trans rfl; have hcz3_4 : w2.cell? ⟨gb108, 4, none⟩ = some (.slice A0_4 l0_4.length c0_4) := (blk_cell BK108.out 4).trans rfl; have hfz3_0 := blk_frozen BK108.out 0; have hfz3_1 := blk_frozen BK108.out 1; have hfz3_2 := blk_frozen BK108.out 2; have hfz3_3 := blk_frozen BK108.out 3; have hfz3_4 := blk_frozen BK108.out 4))
  go_loopg [3, 9] k (fun kq v3 v9 w' => ∃ (x3_1 : Int) (x9_1 : Int), v3 = .int .i64 x3_1 ∧ v9 = .int .i64 x9_1 ∧ Aside0 (spec_Deep.l0 kq x3_1 l0_4 (l0_4.length : Int) x9_1 = some r) ∧ Aside0 (kq ≤ k) ∧ Aside0 (w'.heap[gb108]? = some (.cells #[.int .i64 a0_0, .int .i64 a0_1, .bool a0_2, (.slice A0_3 l0_3.length c0_3), (.slice A0_4 l0_4.length c0_4)] 29 (0, 0))) ∧ Aside0 (Below w.heap.size w w'))
  case atStart => exact ⟨(0), (0), (by first | rfl | (simp; done) | (simp [*]; done)), (by first | rfl | (simp; done) | (simp [*]; done)), H', ⟨Nat.le_refl _⟩, ⟨by (with_reducible repeat (first | refine blk_drewN ?_ _ | refine blk_drew ?_ | refine blk_alloc ?_ _)); exact BK108.out⟩, ⟨by repeat (first | (with_reducible first | exact HB.out | apply below_alloc | apply pw_below_drewN | apply below_drew1 | refine below_set ?_ GE108.out) | exact HB.out)⟩⟩
  case round =>
    clear H'
    try clear c1
    try clear p2
    try clear hcz3_0
    try clear hcz3_1
    try clear hcz3_2
    try clear hcz3_3
    try clear hcz3_4
    try clear hfz3_0
    try clear hfz3_1
    try clear hfz3_2
    try clear hfz3_3
    try clear hfz3_4
    obtain ⟨x3_1, x9_1, rfl, rfl, HA, HK1, BK108, HB⟩ := hrel
    cases gk with
    | zero => exact absurd HA.out (by simp [spec_Deep.l0])
    | succ k1 =>
      have H := HA.out
      clear HA
      simp only [spec_Deep.l0] at H
      by_cases c4 : x9_1 < (l0_4.length : Int)
      · rw [if_pos c4] at H
        have c4b0 : decide (x9_1 < (l0_4.length : Int)) = true := decide_eq_true c4
        clear c4
        by_cases c5 : 0 ≤ x9_1
        · rw [if_pos c5] at H
          have c5b0 : decide (0 ≤ x9_1) = true := decide_eq_true c5
          clear c5
          by_cases c6 : x9_1 < (l0_4.length : Int)
          · rw [if_pos c6] at H
            have c6b0 : decide (x9_1 < (l0_4.length : Int)) = true := decide_eq_true c6
            clear c6
            replace H := Option.bind_eq_some_iff.mp H
            obtain ⟨t111, A70, H⟩ := H
            replace H : (spec_Deep.l0 k1 (mx x3_1 t111) l0_4 (l0_4.length : Int) (wrap64 (x9_1 + 1))) = some r := H
            have A7 := Aside0.mk A70
            clear A70
            obtain ⟨ji8, hji8⟩ : ∃ j_ : Int, (mx x3_1 t111) = j_ := ⟨_, rfl⟩
            replace H : (spec_Deep.l0 k1 ji8 l0_4 (l0_4.length : Int) (wrap64 (x9_1 + 1))) = some r := by first | (rw [hji8] at H; exact H) | (simp only [hji8] at H ⊢; exact H)
            (try rw [hji8] at A7)
            have hji8_ : (if x3_1 < t111 then t111 else x3_1) = ji8 := hji8
            have H' := Aside0.mk H
            clear H
            have p109 : 0 ≤ (x9_1 : Int) := of_decide_eq_true (by first | (with_reducible assumption) | assumption)
            have q109 : x9_1 < (l0_4.length : Int) := of_decide_eq_true (by first | (with_reducible assumption) | assumption)
            obtain ⟨ad109, A109_3, c109_3, A109_4, c109_4, e109, hx109_0, hx109_1, hx109_2, hx109_3, hx109_4, hl109_3, hi109_3, hl109_4, hi109_4⟩ := at_T29 HR0_4.out x9_1 p109 q109
            cases e109
            replace hx109_0 := (HB.out.cell (World.block_lt_of_cell? w _ hx109_0)).trans hx109_0
            replace hx109_1 := (HB.out.cell (World.block_lt_of_cell? w _ hx109_1)).trans hx109_1
            replace hx109_2 := (HB.out.cell (World.block_lt_of_cell? w _ hx109_2)).trans hx109_2
            replace hx109_3 := (HB.out.cell (World.block_lt_of_cell? w _ hx109_3)).trans hx109_3
            replace hx109_4 := (HB.out.cell (World.block_lt_of_cell? w _ hx109_4)).trans hx109_4
            have HR109_3 := Aside0.mk hi109_3
            have HC109_3 := Aside0.mk hl109_3
            clear hi109_3 hl109_3
            have HR109_4 := Aside0.mk hi109_4
            have HC109_4 := Aside0.mk hl109_4
            clear hi109_4 hl109_4
            replace p109 := eq_true p109
            replace q109 := eq_true q109
            go_wp2_with (first | ((with_reducible refine gate_dst (N := 5) rfl ?_); refine box_event ?hg (N := 5) ?hd (cs := #[.int .i64 0, .int .i64 0, .bool false, .slice none 0 0, .slice none 0 0]) (t := 29) ?hr ?_; (case hd => rfl); (case hg => rfl); (case hr => first | (go_simp; done) | (go_simp; rfl)); intro gb110 hg w9 hbox hb; have n0_ := Aside0.mk (blk_below (g := gb108) (o := .cells #[.int .i64 a0_0, .int .i64 a0_1, .bool a0_2, .slice A0_3 l0_3.length c0_3, .slice (some ad109) l0_4.length c0_4] 29 (0, 0)) (by (with_reducible repeat (first | refine blk_drewN ?_ _ | refine blk_drew ?_ | refine blk_alloc ?_ _)); exact BK108.out) hb); have n1_ := Aside0.mk (below_step (by repeat (first | (with_reducible first | exact HB.out | apply below_alloc | apply pw_below_drewN | apply below_drew1 | refine below_set ?_ GE108.out) | exact HB.out)) hb); have n2_ := Aside0.mk (hbox); have n3_ := Aside0.mk ((by rw [hg]; exact (below_size (by repeat (first | (with_reducible first | exact HB.out | apply below_alloc | apply pw_below_drewN | apply below_drew1 | refine below_set ?_ GE108.out) | exact HB.out))) : w.heap.size ≤ gb110)); have n4_ := Aside0.mk ((by rw [hg]; exact (below_size (by repeat (first | (with_reducible first | exact HB.out | apply below_alloc | apply pw_below_drewN | apply below_drew1 | refine below_set ?_ GE108.out) | exact HB.out))) : w.heap.size ≤ gb110)); have n5_ := Aside0.mk ((by rw [hg]; exact Nat.ne_of_lt (blk_lt (g := gb108) (o := .cells #[.int .i64 a0_0, .int .i64 a0_1, .bool a0_2, .slice A0_3 l0_3.length c0_3, .slice (some ad109) l0_4.length c0_4] 29 (0, 0)) (by (with_reducible repeat (first | refine blk_drewN ?_ _ | refine blk_drew ?_ | refine blk_alloc ?_ _)); exact BK108.out)) : gb108 ≠ gb110)); have n6_ := Aside0.mk ((by rw [hg]; exact Nat.ne_of_gt (blk_lt (g := gb108) (o := .cells #[.int .i64 a0_0, .int .i64 a0_1, .bool a0_2, .slice A0_3 l0_3.length c0_3, .slice (some ad109) l0_4.length c0_4] 29 (0, 0)) (by (with_reducible repeat (first | refine blk_drewN ?_ _ | refine blk_drew ?_ | refine blk_alloc ?_ _)); exact BK108.out)) : gb110 ≠ gb108)); clear BK108; clear HB; have BK108 := n0_; have HB := n1_; have BK110 := n2_; have GW110 := n3_; have GE110 := n4_; have NB108_110 := n5_; have NB110_108 := n6_; clear n0_ n1_ n2_ n3_ n4_ n5_ n6_; clear hb hbox hg; have hnb10 := NB110_108.out; have hnc10 := NB108_110.out; have hcz11_0 : w9.cell? ⟨gb110, 0, none⟩ = some (.int .i64 0) := (blk_cell BK110.out 0).trans rfl; have hcz11_1 : w9.cell? ⟨gb110, 1, none⟩ = some (.int .i64 0) := (blk_cell BK110.out 1).trans rfl; have hcz11_2 : w9.cell? ⟨gb110, 2, none⟩ = some (.bool false) := (blk_cell BK110.out 2).trans rfl; have hcz11_3 : w9.cell? ⟨gb110, 3, none⟩ = some (.slice none 0 0) := (blk_cell BK110.out 3).trans rfl; have hcz11_4 : w9.cell? ⟨gb110, 4, none⟩ = some (.slice none 0 0) := (blk_cell BK110.out 4).trans rfl; have hfz11_0 := blk_frozen BK110.out 0; have hfz11_1 := blk_frozen BK110.out 1; have hfz11_2 := blk_frozen BK110.out 2; have hfz11_3 := blk_frozen BK110.out 3; have hfz11_4 := blk_frozen BK110.out 4) | ((with_reducible refine gate_callee (f := 18) rfl ?_); refine goesL_ (some 15) rfl rfl Tryd.func18 (by kernel_rfl) rfl #[.agg #[.int .i64 ((rd_T29 l0_4 x9_1).f0), .int .i64 ((rd_T29 l0_4 x9_1).f1), .bool ((rd_T29 l0_4 x9_1).f2), .slice A109_3 ((rd_T29 l0_4 x9_1).f3).length c109_3, .slice A109_4 ((rd_T29 l0_4 x9_1).f4).length c109_4]] rfl (by (try simp only [List.map_toArray, List.map_cons, List.map_nil]); first | done | rfl | (simp only [List.length_drop, List.length_take]; rfl)) ?_; (with_reducible refine (ih k1 (by have := HK1.out; omega) ((rd_T29 l0_4 x9_1).f0) ((rd_T29 l0_4 x9_1).f1) ((rd_T29 l0_4 x9_1).f2) _ _ ((rd_T29 l0_4 x9_1).f3) _ _ ((rd_T29 l0_4 x9_1).f4) t111 _ ?side1 ?side2 ?side3 ?side4 A7.out).mono ?_); (case side1 => exact Kd.C_below HR109_3.out (by repeat (first | (with_reducible first | exact HB.out | apply below_alloc | apply pw_below_drewN | apply below_drew1 | refine below_set ?_ GE108.out | refine below_set ?_ GE110.out) | exact HB.out))); (case side2 => exact HC109_3.out); (case side3 => exact Kd.C_below HR109_4.out (by repeat (first | (with_reducible first | exact HB.out | apply below_alloc | apply pw_below_drewN | apply below_drew1 | refine below_set ?_ GE108.out | refine below_set ?_ GE110.out) | exact HB.out))); (case side4 => exact HC109_4.out); rintro e w12 ⟨rfl, hb⟩; refine ⟨_, rfl, ?_⟩; have n0_ := Aside0.mk (blk_below (g := gb108) (o := .cells #[.int .i64 a0_0, .int .i64 a0_1, .bool a0_2, .slice A0_3 l0_3.length c0_3, .slice (some ad109) l0_4.length c0_4] 29 (0, 0)) (by (with_reducible repeat (first | refine blk_drewN ?_ _ | refine blk_drew ?_ | refine blk_alloc ?_ _)); refine blk_far ?_ NB108_110.out _; (with_reducible repeat (first | refine blk_drewN ?_ _ | refine blk_drew ?_ | refine blk_alloc ?_ _)); refine blk_far ?_ NB108_110.out _; (with_reducible repeat (first | refine blk_drewN ?_ _ | refine blk_drew ?_ | refine blk_alloc ?_ _)); refine blk_far ?_ NB108_110.out _; (with_reducible repeat (first | refine blk_drewN ?_ _ | refine blk_drew ?_ | refine blk_alloc ?_ _)); refine blk_far ?_ NB108_110.out _; (with_reducible repeat (first | refine blk_drewN ?_ _ | refine blk_drew ?_ | refine blk_alloc ?_ _)); refine blk_far ?_ NB108_110.out _; (with_reducible repeat (first | refine blk_drewN ?_ _ | refine blk_drew ?_ | refine blk_alloc ?_ _)); exact BK108.out) hb); have n1_ := Aside0.mk (blk_below (g := gb110) (o := .cells #[.int .i64 ((rd_T29 l0_4 x9_1).f0), .int .i64 ((rd_T29 l0_4 x9_1).f1), .bool ((rd_T29 l0_4 x9_1).f2), .slice A109_3 ((rd_T29 l0_4 x9_1).f3).length c109_3, .slice A109_4 ((rd_T29 l0_4 x9_1).f4).length c109_4] 29 (0, 0)) (by (with_reducible repeat (first | refine blk_drewN ?_ _ | refine blk_drew ?_ | refine blk_alloc ?_ _)); refine blk_put (cs := #[.int .i64 ((rd_T29 l0_4 x9_1).f0), .int .i64 ((rd_T29 l0_4 x9_1).f1), .bool ((rd_T29 l0_4 x9_1).f2), .slice A109_3 ((rd_T29 l0_4 x9_1).f3).length c109_3, .slice none 0 0]) ?_ 4 _ rfl; (with_reducible repeat (first | refine blk_drewN ?_ _ | refine blk_drew ?_ | refine blk_alloc ?_ _)); refine blk_put (cs := #[.int .i64 ((rd_T29 l0_4 x9_1).f0), .int .i64 ((rd_T29 l0_4 x9_1).f1), .bool ((rd_T29 l0_4 x9_1).f2), .slice none 0 0, .slice none 0 0]) ?_ 3 _ rfl; (with_reducible repeat (first | refine blk_drewN ?_ _ | refine blk_drew ?_ | refine blk_alloc ?_ _)); refine blk_put (cs := #[.int .i64 ((rd_T29 l0_4 x9_1).f0), .int .i64 ((rd_T29 l0_4 x9_1).f1), .bool false, .slice none 0 0, .slice none 0 0]) ?_ 2 _ rfl; (with_reducible repeat (first | refine blk_drewN ?_ _ | refine blk_drew ?_ | refine blk_alloc ?_ _)); refine blk_put (cs := #[.int .i64 ((rd_T29 l0_4 x9_1).f0), .int .i64 0, .bool false, .slice none 0 0, .slice none 0 0]) ?_ 1 _ rfl; (with_reducible repeat (first | refine blk_drewN ?_ _ | refine blk_drew ?_ | refine blk_alloc ?_ _)); refine blk_put (cs := #[.int .i64 0, .int .i64 0, .bool false, .slice none 0 0, .slice none 0 0]) ?_ 0 _ rfl; (with_reducible repeat (first | refine blk_drewN ?_ _ | refine blk_drew ?_ | refine blk_alloc ?_ _)); exact BK110.out) hb); have n2_ := Aside0.mk (below_step (by repeat (first | (with_reducible first | exact HB.out | apply below_alloc | apply pw_below_drewN | apply below_drew1 | refine below_set ?_ GE108.out | refine below_set ?_ GE110.out) | exact HB.out)) hb); clear BK108; clear BK110; clear HB; have BK108 := n0_; have BK110 := n1_; have HB := n2_; clear n0_ n1_ n2_; (try clear hb); (try clear hb2); (try clear hk); (try clear hi)))
            go_roundg k1
            case measure => have := HK1.out; omega
            case rel => exact ⟨(ji8), (wrap64 (x9_1 + 1)), (by first | rfl | (simp; done) | (simp only [← hji8] <;> (first | rfl | simp)) | (simp [*]; done)), (by first | rfl | (simp; done) | (simp [*]; done)), H', ⟨by have := HK1.out; omega⟩, ⟨by (with_reducible repeat (first | refine blk_drewN ?_ _ | refine blk_drew ?_ | refine blk_alloc ?_ _)); exact BK108.out⟩, ⟨by repeat (first | (with_reducible first | exact HB.out | apply below_alloc | apply pw_below_drewN | apply below_drew1 | refine below_set ?_ GE108.out | refine below_set ?_ GE110.out) | exact HB.out)⟩⟩
          · rw [if_neg c6] at H
            exact absurd H (by simp)
        · rw [if_neg c5] at H
          exact absurd H (by simp)
      · rw [if_neg c4] at H
        have c4b0 : decide (x9_1 < (l0_4.length : Int)) = false := decide_eq_false c4
        clear c4
        obtain rfl := Option.some.inj H
        go_wp2
        go_ret
        exact ⟨by first | rfl | (simp [errW_none, errW_some] <;> rfl) | (simp [*, errW_none, errW_some] <;> rfl), by repeat (first | (with_reducible first | exact HB.out | apply below_alloc | apply pw_below_drewN | apply below_drew1 | refine below_set ?_ GE108.out) | exact HB.out)⟩

end Go.Proofs.YtejbpbdlolehnaaDoor.PFnEncode
namespace Go.Proofs.YtejbpbdlolehnaaDoor.PFnEncode
open Go.RowKit Go.Proofs.YtejbpbdlolehnaaDoorW.PrintWords Go.Proofs.YtejbpbdlolehnaaDoorW.PrintLast Go.Proofs.YtejbpbdlolehnaaDoorW.PrintMore
attribute [local go_sem] max2_int min2_int max_two min_two max_three min_three max_four min_four   -- for this text's walks alone
set_option linter.unusedVariables false
set_option linter.unusedSimpArgs false

/-! ### spec_Proper: function 19 -/
mutual
def spec_Proper.j0 : Nat → Bool → Int → Int → Bool → List Int → List (S29) → Option (Bool)
  | 0, _, _, _, _, _, _ => none
  | k + 1, x43, x113000, x113001, x113002, x113003, x113004 => if x43 = true then (some false) else (spec_Proper.l0 k x113004 (x113004.length : Int) 0)
def spec_Proper.l0 : Nat → List (S29) → Int → Int → Option (Bool)
  | 0, _, _, _ => none
  | k + 1, x45, x46, x47 => if x47 < x46 then (if 0 ≤ x47 then (if x47 < (x45.length : Int) then ((spec_Proper.f k ((rd_T29 x45 x47).f0) ((rd_T29 x45 x47).f1) ((rd_T29 x45 x47).f2) ((rd_T29 x45 x47).f3) ((rd_T29 x45 x47).f4)).bind fun t115 => (if t115 = true then (spec_Proper.l0 k x45 x46 (wrap64 (x47 + 1))) else (some false))) else (none)) else (none)) else (some true)
def spec_Proper.f : Nat → Int → Int → Bool → List Int → List (S29) → Option (Bool)
  | 0, _, _, _, _, _ => none
  | k + 1, a0_0, a0_1, a0_2, l0_3, l0_4 => if a0_0 < 0 then (spec_Proper.j0 k true a0_0 a0_1 a0_2 l0_3 l0_4) else (if a0_0 > 3 then (spec_Proper.j0 k true a0_0 a0_1 a0_2 l0_3 l0_4) else (if a0_1 < 0 then (spec_Proper.j0 k true a0_0 a0_1 a0_2 l0_3 l0_4) else (if a0_1 ≥ 268435456 then (spec_Proper.j0 k true a0_0 a0_1 a0_2 l0_3 l0_4) else (if a0_2 = true then (if (l0_3.length : Int) > 0 then (spec_Proper.j0 k true a0_0 a0_1 a0_2 l0_3 l0_4) else (spec_Proper.j0 k false a0_0 a0_1 a0_2 l0_3 l0_4)) else (spec_Proper.j0 k (decide ((l0_4.length : Int) > 0)) a0_0 a0_1 a0_2 l0_3 l0_4)))))
end
theorem spec_Proper.mono_l : ∀ k, (∀ y0 y1 y2 y3 y4, LeO (spec_Proper.f k y0 y1 y2 y3 y4) (spec_Proper.f (k + 1) y0 y1 y2 y3 y4)) ∧ (∀ y0 y1 y2 y3 y4 y5, LeO (spec_Proper.j0 k y0 y1 y2 y3 y4 y5) (spec_Proper.j0 (k + 1) y0 y1 y2 y3 y4 y5)) ∧ (∀ y0 y1 y2, LeO (spec_Proper.l0 k y0 y1 y2) (spec_Proper.l0 (k + 1) y0 y1 y2))
  | 0 => ⟨fun _ _ _ _ _ r h => by simp [spec_Proper.f] at h, fun _ _ _ _ _ _ r h => by simp [spec_Proper.j0] at h, fun _ _ _ r h => by simp [spec_Proper.l0] at h⟩
  | k + 1 => by
    obtain ⟨ih0, ih1, ih2⟩ := spec_Proper.mono_l k
    refine ⟨?_, ?_, ?_⟩
    · intro y0 y1 y2 y3 y4
      unfold spec_Proper.f
      repeat' first
      | (with_reducible exact ih0 _ _ _ _ _)
      | (with_reducible exact ih1 _ _ _ _ _ _)
      | (with_reducible exact ih2 _ _ _)
      | (with_reducible exact LeO.refl _)
      | (with_reducible exact LeO.none _)
      | (with_reducible refine LeO.ite ?_ ?_)
      | (with_reducible refine LeO.bind ?_ (fun _ => ?_))
      | exact ih0 _ _ _ _ _
      | exact ih1 _ _ _ _ _ _
      | exact ih2 _ _ _
      | exact LeO.none _
      | refine LeO.ite ?_ ?_
      | refine LeO.bind ?_ (fun _ => ?_)
    · intro y0 y1 y2 y3 y4 y5
      unfold spec_Proper.j0
      repeat' first
      | (with_reducible exact ih0 _ _ _ _ _)
      | (with_reducible exact ih1 _ _ _ _ _ _)
      | (with_reducible exact ih2 _ _ _)
      | (with_reducible exact LeO.refl _)
      | (with_reducible exact LeO.none _)
      | (with_reducible refine LeO.ite ?_ ?_)
      | (with_reducible refine LeO.bind ?_ (fun _ => ?_))
      | exact ih0 _ _ _ _ _
      | exact ih1 _ _ _ _ _ _
      | exact ih2 _ _ _
      | exact LeO.none _
      | refine LeO.ite ?_ ?_
      | refine LeO.bind ?_ (fun _ => ?_)
    · intro y0 y1 y2
      unfold spec_Proper.l0
      repeat' first
      | (with_reducible exact ih0 _ _ _ _ _)
      | (with_reducible exact ih1 _ _ _ _ _ _)
      | (with_reducible exact ih2 _ _ _)
      | (with_reducible exact LeO.refl _)
      | (with_reducible exact LeO.none _)
      | (with_reducible refine LeO.ite ?_ ?_)
      | (with_reducible refine LeO.bind ?_ (fun _ => ?_))
      | exact ih0 _ _ _ _ _
      | exact ih1 _ _ _ _ _ _
      | exact ih2 _ _ _
      | exact LeO.none _
      | refine LeO.ite ?_ ?_
      | refine LeO.bind ?_ (fun _ => ?_)
theorem spec_Proper.mono : ∀ a0 a1 a2 a3 a4 k, LeO (spec_Proper.f k a0 a1 a2 a3 a4) (spec_Proper.f (k + 1) a0 a1 a2 a3 a4) := by
  intro a0 a1 a2 a3 a4 k
  obtain ⟨ih0, ih1, ih2⟩ := spec_Proper.mono_l k
  exact ih0 a0 a1 a2 a3 a4
set_option maxHeartbeats 8000000 in
set_option maxRecDepth 100000 in
theorem spec_Proper.calls (k : Nat) : ∀ (a0_0 : Int) (a0_1 : Int) (a0_2 : Bool) (A0_3 : Option Addr) (c0_3 : Nat) (l0_3 : List Int) (A0_4 : Option Addr) (c0_4 : Nat) (l0_4 : List (S29)) (r : Bool) (w : World) (hr0_3 : Kd.C (Kd.int .u8) w A0_3 l0_3.length l0_3) (hc0_3 : l0_3.length ≤ c0_3) (hr0_4 : Kd.C k29 w A0_4 l0_4.length l0_4) (hc0_4 : l0_4.length ≤ c0_4) (h : spec_Proper.f k a0_0 a0_1 a0_2 l0_3 l0_4 = some r),
    Calls Tryd.prog 19 #[.agg #[.int .i64 a0_0, .int .i64 a0_1, .bool a0_2, .slice A0_3 l0_3.length c0_3, .slice A0_4 l0_4.length c0_4]] w fun e w' => e = .returned (.bool r) ∧ Below w.heap.size w w' := by
  induction k using Nat.strongRecOn with
  | _ k ih =>
  intro a0_0 a0_1 a0_2 A0_3 c0_3 l0_3 A0_4 c0_4 l0_4 r w hr0_3 hc0_3 hr0_4 hc0_4 h
  cases k with
  | zero => exact absurd h (by simp [spec_Proper.f])
  | succ k =>
  simp only [spec_Proper.f] at h
  have hu29 := Tryd.underlying29
  have HR0_3 := Aside0.mk hr0_3
  have HC0_3 := Aside0.mk hc0_3
  clear hr0_3 hc0_3
  have HR0_4 := Aside0.mk hr0_4
  have HC0_4 := Aside0.mk hc0_4
  clear hr0_4 hc0_4
  have HB := Aside0.mk (Below.refl w.heap.size w)
  have H : (if a0_0 < 0 then (spec_Proper.j0 k true a0_0 a0_1 a0_2 l0_3 l0_4) else (if a0_0 > 3 then (spec_Proper.j0 k true a0_0 a0_1 a0_2 l0_3 l0_4) else (if a0_1 < 0 then (spec_Proper.j0 k true a0_0 a0_1 a0_2 l0_3 l0_4) else (if a0_1 ≥ 268435456 then (spec_Proper.j0 k true a0_0 a0_1 a0_2 l0_3 l0_4) else (if a0_2 = true then (if (l0_3.length : Int) > 0 then (spec_Proper.j0 k true a0_0 a0_1 a0_2 l0_3 l0_4) else (spec_Proper.j0 k false a0_0 a0_1 a0_2 l0_3 l0_4)) else (spec_Proper.j0 k (decide ((l0_4.length : Int) > 0)) a0_0 a0_1 a0_2 l0_3 l0_4)))))) = some r := h
  clear h
  have HC2 := Aside0.mk H
  clear H
  go_enter Tryd.func19, Tryd.ntmps19
  go_upto_region 1 with (first | ((with_reducible refine gate_dst (N := 1) rfl ?_); (try (refine gate_guard (by rfl) ?_; dsimp only)); refine box_event ?hg (N := 1) ?hd (cs := #[.int .i64 a0_0, .int .i64 a0_1, .bool a0_2, .slice A0_3 l0_3.length c0_3, .slice A0_4 l0_4.length c0_4]) (t := 29) ?hr ?_; (case hd => rfl); (case hg => rfl); (case hr => first | (go_simp; done) | (go_simp; rfl)); intro gb112 hg w3 hbox hb; have n0_ := Aside0.mk (below_step (by repeat (first | (with_reducible first | exact HB.out | apply below_alloc | apply pw_below_drewN | apply below_drew1) | exact HB.out)) hb); have n1_ := Aside0.mk (hbox); have n2_ := Aside0.mk ((by rw [hg]; exact (below_size (by repeat (first | (with_reducible first | exact HB.out | apply below_alloc | apply pw_below_drewN | apply below_drew1) | exact HB.out))) : w.heap.size ≤ gb112)); have n3_ := Aside0.mk ((by rw [hg]; exact (below_size (by repeat (first | (with_reducible first | exact HB.out | apply below_alloc | apply pw_below_drewN | apply below_drew1) | exact HB.out))) : w.heap.size ≤ gb112)); clear HB; have HB := n0_; have BK112 := n1_; have GW112 := n2_; have GE112 := n3_; clear n0_ n1_ n2_ n3_; clear hb hbox hg))
  (try simp only [Act.put, List.setIfInBounds_toArray, List.set_cons_zero, List.set_cons_succ])
  go_cut [43] (fun v43 wc => ∃ (kq : Nat) (x43_1 : Bool), v43 = .bool x43_1 ∧ Aside0 (spec_Proper.j0 kq x43_1 a0_0 a0_1 a0_2 l0_3 l0_4 = some r) ∧ Aside0 (kq ≤ k) ∧ Aside0 (wc.heap[gb112]? = some (.cells #[.int .i64 a0_0, .int .i64 a0_1, .bool a0_2, (.slice A0_3 l0_3.length c0_3), (.slice A0_4 l0_4.length c0_4)] 29 (0, 0))) ∧ Aside0 (Below w.heap.size w wc))
  case first =>
    have H := HC2.out
    clear HC2
    by_cases c4 : a0_0 < 0
    · rw [if_pos c4] at H
      have c4b0 : decide (a0_0 < 0) = true := decide_eq_true c4
      clear c4
      (first | rw [c4b0] | (simp only [i64_w, i32_w]; rw [c4b0]) | skip)
      have H' := Aside0.mk H
      clear H
      have hcz5_0 : w3.cell? ⟨gb112, 0, none⟩ = some (.int .i64 a0_0) := (blk_cell BK112.out 0).trans rfl
      have hcz5_1 : w3.cell? ⟨gb112, 1, none⟩ = some (.int .i64 a0_1) := (blk_cell BK112.out 1).trans rfl
      have hcz5_2 : w3.cell? ⟨gb112, 2, none⟩ = some (.bool a0_2) := (blk_cell BK112.out 2).trans rfl
      have hcz5_3 : w3.cell? ⟨gb112, 3, none⟩ = some (.slice A0_3 l0_3.length c0_3) := (blk_cell BK112.out 3).trans rfl
      have hcz5_4 : w3.cell? ⟨gb112, 4, none⟩ = some (.slice A0_4 l0_4.length c0_4) := (blk_cell BK112.out 4).trans rfl
      have hfz5_0 := blk_frozen BK112.out 0
      have hfz5_1 := blk_frozen BK112.out 1
      have hfz5_2 := blk_frozen BK112.out 2
      have hfz5_3 := blk_frozen BK112.out 3
      have hfz5_4 := blk_frozen BK112.out 4
      go_wp2
      go_meet
      case rel => exact ⟨_, (true), (by first | rfl | (simp; done) | (simp [*]; done)), H', ⟨by first | omega | exact Nat.le_refl _⟩, ⟨by (with_reducible repeat (first | refine blk_drewN ?_ _ | refine blk_drew ?_ | refine blk_alloc ?_ _)); exact BK112.out⟩, ⟨by repeat (first | (with_reducible first | exact HB.out | apply below_alloc | apply pw_below_drewN | apply below_drew1 | refine below_set ?_ GE112.out) | exact HB.out)⟩⟩
    · rw [if_neg c4] at H
      have c4b0 : decide (a0_0 < 0) = false := decide_eq_false c4
      clear c4
      (first | rw [c4b0] | (simp only [i64_w, i32_w]; rw [c4b0]) | skip)
      by_cases c6 : a0_0 > 3
      · rw [if_pos c6] at H
        have c6b0 : decide (3 < a0_0) = true := decide_eq_true c6
        clear c6
        have H' := Aside0.mk H
        clear H
        have hcz7_0 : w3.cell? ⟨gb112, 0, none⟩ = some (.int .i64 a0_0) := (blk_cell BK112.out 0).trans rfl
        have hcz7_1 : w3.cell? ⟨gb112, 1, none⟩ = some (.int .i64 a0_1) := (blk_cell BK112.out 1).trans rfl
        have hcz7_2 : w3.cell? ⟨gb112, 2, none⟩ = some (.bool a0_2) := (blk_cell BK112.out 2).trans rfl
        have hcz7_3 : w3.cell? ⟨gb112, 3, none⟩ = some (.slice A0_3 l0_3.length c0_3) := (blk_cell BK112.out 3).trans rfl
        have hcz7_4 : w3.cell? ⟨gb112, 4, none⟩ = some (.slice A0_4 l0_4.length c0_4) := (blk_cell BK112.out 4).trans rfl
        have hfz7_0 := blk_frozen BK112.out 0
        have hfz7_1 := blk_frozen BK112.out 1
        have hfz7_2 := blk_frozen BK112.out 2
        have hfz7_3 := blk_frozen BK112.out 3
        have hfz7_4 := blk_frozen BK112.out 4
        go_wp2
        go_meet
        case rel => exact ⟨_, (true), (by first | rfl | (simp; done) | (simp [*]; done)), H', ⟨by first | omega | exact Nat.le_refl _⟩, ⟨by (with_reducible repeat (first | refine blk_drewN ?_ _ | refine blk_drew ?_ | refine blk_alloc ?_ _)); exact BK112.out⟩, ⟨by repeat (first | (with_reducible first | exact HB.out | apply below_alloc | apply pw_below_drewN | apply below_drew1 | refine below_set ?_ GE112.out) | exact HB.out)⟩⟩
      · rw [if_neg c6] at H
        have c6b0 : decide (3 < a0_0) = false := decide_eq_false c6
        clear c6
        by_cases c8 : a0_1 < 0
        · rw [if_pos c8] at H
          have c8b0 : decide (a0_1 < 0) = true := decide_eq_true c8
          clear c8
          have H' := Aside0.mk H
          clear H
          have hcz9_0 : w3.cell? ⟨gb112, 0, none⟩ = some (.int .i64 a0_0) := (blk_cell BK112.out 0).trans rfl
          have hcz9_1 : w3.cell? ⟨gb112, 1, none⟩ = some (.int .i64 a0_1) := (blk_cell BK112.out 1).trans rfl
          have hcz9_2 : w3.cell? ⟨gb112, 2, none⟩ = some (.bool a0_2) := (blk_cell BK112.out 2).trans rfl
          have hcz9_3 : w3.cell? ⟨gb112, 3, none⟩ = some (.slice A0_3 l0_3.length c0_3) := (blk_cell BK112.out 3).trans rfl
          have hcz9_4 : w3.cell? ⟨gb112, 4, none⟩ = some (.slice A0_4 l0_4.length c0_4) := (blk_cell BK112.out 4).trans rfl
          have hfz9_0 := blk_frozen BK112.out 0
          have hfz9_1 := blk_frozen BK112.out 1
          have hfz9_2 := blk_frozen BK112.out 2
          have hfz9_3 := blk_frozen BK112.out 3
          have hfz9_4 := blk_frozen BK112.out 4
          go_wp2
          go_meet
          case rel => exact ⟨_, (true), (by first | rfl | (simp; done) | (simp [*]; done)), H', ⟨by first | omega | exact Nat.le_refl _⟩, ⟨by (with_reducible repeat (first | refine blk_drewN ?_ _ | refine blk_drew ?_ | refine blk_alloc ?_ _)); exact BK112.out⟩, ⟨by repeat (first | (with_reducible first | exact HB.out | apply below_alloc | apply pw_below_drewN | apply below_drew1 | refine below_set ?_ GE112.out) | exact HB.out)⟩⟩
        · rw [if_neg c8] at H
          have c8b0 : decide (a0_1 < 0) = false := decide_eq_false c8
          clear c8
          by_cases c10 : a0_1 ≥ 268435456
          · rw [if_pos c10] at H
            have c10b0 : decide (268435456 ≤ a0_1) = true := decide_eq_true c10
            clear c10
            have H' := Aside0.mk H
            clear H
            have hcz11_0 : w3.cell? ⟨gb112, 0, none⟩ = some (.int .i64 a0_0) := (blk_cell BK112.out 0).trans rfl
            have hcz11_1 : w3.cell? ⟨gb112, 1, none⟩ = some (.int .i64 a0_1) := (blk_cell BK112.out 1).trans rfl
            have hcz11_2 : w3.cell? ⟨gb112, 2, none⟩ = some (.bool a0_2) := (blk_cell BK112.out 2).trans rfl
            have hcz11_3 : w3.cell? ⟨gb112, 3, none⟩ = some (.slice A0_3 l0_3.length c0_3) := (blk_cell BK112.out 3).trans rfl
            have hcz11_4 : w3.cell? ⟨gb112, 4, none⟩ = some (.slice A0_4 l0_4.length c0_4) := (blk_cell BK112.out 4).trans rfl
            have hfz11_0 := blk_frozen BK112.out 0
            have hfz11_1 := blk_frozen BK112.out 1
            have hfz11_2 := blk_frozen BK112.out 2
            have hfz11_3 := blk_frozen BK112.out 3
            have hfz11_4 := blk_frozen BK112.out 4
            go_wp2
            go_meet
            case rel => exact ⟨_, (true), (by first | rfl | (simp; done) | (simp [*]; done)), H', ⟨by first | omega | exact Nat.le_refl _⟩, ⟨by (with_reducible repeat (first | refine blk_drewN ?_ _ | refine blk_drew ?_ | refine blk_alloc ?_ _)); exact BK112.out⟩, ⟨by repeat (first | (with_reducible first | exact HB.out | apply below_alloc | apply pw_below_drewN | apply below_drew1 | refine below_set ?_ GE112.out) | exact HB.out)⟩⟩
          · rw [if_neg c10] at H
            have c10b0 : decide (268435456 ≤ a0_1) = false := decide_eq_false c10
            clear c10
            by_cases c12 : a0_2 = true
            · subst c12
              have H1 : (if (l0_3.length : Int) > 0 then (spec_Proper.j0 k true a0_0 a0_1 true l0_3 l0_4) else (spec_Proper.j0 k false a0_0 a0_1 true l0_3 l0_4)) = some r := by rw [if_pos rfl] at H; exact H
              clear H
              have H := H1
              clear H1
              by_cases c13 : (l0_3.length : Int) > 0
              · rw [if_pos c13] at H
                have c13b0 : decide (0 < (l0_3.length : Int)) = true := decide_eq_true c13
                have c13b1 : decide (0 < l0_3.length) = true := decide_eq_true (by omega)
                clear c13
                have H' := Aside0.mk H
                clear H
                have hcz14_0 : w3.cell? ⟨gb112, 0, none⟩ = some (.int .i64 a0_0) := (blk_cell BK112.out 0).trans rfl
                have hcz14_1 : w3.cell? ⟨gb112, 1, none⟩ = some (.int .i64 a0_1) := (blk_cell BK112.out 1).trans rfl
                have hcz14_2 : w3.cell? ⟨gb112, 2, none⟩ = some (.bool true) := (blk_cell BK112.out 2).trans rfl
                have hcz14_3 : w3.cell? ⟨gb112, 3, none⟩ = some (.slice A0_3 l0_3.length c0_3) := (blk_cell BK112.out 3).trans rfl
                have hcz14_4 : w3.cell? ⟨gb112, 4, none⟩ = some (.slice A0_4 l0_4.length c0_4) := (blk_cell BK112.out 4).trans rfl
                have hfz14_0 := blk_frozen BK112.out 0
                have hfz14_1 := blk_frozen BK112.out 1
                have hfz14_2 := blk_frozen BK112.out 2
                have hfz14_3 := blk_frozen BK112.out 3
                have hfz14_4 := blk_frozen BK112.out 4
                go_wp2
                go_meet
                case rel => exact ⟨_, (true), (by first | rfl | (simp; done) | (simp [*]; done)), H', ⟨by first | omega | exact Nat.le_refl _⟩, ⟨by (with_reducible repeat (first | refine blk_drewN ?_ _ | refine blk_drew ?_ | refine blk_alloc ?_ _)); exact BK112.out⟩, ⟨by repeat (first | (with_reducible first | exact HB.out | apply below_alloc | apply pw_below_drewN | apply below_drew1 | refine below_set ?_ GE112.out) | exact HB.out)⟩⟩
              · rw [if_neg c13] at H
                have c13b0 : decide (0 < (l0_3.length : Int)) = false := decide_eq_false c13
                have c13b1 : decide (0 < l0_3.length) = false := decide_eq_false (by omega)
                clear c13
                have H' := Aside0.mk H
                clear H
                have hcz15_0 : w3.cell? ⟨gb112, 0, none⟩ = some (.int .i64 a0_0) := (blk_cell BK112.out 0).trans rfl
                have hcz15_1 : w3.cell? ⟨gb112, 1, none⟩ = some (.int .i64 a0_1) := (blk_cell BK112.out 1).trans rfl
                have hcz15_2 : w3.cell? ⟨gb112, 2, none⟩ = some (.bool true) := (blk_cell BK112.out 2).trans rfl
                have hcz15_3 : w3.cell? ⟨gb112, 3, none⟩ = some (.slice A0_3 l0_3.length c0_3) := (blk_cell BK112.out 3).trans rfl
                have hcz15_4 : w3.cell? ⟨gb112, 4, none⟩ = some (.slice A0_4 l0_4.length c0_4) := (blk_cell BK112.out 4).trans rfl
                have hfz15_0 := blk_frozen BK112.out 0
                have hfz15_1 := blk_frozen BK112.out 1
                have hfz15_2 := blk_frozen BK112.out 2
                have hfz15_3 := blk_frozen BK112.out 3
                have hfz15_4 := blk_frozen BK112.out 4
                go_wp2
                go_meet
                case rel => exact ⟨_, (false), (by first | rfl | (simp; done) | (simp [*]; done)), H', ⟨by first | omega | exact Nat.le_refl _⟩, ⟨by (with_reducible repeat (first | refine blk_drewN ?_ _ | refine blk_drew ?_ | refine blk_alloc ?_ _)); exact BK112.out⟩, ⟨by repeat (first | (with_reducible first | exact HB.out | apply below_alloc | apply pw_below_drewN | apply below_drew1 | refine below_set ?_ GE112.out) | exact HB.out)⟩⟩
            · replace c12 := Bool.eq_false_iff.mpr c12
              subst c12
              have H1 : (spec_Proper.j0 k (decide ((l0_4.length : Int) > 0)) a0_0 a0_1 false l0_3 l0_4) = some r := by rw [if_neg (show ¬ (false = true) by decide)] at H; exact H
              clear H
              have H := H1
              clear H1
              have H' := Aside0.mk H
              clear H
              have hcz16_0 : w3.cell? ⟨gb112, 0, none⟩ = some (.int .i64 a0_0) := (blk_cell BK112.out 0).trans rfl
              have hcz16_1 : w3.cell? ⟨gb112, 1, none⟩ = some (.int .i64 a0_1) := (blk_cell BK112.out 1).trans rfl
              have hcz16_2 : w3.cell? ⟨gb112, 2, none⟩ = some (.bool false) := (blk_cell BK112.out 2).trans rfl
              have hcz16_3 : w3.cell? ⟨gb112, 3, none⟩ = some (.slice A0_3 l0_3.length c0_3) := (blk_cell BK112.out 3).trans rfl
              have hcz16_4 : w3.cell? ⟨gb112, 4, none⟩ = some (.slice A0_4 l0_4.length c0_4) := (blk_cell BK112.out 4).trans rfl
              have hfz16_0 := blk_frozen BK112.out 0
              have hfz16_1 := blk_frozen BK112.out 1
              have hfz16_2 := blk_frozen BK112.out 2
              have hfz16_3 := blk_frozen BK112.out 3
              have hfz16_4 := blk_frozen BK112.out 4
              go_wp2
              go_meet
              case rel => exact ⟨_, (decide ((l0_4.length : Int) > 0)), (by first | rfl | (simp; done) | (simp [*]; done)), H', ⟨by first | omega | exact Nat.le_refl _⟩, ⟨by (with_reducible repeat (first | refine blk_drewN ?_ _ | refine blk_drew ?_ | refine blk_alloc ?_ _)); exact BK112.out⟩, ⟨by repeat (first | (with_reducible first | exact HB.out | apply below_alloc | apply pw_below_drewN | apply below_drew1 | refine below_set ?_ GE112.out) | exact HB.out)⟩⟩
  case rest =>
    clear HC2
    try clear c1
    try clear p2
    try clear c4
    try clear c4b0
    try clear c6
    try clear c6b0
    try clear c8
    try clear c8b0
    try clear c10
    try clear c10b0
    try clear c12
    try clear c13
    try clear c13b0
    try clear c13b1
    try clear hcz11_0
    try clear hcz11_1
    try clear hcz11_2
    try clear hcz11_3
    try clear hcz11_4
    try clear hcz14_0
    try clear hcz14_1
    try clear hcz14_2
    try clear hcz14_3
    try clear hcz14_4
    try clear hcz15_0
    try clear hcz15_1
    try clear hcz15_2
    try clear hcz15_3
    try clear hcz15_4
    try clear hcz16_0
    try clear hcz16_1
    try clear hcz16_2
    try clear hcz16_3
    try clear hcz16_4
    try clear hcz5_0
    try clear hcz5_1
    try clear hcz5_2
    try clear hcz5_3
    try clear hcz5_4
    try clear hcz7_0
    try clear hcz7_1
    try clear hcz7_2
    try clear hcz7_3
    try clear hcz7_4
    try clear hcz9_0
    try clear hcz9_1
    try clear hcz9_2
    try clear hcz9_3
    try clear hcz9_4
    try clear hfz11_0
    try clear hfz11_1
    try clear hfz11_2
    try clear hfz11_3
    try clear hfz11_4
    try clear hfz14_0
    try clear hfz14_1
    try clear hfz14_2
    try clear hfz14_3
    try clear hfz14_4
    try clear hfz15_0
    try clear hfz15_1
    try clear hfz15_2
    try clear hfz15_3
    try clear hfz15_4
    try clear hfz16_0
    try clear hfz16_1
    try clear hfz16_2
    try clear hfz16_3
    try clear hfz16_4
    try clear hfz5_0
    try clear hfz5_1
    try clear hfz5_2
    try clear hfz5_3
    try clear hfz5_4
    try clear hfz7_0
    try clear hfz7_1
    try clear hfz7_2
    try clear hfz7_3
    try clear hfz7_4
    try clear hfz9_0
    try clear hfz9_1
    try clear hfz9_2
    try clear hfz9_3
    try clear hfz9_4
    obtain ⟨kq, x43_1, rfl, HA, HJ1, BK112, HB⟩ := hcut
    cases kq with
    | zero => exact absurd HA.out (by simp [spec_Proper.j0])
    | succ kj1 =>
      have H := HA.out
      clear HA
      simp only [spec_Proper.j0] at H
      by_cases c17 : x43_1 = true
      · subst c17
        have H1 : (some false) = some r := by rw [if_pos rfl] at H; exact H
        clear H
        have H := H1
        clear H1
        obtain rfl := Option.some.inj H
        go_wp2
        go_ret
        exact ⟨by first | rfl | (simp [errW_none, errW_some] <;> rfl) | (simp [*, errW_none, errW_some] <;> rfl), by repeat (first | (with_reducible first | exact HB.out | apply below_alloc | apply pw_below_drewN | apply below_drew1 | refine below_set ?_ GE112.out) | exact HB.out)⟩
      · replace c17 := Bool.eq_false_iff.mpr c17
        subst c17
        have H1 : (spec_Proper.l0 kj1 l0_4 (l0_4.length : Int) 0) = some r := by rw [if_neg (show ¬ (false = true) by decide)] at H; exact H
        clear H
        have H := H1
        clear H1
        have H' := Aside0.mk H
        clear H
        have hcz18_0 : wc.cell? ⟨gb112, 0, none⟩ = some (.int .i64 a0_0) := (blk_cell BK112.out 0).trans rfl
        have hcz18_1 : wc.cell? ⟨gb112, 1, none⟩ = some (.int .i64 a0_1) := (blk_cell BK112.out 1).trans rfl
        have hcz18_2 : wc.cell? ⟨gb112, 2, none⟩ = some (.bool a0_2) := (blk_cell BK112.out 2).trans rfl
        have hcz18_3 : wc.cell? ⟨gb112, 3, none⟩ = some (.slice A0_3 l0_3.length c0_3) := (blk_cell BK112.out 3).trans rfl
        have hcz18_4 : wc.cell? ⟨gb112, 4, none⟩ = some (.slice A0_4 l0_4.length c0_4) := (blk_cell BK112.out 4).trans rfl
        have hfz18_0 := blk_frozen BK112.out 0
        have hfz18_1 := blk_frozen BK112.out 1
        have hfz18_2 := blk_frozen BK112.out 2
        have hfz18_3 := blk_frozen BK112.out 3
        have hfz18_4 := blk_frozen BK112.out 4
        go_wp2
        go_loopg [47] kj1 (fun kq v47 w' => ∃ (x47_2 : Int), v47 = .int .i64 x47_2 ∧ Aside0 (spec_Proper.l0 kq l0_4 (l0_4.length : Int) x47_2 = some r) ∧ Aside0 (kq ≤ kj1) ∧ Aside0 (w'.heap[gb112]? = some (.cells #[.int .i64 a0_0, .int .i64 a0_1, .bool a0_2, (.slice A0_3 l0_3.length c0_3), (.slice A0_4 l0_4.length c0_4)] 29 (0, 0))) ∧ Aside0 (Below w.heap.size w w'))
        case atStart => exact ⟨(0), (by first | rfl | (simp; done) | (simp [*]; done)), H', ⟨Nat.le_refl _⟩, ⟨by (with_reducible repeat (first | refine blk_drewN ?_ _ | refine blk_drew ?_ | refine blk_alloc ?_ _)); exact BK112.out⟩, ⟨by repeat (first | (with_reducible first | exact HB.out | apply below_alloc | apply pw_below_drewN | apply below_drew1 | refine below_set ?_ GE112.out) | exact HB.out)⟩⟩
        case round =>
          clear H'
          try clear c1
          try clear p2
          try clear c4
          try clear c4b0
          try clear c6
          try clear c6b0
          try clear c8
          try clear c8b0
          try clear c10
          try clear c10b0
          try clear c12
          try clear c13
          try clear c13b0
          try clear c13b1
          try clear c17
          try clear hcz11_0
          try clear hcz11_1
          try clear hcz11_2
          try clear hcz11_3
          try clear hcz11_4
          try clear hcz14_0
          try clear hcz14_1
          try clear hcz14_2
          try clear hcz14_3
          try clear hcz14_4
          try clear hcz15_0
          try clear hcz15_1
          try clear hcz15_2
          try clear hcz15_3
          try clear hcz15_4
          try clear hcz16_0
          try clear hcz16_1
          try clear hcz16_2
          try clear hcz16_3
          try clear hcz16_4
          try clear hcz18_0
          try clear hcz18_1
          try clear hcz18_2
          try clear hcz18_3
          try clear hcz18_4
          try clear hcz5_0
          try clear hcz5_1
          try clear hcz5_2
          try clear hcz5_3
          try clear hcz5_4
          try clear hcz7_0
          try clear hcz7_1
          try clear hcz7_2
          try clear hcz7_3
          try clear hcz7_4
          try clear hcz9_0
          try clear hcz9_1
          try clear hcz9_2
          try clear hcz9_3
          try clear hcz9_4
          try clear hfz11_0
          try clear hfz11_1
          try clear hfz11_2
          try clear hfz11_3
          try clear hfz11_4
          try clear hfz14_0
          try clear hfz14_1
          try clear hfz14_2
          try clear hfz14_3
          try clear hfz14_4
          try clear hfz15_0
          try clear hfz15_1
          try clear hfz15_2
          try clear hfz15_3
          try clear hfz15_4
          try clear hfz16_0
          try clear hfz16_1
          try clear hfz16_2
          try clear hfz16_3
          try clear hfz16_4
          try clear hfz18_0
          try clear hfz18_1
          try clear hfz18_2
          try clear hfz18_3
          try clear hfz18_4
          try clear hfz5_0
          try clear hfz5_1
          try clear hfz5_2
          try clear hfz5_3
          try clear hfz5_4
          try clear hfz7_0
          try clear hfz7_1
          try clear hfz7_2
          try clear hfz7_3
          try clear hfz7_4
          try clear hfz9_0
          try clear hfz9_1
          try clear hfz9_2
          try clear hfz9_3
          try clear hfz9_4
          try clear p2
          obtain ⟨x47_2, rfl, HA, HK2, BK112, HB⟩ := hrel
          cases gk with
          | zero => exact absurd HA.out (by simp [spec_Proper.l0])
          | succ k2 =>
            have H := HA.out
            clear HA
            simp only [spec_Proper.l0] at H
            by_cases c19 : x47_2 < (l0_4.length : Int)
            · rw [if_pos c19] at H
              have c19b0 : decide (x47_2 < (l0_4.length : Int)) = true := decide_eq_true c19
              clear c19
              by_cases c20 : 0 ≤ x47_2
              · rw [if_pos c20] at H
                have c20b0 : decide (0 ≤ x47_2) = true := decide_eq_true c20
                clear c20
                by_cases c21 : x47_2 < (l0_4.length : Int)
                · rw [if_pos c21] at H
                  have c21b0 : decide (x47_2 < (l0_4.length : Int)) = true := decide_eq_true c21
                  clear c21
                  replace H := Option.bind_eq_some_iff.mp H
                  obtain ⟨t115, A220, H⟩ := H
                  replace H : (if t115 = true then (spec_Proper.l0 k2 l0_4 (l0_4.length : Int) (wrap64 (x47_2 + 1))) else (some false)) = some r := H
                  have A22 := Aside0.mk A220
                  clear A220
                  by_cases c23 : t115 = true
                  · subst c23
                    have H1 : (spec_Proper.l0 k2 l0_4 (l0_4.length : Int) (wrap64 (x47_2 + 1))) = some r := by rw [if_pos rfl] at H; exact H
                    clear H
                    have H := H1
                    clear H1
                    have H' := Aside0.mk H
                    clear H
                    have p113 : 0 ≤ (x47_2 : Int) := of_decide_eq_true (by first | (with_reducible assumption) | assumption)
                    have q113 : x47_2 < (l0_4.length : Int) := of_decide_eq_true (by first | (with_reducible assumption) | assumption)
                    obtain ⟨ad113, A113_3, c113_3, A113_4, c113_4, e113, hx113_0, hx113_1, hx113_2, hx113_3, hx113_4, hl113_3, hi113_3, hl113_4, hi113_4⟩ := at_T29 HR0_4.out x47_2 p113 q113
                    cases e113
                    replace hx113_0 := (HB.out.cell (World.block_lt_of_cell? w _ hx113_0)).trans hx113_0
                    replace hx113_1 := (HB.out.cell (World.block_lt_of_cell? w _ hx113_1)).trans hx113_1
                    replace hx113_2 := (HB.out.cell (World.block_lt_of_cell? w _ hx113_2)).trans hx113_2
                    replace hx113_3 := (HB.out.cell (World.block_lt_of_cell? w _ hx113_3)).trans hx113_3
                    replace hx113_4 := (HB.out.cell (World.block_lt_of_cell? w _ hx113_4)).trans hx113_4
                    have HR113_3 := Aside0.mk hi113_3
                    have HC113_3 := Aside0.mk hl113_3
                    clear hi113_3 hl113_3
                    have HR113_4 := Aside0.mk hi113_4
                    have HC113_4 := Aside0.mk hl113_4
                    clear hi113_4 hl113_4
                    replace p113 := eq_true p113
                    replace q113 := eq_true q113
                    go_wp2_with (first | ((with_reducible refine gate_dst (N := 4) rfl ?_); (try (refine gate_guard (by rfl) ?_; dsimp only)); refine box_event ?hg (N := 4) ?hd (cs := #[.int .i64 0, .int .i64 0, .bool false, .slice none 0 0, .slice none 0 0]) (t := 29) ?hr ?_; (case hd => rfl); (case hg => rfl); (case hr => first | (go_simp; done) | (go_simp; rfl)); intro gb114 hg w24 hbox hb; have n0_ := Aside0.mk (blk_below (g := gb112) (o := .cells #[.int .i64 a0_0, .int .i64 a0_1, .bool a0_2, .slice A0_3 l0_3.length c0_3, .slice (some ad113) l0_4.length c0_4] 29 (0, 0)) (by (with_reducible repeat (first | refine blk_drewN ?_ _ | refine blk_drew ?_ | refine blk_alloc ?_ _)); exact BK112.out) hb); have n1_ := Aside0.mk (below_step (by repeat (first | (with_reducible first | exact HB.out | apply below_alloc | apply pw_below_drewN | apply below_drew1 | refine below_set ?_ GE112.out) | exact HB.out)) hb); have n2_ := Aside0.mk (hbox); have n3_ := Aside0.mk ((by rw [hg]; exact (below_size (by repeat (first | (with_reducible first | exact HB.out | apply below_alloc | apply pw_below_drewN | apply below_drew1 | refine below_set ?_ GE112.out) | exact HB.out))) : w.heap.size ≤ gb114)); have n4_ := Aside0.mk ((by rw [hg]; exact (below_size (by repeat (first | (with_reducible first | exact HB.out | apply below_alloc | apply pw_below_drewN | apply below_drew1 | refine below_set ?_ GE112.out) | exact HB.out))) : w.heap.size ≤ gb114)); have n5_ := Aside0.mk ((by rw [hg]; exact Nat.ne_of_lt (blk_lt (g := gb112) (o := .cells #[.int .i64 a0_0, .int .i64 a0_1, .bool a0_2, .slice A0_3 l0_3.length c0_3, .slice (some ad113) l0_4.length c0_4] 29 (0, 0)) (by (with_reducible repeat (first | refine blk_drewN ?_ _ | refine blk_drew ?_ | refine blk_alloc ?_ _)); exact BK112.out)) : gb112 ≠ gb114)); have n6_ := Aside0.mk ((by rw [hg]; exact Nat.ne_of_gt (blk_lt (g := gb112) (o := .cells #[.int .i64 a0_0, .int .i64 a0_1, .bool a0_2, .slice A0_3 l0_3.length c0_3, .slice (some ad113) l0_4.length c0_4] 29 (0, 0)) (by (with_reducible repeat (first | refine blk_drewN ?_ _ | refine blk_drew ?_ | refine blk_alloc ?_ _)); exact BK112.out)) : gb114 ≠ gb112)); clear BK112; clear HB; have BK112 := n0_; have HB := n1_; have BK114 := n2_; have GW114 := n3_; have GE114 := n4_; have NB112_114 := n5_; have NB114_112 := n6_; clear n0_ n1_ n2_ n3_ n4_ n5_ n6_; clear hb hbox hg; have hnb25 := NB114_112.out; have hnc25 := NB112_114.out; have hcz26_0 : w24.cell? ⟨gb114, 0, none⟩ = some (.int .i64 0) := (blk_cell BK114.out 0).trans rfl; have hcz26_1 : w24.cell? ⟨gb114, 1, none⟩ = some (.int .i64 0) := (blk_cell BK114.out 1).trans rfl; have hcz26_2 : w24.cell? ⟨gb114, 2, none⟩ = some (.bool false) := (blk_cell BK114.out 2).trans rfl; have hcz26_3 : w24.cell? ⟨gb114, 3, none⟩ = some (.slice none 0 0) := (blk_cell BK114.out 3).trans rfl; have hcz26_4 : w24.cell? ⟨gb114, 4, none⟩ = some (.slice none 0 0) := (blk_cell BK114.out 4).trans rfl; have hfz26_0 := blk_frozen BK114.out 0; have hfz26_1 := blk_frozen BK114.out 1; have hfz26_2 := blk_frozen BK114.out 2; have hfz26_3 := blk_frozen BK114.out 3; have hfz26_4 := blk_frozen BK114.out 4) | ((with_reducible refine gate_callee (f := 19) rfl ?_); refine goesL_ (some 52) rfl rfl Tryd.func19 (by kernel_rfl) rfl #[.agg #[.int .i64 ((rd_T29 l0_4 x47_2).f0), .int .i64 ((rd_T29 l0_4 x47_2).f1), .bool ((rd_T29 l0_4 x47_2).f2), .slice A113_3 ((rd_T29 l0_4 x47_2).f3).length c113_3, .slice A113_4 ((rd_T29 l0_4 x47_2).f4).length c113_4]] rfl (by (try simp only [List.map_toArray, List.map_cons, List.map_nil]); first | done | rfl | (simp only [List.length_drop, List.length_take]; rfl)) ?_; (with_reducible refine (ih k2 (by have := HJ1.out; have := HK2.out; omega) ((rd_T29 l0_4 x47_2).f0) ((rd_T29 l0_4 x47_2).f1) ((rd_T29 l0_4 x47_2).f2) _ _ ((rd_T29 l0_4 x47_2).f3) _ _ ((rd_T29 l0_4 x47_2).f4) true _ ?side1 ?side2 ?side3 ?side4 A22.out).mono ?_); (case side1 => exact Kd.C_below HR113_3.out (by repeat (first | (with_reducible first | exact HB.out | apply below_alloc | apply pw_below_drewN | apply below_drew1 | refine below_set ?_ GE112.out | refine below_set ?_ GE114.out) | exact HB.out))); (case side2 => exact HC113_3.out); (case side3 => exact Kd.C_below HR113_4.out (by repeat (first | (with_reducible first | exact HB.out | apply below_alloc | apply pw_below_drewN | apply below_drew1 | refine below_set ?_ GE112.out | refine below_set ?_ GE114.out) | exact HB.out))); (case side4 => exact HC113_4.out); rintro e w27 ⟨rfl, hb⟩; refine ⟨_, rfl, ?_⟩; have n0_ := Aside0.mk (blk_below (g := gb112) (o := .cells #[.int .i64 a0_0, .int .i64 a0_1, .bool a0_2, .slice A0_3 l0_3.length c0_3, .slice (some ad113) l0_4.length c0_4] 29 (0, 0)) (by (with_reducible repeat (first | refine blk_drewN ?_ _ | refine blk_drew ?_ | refine blk_alloc ?_ _)); refine blk_far ?_ NB112_114.out _; (with_reducible repeat (first | refine blk_drewN ?_ _ | refine blk_drew ?_ | refine blk_alloc ?_ _)); refine blk_far ?_ NB112_114.out _; (with_reducible repeat (first | refine blk_drewN ?_ _ | refine blk_drew ?_ | refine blk_alloc ?_ _)); refine blk_far ?_ NB112_114.out _; (with_reducible repeat (first | refine blk_drewN ?_ _ | refine blk_drew ?_ | refine blk_alloc ?_ _)); refine blk_far ?_ NB112_114.out _; (with_reducible repeat (first | refine blk_drewN ?_ _ | refine blk_drew ?_ | refine blk_alloc ?_ _)); refine blk_far ?_ NB112_114.out _; (with_reducible repeat (first | refine blk_drewN ?_ _ | refine blk_drew ?_ | refine blk_alloc ?_ _)); exact BK112.out) hb); have n1_ := Aside0.mk (blk_below (g := gb114) (o := .cells #[.int .i64 ((rd_T29 l0_4 x47_2).f0), .int .i64 ((rd_T29 l0_4 x47_2).f1), .bool ((rd_T29 l0_4 x47_2).f2), .slice A113_3 ((rd_T29 l0_4 x47_2).f3).length c113_3, .slice A113_4 ((rd_T29 l0_4 x47_2).f4).length c113_4] 29 (0, 0)) (by (with_reducible repeat (first | refine blk_drewN ?_ _ | refine blk_drew ?_ | refine blk_alloc ?_ _)); refine blk_put (cs := #[.int .i64 ((rd_T29 l0_4 x47_2).f0), .int .i64 ((rd_T29 l0_4 x47_2).f1), .bool ((rd_T29 l0_4 x47_2).f2), .slice A113_3 ((rd_T29 l0_4 x47_2).f3).length c113_3, .slice none 0 0]) ?_ 4 _ rfl; (with_reducible repeat (first | refine blk_drewN ?_ _ | refine blk_drew ?_ | refine blk_alloc ?_ _)); refine blk_put (cs := #[.int .i64 ((rd_T29 l0_4 x47_2).f0), .int .i64 ((rd_T29 l0_4 x47_2).f1), .bool ((rd_T29 l0_4 x47_2).f2), .slice none 0 0, .slice none 0 0]) ?_ 3 _ rfl; (with_reducible repeat (first | refine blk_drewN ?_ _ | refine blk_drew ?_ | refine blk_alloc ?_ _)); refine blk_put (cs := #[.int .i64 ((rd_T29 l0_4 x47_2).f0), .int .i64 ((rd_T29 l0_4 x47_2).f1), .bool false, .slice none 0 0, .slice none 0 0]) ?_ 2 _ rfl; (with_reducible repeat (first | refine blk_drewN ?_ _ | refine blk_drew ?_ | refine blk_alloc ?_ _)); refine blk_put (cs := #[.int .i64 ((rd_T29 l0_4 x47_2).f0), .int .i64 0, .bool false, .slice none 0 0, .slice none 0 0]) ?_ 1 _ rfl; (with_reducible repeat (first | refine blk_drewN ?_ _ | refine blk_drew ?_ | refine blk_alloc ?_ _)); refine blk_put (cs := #[.int .i64 0, .int .i64 0, .bool false, .slice none 0 0, .slice none 0 0]) ?_ 0 _ rfl; (with_reducible repeat (first | refine blk_drewN ?_ _ | refine blk_drew ?_ | refine blk_alloc ?_ _)); exact BK114.out) hb); have n2_ := Aside0.mk (below_step (by repeat (first | (with_reducible first | exact HB.out | apply below_alloc | apply pw_below_drewN | apply below_drew1 | refine below_set ?_ GE112.out | refine below_set ?_ GE114.out) | exact HB.out)) hb); clear BK112; clear BK114; clear HB; have BK112 := n0_; have BK114 := n1_; have HB := n2_; clear n0_ n1_ n2_; (try clear hb); (try clear hb2); (try clear hk); (try clear hi)))
                    go_roundg k2
                    case measure => have := HJ1.out; have := HK2.out; omega
                    case rel => exact ⟨(wrap64 (x47_2 + 1)), (by first | rfl | (simp; done) | (simp [*]; done)), H', ⟨by have := HJ1.out; have := HK2.out; omega⟩, ⟨by (with_reducible repeat (first | refine blk_drewN ?_ _ | refine blk_drew ?_ | refine blk_alloc ?_ _)); exact BK112.out⟩, ⟨by repeat (first | (with_reducible first | exact HB.out | apply below_alloc | apply pw_below_drewN | apply below_drew1 | refine below_set ?_ GE112.out | refine below_set ?_ GE114.out) | exact HB.out)⟩⟩
                  · replace c23 := Bool.eq_false_iff.mpr c23
                    subst c23
                    have H1 : (some false) = some r := by rw [if_neg (show ¬ (false = true) by decide)] at H; exact H
                    clear H
                    have H := H1
                    clear H1
                    obtain rfl := Option.some.inj H
                    have p113 : 0 ≤ (x47_2 : Int) := of_decide_eq_true (by first | (with_reducible assumption) | assumption)
                    have q113 : x47_2 < (l0_4.length : Int) := of_decide_eq_true (by first | (with_reducible assumption) | assumption)
                    obtain ⟨ad113, A113_3, c113_3, A113_4, c113_4, e113, hx113_0, hx113_1, hx113_2, hx113_3, hx113_4, hl113_3, hi113_3, hl113_4, hi113_4⟩ := at_T29 HR0_4.out x47_2 p113 q113
                    cases e113
                    replace hx113_0 := (HB.out.cell (World.block_lt_of_cell? w _ hx113_0)).trans hx113_0
                    replace hx113_1 := (HB.out.cell (World.block_lt_of_cell? w _ hx113_1)).trans hx113_1
                    replace hx113_2 := (HB.out.cell (World.block_lt_of_cell? w _ hx113_2)).trans hx113_2
                    replace hx113_3 := (HB.out.cell (World.block_lt_of_cell? w _ hx113_3)).trans hx113_3
                    replace hx113_4 := (HB.out.cell (World.block_lt_of_cell? w _ hx113_4)).trans hx113_4
                    have HR113_3 := Aside0.mk hi113_3
                    have HC113_3 := Aside0.mk hl113_3
                    clear hi113_3 hl113_3
                    have HR113_4 := Aside0.mk hi113_4
                    have HC113_4 := Aside0.mk hl113_4
                    clear hi113_4 hl113_4
                    replace p113 := eq_true p113
                    replace q113 := eq_true q113
                    go_wp2_with (first | ((with_reducible refine gate_dst (N := 4) rfl ?_); (try (refine gate_guard (by rfl) ?_; dsimp only)); refine box_event ?hg (N := 4) ?hd (cs := #[.int .i64 0, .int .i64 0, .bool false, .slice none 0 0, .slice none 0 0]) (t := 29) ?hr ?_; (case hd => rfl); (case hg => rfl); (case hr => first | (go_simp; done) | (go_simp; rfl)); intro gb114 hg w28 hbox hb; have n0_ := Aside0.mk (blk_below (g := gb112) (o := .cells #[.int .i64 a0_0, .int .i64 a0_1, .bool a0_2, .slice A0_3 l0_3.length c0_3, .slice (some ad113) l0_4.length c0_4] 29 (0, 0)) (by (with_reducible repeat (first | refine blk_drewN ?_ _ | refine blk_drew ?_ | refine blk_alloc ?_ _)); exact BK112.out) hb); have n1_ := Aside0.mk (below_step (by repeat (first | (with_reducible first | exact HB.out | apply below_alloc | apply pw_below_drewN | apply below_drew1 | refine below_set ?_ GE112.out) | exact HB.out)) hb); have n2_ := Aside0.mk (hbox); have n3_ := Aside0.mk ((by rw [hg]; exact (below_size (by repeat (first | (with_reducible first | exact HB.out | apply below_alloc | apply pw_below_drewN | apply below_drew1 | refine below_set ?_ GE112.out) | exact HB.out))) : w.heap.size ≤ gb114)); have n4_ := Aside0.mk ((by rw [hg]; exact (below_size (by repeat (first | (with_reducible first | exact HB.out | apply below_alloc | apply pw_below_drewN | apply below_drew1 | refine below_set ?_ GE112.out) | exact HB.out))) : w.heap.size ≤ gb114)); have n5_ := Aside0.mk ((by rw [hg]; exact Nat.ne_of_lt (blk_lt (g := gb112) (o := .cells #[.int .i64 a0_0, .int .i64 a0_1, .bool a0_2, .slice A0_3 l0_3.length c0_3, .slice (some ad113) l0_4.length c0_4] 29 (0, 0)) (by (with_reducible repeat (first | refine blk_drewN ?_ _ | refine blk_drew ?_ | refine blk_alloc ?_ _)); exact BK112.out)) : gb112 ≠ gb114)); have n6_ := Aside0.mk ((by rw [hg]; exact Nat.ne_of_gt (blk_lt (g := gb112) (o := .cells #[.int .i64 a0_0, .int .i64 a0_1, .bool a0_2, .slice A0_3 l0_3.length c0_3, .slice (some ad113) l0_4.length c0_4] 29 (0, 0)) (by (with_reducible repeat (first | refine blk_drewN ?_ _ | refine blk_drew ?_ | refine blk_alloc ?_ _)); exact BK112.out)) : gb114 ≠ gb112)); clear BK112; clear HB; have BK112 := n0_; have HB := n1_; have BK114 := n2_; have GW114 := n3_; have GE114 := n4_; have NB112_114 := n5_; have NB114_112 := n6_; clear n0_ n1_ n2_ n3_ n4_ n5_ n6_; clear hb hbox hg; have hnb29 := NB114_112.out; have hnc29 := NB112_114.out; have hcz30_0 : w28.cell? ⟨gb114, 0, none⟩ = some (.int .i64 0) := (blk_cell BK114.out 0).trans rfl; have hcz30_1 : w28.cell? ⟨gb114, 1, none⟩ = some (.int .i64 0) := (blk_cell BK114.out 1).trans rfl; have hcz30_2 : w28.cell? ⟨gb114, 2, none⟩ = some (.bool false) := (blk_cell BK114.out 2).trans rfl; have hcz30_3 : w28.cell? ⟨gb114, 3, none⟩ = some (.slice none 0 0) := (blk_cell BK114.out 3).trans rfl; have hcz30_4 : w28.cell? ⟨gb114, 4, none⟩ = some (.slice none 0 0) := (blk_cell BK114.out 4).trans rfl; have hfz30_0 := blk_frozen BK114.out 0; have hfz30_1 := blk_frozen BK114.out 1; have hfz30_2 := blk_frozen BK114.out 2; have hfz30_3 := blk_frozen BK114.out 3; have hfz30_4 := blk_frozen BK114.out 4) | ((with_reducible refine gate_callee (f := 19) rfl ?_); refine goesL_ (some 52) rfl rfl Tryd.func19 (by kernel_rfl) rfl #[.agg #[.int .i64 ((rd_T29 l0_4 x47_2).f0), .int .i64 ((rd_T29 l0_4 x47_2).f1), .bool ((rd_T29 l0_4 x47_2).f2), .slice A113_3 ((rd_T29 l0_4 x47_2).f3).length c113_3, .slice A113_4 ((rd_T29 l0_4 x47_2).f4).length c113_4]] rfl (by (try simp only [List.map_toArray, List.map_cons, List.map_nil]); first | done | rfl | (simp only [List.length_drop, List.length_take]; rfl)) ?_; (with_reducible refine (ih k2 (by have := HJ1.out; have := HK2.out; omega) ((rd_T29 l0_4 x47_2).f0) ((rd_T29 l0_4 x47_2).f1) ((rd_T29 l0_4 x47_2).f2) _ _ ((rd_T29 l0_4 x47_2).f3) _ _ ((rd_T29 l0_4 x47_2).f4) false _ ?side1 ?side2 ?side3 ?side4 A22.out).mono ?_); (case side1 => exact Kd.C_below HR113_3.out (by repeat (first | (with_reducible first | exact HB.out | apply below_alloc | apply pw_below_drewN | apply below_drew1 | refine below_set ?_ GE112.out | refine below_set ?_ GE114.out) | exact HB.out))); (case side2 => exact HC113_3.out); (case side3 => exact Kd.C_below HR113_4.out (by repeat (first | (with_reducible first | exact HB.out | apply below_alloc | apply pw_below_drewN | apply below_drew1 | refine below_set ?_ GE112.out | refine below_set ?_ GE114.out) | exact HB.out))); (case side4 => exact HC113_4.out); rintro e w31 ⟨rfl, hb⟩; refine ⟨_, rfl, ?_⟩; have n0_ := Aside0.mk (blk_below (g := gb112) (o := .cells #[.int .i64 a0_0, .int .i64 a0_1, .bool a0_2, .slice A0_3 l0_3.length c0_3, .slice (some ad113) l0_4.length c0_4] 29 (0, 0)) (by (with_reducible repeat (first | refine blk_drewN ?_ _ | refine blk_drew ?_ | refine blk_alloc ?_ _)); refine blk_far ?_ NB112_114.out _; (with_reducible repeat (first | refine blk_drewN ?_ _ | refine blk_drew ?_ | refine blk_alloc ?_ _)); refine blk_far ?_ NB112_114.out _; (with_reducible repeat (first | refine blk_drewN ?_ _ | refine blk_drew ?_ | refine blk_alloc ?_ _)); refine blk_far ?_ NB112_114.out _; (with_reducible repeat (first | refine blk_drewN ?_ _ | refine blk_drew ?_ | refine blk_alloc ?_ _)); refine blk_far ?_ NB112_114.out _; (with_reducible repeat (first | refine blk_drewN ?_ _ | refine blk_drew ?_ | refine blk_alloc ?_ _)); refine blk_far ?_ NB112_114.out _; (with_reducible repeat (first | refine blk_drewN ?_ _ | refine blk_drew ?_ | refine blk_alloc ?_ _)); exact BK112.out) hb); have n1_ := Aside0.mk (blk_below (g := gb114) (o := .cells #[.int .i64 ((rd_T29 l0_4 x47_2).f0), .int .i64 ((rd_T29 l0_4 x47_2).f1), .bool ((rd_T29 l0_4 x47_2).f2), .slice A113_3 ((rd_T29 l0_4 x47_2).f3).length c113_3, .slice A113_4 ((rd_T29 l0_4 x47_2).f4).length c113_4] 29 (0, 0)) (by (with_reducible repeat (first | refine blk_drewN ?_ _ | refine blk_drew ?_ | refine blk_alloc ?_ _)); refine blk_put (cs := #[.int .i64 ((rd_T29 l0_4 x47_2).f0), .int .i64 ((rd_T29 l0_4 x47_2).f1), .bool ((rd_T29 l0_4 x47_2).f2), .slice A113_3 ((rd_T29 l0_4 x47_2).f3).length c113_3, .slice none 0 0]) ?_ 4 _ rfl; (with_reducible repeat (first | refine blk_drewN ?_ _ | refine blk_drew ?_ | refine blk_alloc ?_ _)); refine blk_put (cs := #[.int .i64 ((rd_T29 l0_4 x47_2).f0), .int .i64 ((rd_T29 l0_4 x47_2).f1), .bool ((rd_T29 l0_4 x47_2).f2), .slice none 0 0, .slice none 0 0]) ?_ 3 _ rfl; (with_reducible repeat (first | refine blk_drewN ?_ _ | refine blk_drew ?_ | refine blk_alloc ?_ _)); refine blk_put (cs := #[.int .i64 ((rd_T29 l0_4 x47_2).f0), .int .i64 ((rd_T29 l0_4 x47_2).f1), .bool false, .slice none 0 0, .slice none 0 0]) ?_ 2 _ rfl; (with_reducible repeat (first | refine blk_drewN ?_ _ | refine blk_drew ?_ | refine blk_alloc ?_ _)); refine blk_put (cs := #[.int .i64 ((rd_T29 l0_4 x47_2).f0), .int .i64 0, .bool false, .slice none 0 0, .slice none 0 0]) ?_ 1 _ rfl; (with_reducible repeat (first | refine blk_drewN ?_ _ | refine blk_drew ?_ | refine blk_alloc ?_ _)); refine blk_put (cs := #[.int .i64 0, .int .i64 0, .bool false, .slice none 0 0, .slice none 0 0]) ?_ 0 _ rfl; (with_reducible repeat (first | refine blk_drewN ?_ _ | refine blk_drew ?_ | refine blk_alloc ?_ _)); exact BK114.out) hb); have n2_ := Aside0.mk (below_step (by repeat (first | (with_reducible first | exact HB.out | apply below_alloc | apply pw_below_drewN | apply below_drew1 | refine below_set ?_ GE112.out | refine below_set ?_ GE114.out) | exact HB.out)) hb); clear BK112; clear BK114; clear HB; have BK112 := n0_; have BK114 := n1_; have HB := n2_; clear n0_ n1_ n2_; (try clear hb); (try clear hb2); (try clear hk); (try clear hi)))
                    go_ret
                    exact ⟨by first | rfl | (simp [errW_none, errW_some] <;> rfl) | (simp [*, errW_none, errW_some] <;> rfl), by repeat (first | (with_reducible first | exact HB.out | apply below_alloc | apply pw_below_drewN | apply below_drew1 | refine below_set ?_ GE112.out | refine below_set ?_ GE114.out) | exact HB.out)⟩
                · rw [if_neg c21] at H
                  exact absurd H (by simp)
              · rw [if_neg c20] at H
                exact absurd H (by simp)
            · rw [if_neg c19] at H
              have c19b0 : decide (x47_2 < (l0_4.length : Int)) = false := decide_eq_false c19
              clear c19
              obtain rfl := Option.some.inj H
              go_wp2
              go_ret
              exact ⟨by first | rfl | (simp [errW_none, errW_some] <;> rfl) | (simp [*, errW_none, errW_some] <;> rfl), by repeat (first | (with_reducible first | exact HB.out | apply below_alloc | apply pw_below_drewN | apply below_drew1 | refine below_set ?_ GE112.out) | exact HB.out)⟩

/-! ### laws_fits: function 8 -/
def laws_fits.f (k : Nat) (a0_0 : Int) (a0_1 : Int) (a0_2 : Bool) (l0_3 : List Int) (l0_4 : List (S29)) : Option (Bool) := (spec_Size.f k a0_0 a0_1 a0_2 l0_3 l0_4).bind fun t117 => (if t117 ≤ 5000 then ((spec_Deep.f k a0_0 a0_1 a0_2 l0_3 l0_4).bind fun t118 => (if t118 ≤ 20 then ((spec_Proper.f k a0_0 a0_1 a0_2 l0_3 l0_4).bind fun t119 => (some t119)) else (some false))) else (some false))
set_option maxHeartbeats 8000000 in
set_option maxRecDepth 100000 in
theorem laws_fits.calls (k : Nat) (a0_0 : Int) (a0_1 : Int) (a0_2 : Bool) (A0_3 : Option Addr) (c0_3 : Nat) (l0_3 : List Int) (A0_4 : Option Addr) (c0_4 : Nat) (l0_4 : List (S29)) (r : Bool) (w : World) (hr0_3 : Kd.C (Kd.int .u8) w A0_3 l0_3.length l0_3) (hc0_3 : l0_3.length ≤ c0_3) (hr0_4 : Kd.C k29 w A0_4 l0_4.length l0_4) (hc0_4 : l0_4.length ≤ c0_4) (h : laws_fits.f k a0_0 a0_1 a0_2 l0_3 l0_4 = some r) :
    Calls Tryd.prog 8 #[.agg #[.int .i64 a0_0, .int .i64 a0_1, .bool a0_2, .slice A0_3 l0_3.length c0_3, .slice A0_4 l0_4.length c0_4]] w fun e w' => e = .returned (.bool r) ∧ Below w.heap.size w w' := by
  have hu29 := Tryd.underlying29
  have HR0_3 := Aside0.mk hr0_3
  have HC0_3 := Aside0.mk hc0_3
  clear hr0_3 hc0_3
  have HR0_4 := Aside0.mk hr0_4
  have HC0_4 := Aside0.mk hc0_4
  clear hr0_4 hc0_4
  have HB := Aside0.mk (Below.refl w.heap.size w)
  have H : ((spec_Size.f k a0_0 a0_1 a0_2 l0_3 l0_4).bind fun t117 => (if t117 ≤ 5000 then ((spec_Deep.f k a0_0 a0_1 a0_2 l0_3 l0_4).bind fun t118 => (if t118 ≤ 20 then ((spec_Proper.f k a0_0 a0_1 a0_2 l0_3 l0_4).bind fun t119 => (some t119)) else (some false))) else (some false))) = some r := h
  clear h
  replace H := Option.bind_eq_some_iff.mp H
  obtain ⟨t117, A20, H⟩ := H
  replace H : (if t117 ≤ 5000 then ((spec_Deep.f k a0_0 a0_1 a0_2 l0_3 l0_4).bind fun t118 => (if t118 ≤ 20 then ((spec_Proper.f k a0_0 a0_1 a0_2 l0_3 l0_4).bind fun t119 => (some t119)) else (some false))) else (some false)) = some r := H
  have A2 := Aside0.mk A20
  clear A20
  by_cases c3 : t117 ≤ 5000
  · rw [if_pos c3] at H
    have c3b0 : decide (t117 ≤ 5000) = true := decide_eq_true c3
    clear c3
    replace H := Option.bind_eq_some_iff.mp H
    obtain ⟨t118, A40, H⟩ := H
    replace H : (if t118 ≤ 20 then ((spec_Proper.f k a0_0 a0_1 a0_2 l0_3 l0_4).bind fun t119 => (some t119)) else (some false)) = some r := H
    have A4 := Aside0.mk A40
    clear A40
    by_cases c5 : t118 ≤ 20
    · rw [if_pos c5] at H
      have c5b0 : decide (t118 ≤ 20) = true := decide_eq_true c5
      clear c5
      replace H := Option.bind_eq_some_iff.mp H
      obtain ⟨t119, A60, H⟩ := H
      replace H : (some t119) = some r := H
      have A6 := Aside0.mk A60
      clear A60
      obtain rfl := Option.some.inj H
      go_enter Tryd.func8, Tryd.ntmps8
      go_wp2_with (first | ((with_reducible refine gate_dst (N := 1) rfl ?_); refine box_event ?hg (N := 1) ?hd (cs := #[.int .i64 a0_0, .int .i64 a0_1, .bool a0_2, .slice A0_3 l0_3.length c0_3, .slice A0_4 l0_4.length c0_4]) (t := 29) ?hr ?_; (case hd => rfl); (case hg => rfl); (case hr => first | (go_simp; done) | (go_simp; rfl)); intro gb116 hg w7 hbox hb; have n0_ := Aside0.mk (below_step (by repeat (first | (with_reducible first | exact HB.out | apply below_alloc | apply pw_below_drewN | apply below_drew1) | exact HB.out)) hb); have n1_ := Aside0.mk (hbox); have n2_ := Aside0.mk ((by rw [hg]; exact (below_size (by repeat (first | (with_reducible first | exact HB.out | apply below_alloc | apply pw_below_drewN | apply below_drew1) | exact HB.out))) : w.heap.size ≤ gb116)); have n3_ := Aside0.mk ((by rw [hg]; exact (below_size (by repeat (first | (with_reducible first | exact HB.out | apply below_alloc | apply pw_below_drewN | apply below_drew1) | exact HB.out))) : w.heap.size ≤ gb116)); clear HB; have HB := n0_; have BK116 := n1_; have GW116 := n2_; have GE116 := n3_; clear n0_ n1_ n2_ n3_; clear hb hbox hg; have hcz8_0 : w7.cell? ⟨gb116, 0, none⟩ = some (.int .i64 a0_0) := (blk_cell BK116.out 0).trans rfl; have hcz8_1 : w7.cell? ⟨gb116, 1, none⟩ = some (.int .i64 a0_1) := (blk_cell BK116.out 1).trans rfl; have hcz8_2 : w7.cell? ⟨gb116, 2, none⟩ = some (.bool a0_2) := (blk_cell BK116.out 2).trans rfl; have hcz8_3 : w7.cell? ⟨gb116, 3, none⟩ = some (.slice A0_3 l0_3.length c0_3) := (blk_cell BK116.out 3).trans rfl; have hcz8_4 : w7.cell? ⟨gb116, 4, none⟩ = some (.slice A0_4 l0_4.length c0_4) := (blk_cell BK116.out 4).trans rfl; have hfz8_0 := blk_frozen BK116.out 0; have hfz8_1 := blk_frozen BK116.out 1; have hfz8_2 := blk_frozen BK116.out 2; have hfz8_3 := blk_frozen BK116.out 3; have hfz8_4 := blk_frozen BK116.out 4) | ((with_reducible refine gate_callee (f := 17) rfl ?_); refine goesL_ (some 4) rfl rfl Tryd.func17 (by kernel_rfl) rfl #[.agg #[.int .i64 a0_0, .int .i64 a0_1, .bool a0_2, .slice A0_3 l0_3.length c0_3, .slice A0_4 l0_4.length c0_4]] rfl (by (try simp only [List.map_toArray, List.map_cons, List.map_nil]); first | done | rfl | (simp only [List.length_drop, List.length_take]; rfl)) ?_; (with_reducible refine (spec_Size.calls k a0_0 a0_1 a0_2 _ _ l0_3 _ _ l0_4 t117 _ ?side1 ?side2 ?side3 ?side4 A2.out).mono ?_); (case side1 => repeat (first | exact (Kd.C_below HR0_3.out HB.out) | (with_reducible refine Kd.C_alloc ?_ _) | (with_reducible refine Kd.C_drewN ?_ _) | (with_reducible refine Kd.C_drew ?_))); (case side2 => exact HC0_3.out); (case side3 => repeat (first | exact (Kd.C_below HR0_4.out HB.out) | (with_reducible refine Kd.C_alloc ?_ _) | (with_reducible refine Kd.C_drewN ?_ _) | (with_reducible refine Kd.C_drew ?_))); (case side4 => exact HC0_4.out); rintro e w9 ⟨rfl, hb⟩; refine ⟨_, rfl, ?_⟩; have n0_ := Aside0.mk (blk_below (g := gb116) (o := .cells #[.int .i64 a0_0, .int .i64 a0_1, .bool a0_2, .slice A0_3 l0_3.length c0_3, .slice A0_4 l0_4.length c0_4] 29 (0, 0)) (by (with_reducible repeat (first | refine blk_drewN ?_ _ | refine blk_drew ?_ | refine blk_alloc ?_ _)); exact BK116.out) hb); have n1_ := Aside0.mk (below_step (by repeat (first | (with_reducible first | exact HB.out | apply below_alloc | apply pw_below_drewN | apply below_drew1 | refine below_set ?_ GE116.out) | exact HB.out)) hb); clear BK116; clear HB; have BK116 := n0_; have HB := n1_; clear n0_ n1_; (try clear hb); (try clear hb2); (try clear hk); (try clear hi); have hcz10_0 : w9.cell? ⟨gb116, 0, none⟩ = some (.int .i64 a0_0) := (blk_cell BK116.out 0).trans rfl; have hcz10_1 : w9.cell? ⟨gb116, 1, none⟩ = some (.int .i64 a0_1) := (blk_cell BK116.out 1).trans rfl; have hcz10_2 : w9.cell? ⟨gb116, 2, none⟩ = some (.bool a0_2) := (blk_cell BK116.out 2).trans rfl; have hcz10_3 : w9.cell? ⟨gb116, 3, none⟩ = some (.slice A0_3 l0_3.length c0_3) := (blk_cell BK116.out 3).trans rfl; have hcz10_4 : w9.cell? ⟨gb116, 4, none⟩ = some (.slice A0_4 l0_4.length c0_4) := (blk_cell BK116.out 4).trans rfl; have hfz10_0 := blk_frozen BK116.out 0; have hfz10_1 := blk_frozen BK116.out 1; have hfz10_2 := blk_frozen BK116.out 2; have hfz10_3 := blk_frozen BK116.out 3; have hfz10_4 := blk_frozen BK116.out 4) | (go_at_call 18; (with_reducible refine (spec_Deep.calls k a0_0 a0_1 a0_2 _ _ l0_3 _ _ l0_4 t118 _ ?side1 ?side2 ?side3 ?side4 A4.out).mono ?_); (case side1 => repeat (first | exact (Kd.C_below HR0_3.out HB.out) | (with_reducible refine Kd.C_alloc ?_ _) | (with_reducible refine Kd.C_drewN ?_ _) | (with_reducible refine Kd.C_drew ?_))); (case side2 => exact HC0_3.out); (case side3 => repeat (first | exact (Kd.C_below HR0_4.out HB.out) | (with_reducible refine Kd.C_alloc ?_ _) | (with_reducible refine Kd.C_drewN ?_ _) | (with_reducible refine Kd.C_drew ?_))); (case side4 => exact HC0_4.out); rintro e w11 ⟨rfl, hb⟩; have n0_ := Aside0.mk (blk_below (g := gb116) (o := .cells #[.int .i64 a0_0, .int .i64 a0_1, .bool a0_2, .slice A0_3 l0_3.length c0_3, .slice A0_4 l0_4.length c0_4] 29 (0, 0)) (by (with_reducible repeat (first | refine blk_drewN ?_ _ | refine blk_drew ?_ | refine blk_alloc ?_ _)); exact BK116.out) hb); have n1_ := Aside0.mk (below_step (by repeat (first | (with_reducible first | exact HB.out | apply below_alloc | apply pw_below_drewN | apply below_drew1 | refine below_set ?_ GE116.out) | exact HB.out)) hb); clear BK116; clear HB; have BK116 := n0_; have HB := n1_; clear n0_ n1_; (try clear hb); (try clear hb2); (try clear hk); (try clear hi); have hcz12_0 : w11.cell? ⟨gb116, 0, none⟩ = some (.int .i64 a0_0) := (blk_cell BK116.out 0).trans rfl; have hcz12_1 : w11.cell? ⟨gb116, 1, none⟩ = some (.int .i64 a0_1) := (blk_cell BK116.out 1).trans rfl; have hcz12_2 : w11.cell? ⟨gb116, 2, none⟩ = some (.bool a0_2) := (blk_cell BK116.out 2).trans rfl; have hcz12_3 : w11.cell? ⟨gb116, 3, none⟩ = some (.slice A0_3 l0_3.length c0_3) := (blk_cell BK116.out 3).trans rfl; have hcz12_4 : w11.cell? ⟨gb116, 4, none⟩ = some (.slice A0_4 l0_4.length c0_4) := (blk_cell BK116.out 4).trans rfl; have hfz12_0 := blk_frozen BK116.out 0; have hfz12_1 := blk_frozen BK116.out 1; have hfz12_2 := blk_frozen BK116.out 2; have hfz12_3 := blk_frozen BK116.out 3; have hfz12_4 := blk_frozen BK116.out 4) | (go_at_call 19; (with_reducible refine (spec_Proper.calls k a0_0 a0_1 a0_2 _ _ l0_3 _ _ l0_4 t119 _ ?side1 ?side2 ?side3 ?side4 A6.out).mono ?_); (case side1 => repeat (first | exact (Kd.C_below HR0_3.out HB.out) | (with_reducible refine Kd.C_alloc ?_ _) | (with_reducible refine Kd.C_drewN ?_ _) | (with_reducible refine Kd.C_drew ?_))); (case side2 => exact HC0_3.out); (case side3 => repeat (first | exact (Kd.C_below HR0_4.out HB.out) | (with_reducible refine Kd.C_alloc ?_ _) | (with_reducible refine Kd.C_drewN ?_ _) | (with_reducible refine Kd.C_drew ?_))); (case side4 => exact HC0_4.out); rintro e w13 ⟨rfl, hb⟩; have n0_ := Aside0.mk (blk_below (g := gb116) (o := .cells #[.int .i64 a0_0, .int .i64 a0_1, .bool a0_2, .slice A0_3 l0_3.length c0_3, .slice A0_4 l0_4.length c0_4] 29 (0, 0)) (by (with_reducible repeat (first | refine blk_drewN ?_ _ | refine blk_drew ?_ | refine blk_alloc ?_ _)); exact BK116.out) hb); have n1_ := Aside0.mk (below_step (by repeat (first | (with_reducible first | exact HB.out | apply below_alloc | apply pw_below_drewN | apply below_drew1 | refine below_set ?_ GE116.out) | exact HB.out)) hb); clear BK116; clear HB; have BK116 := n0_; have HB := n1_; clear n0_ n1_; (try clear hb); (try clear hb2); (try clear hk); (try clear hi)))
      go_ret
      exact ⟨by first | rfl | (simp [errW_none, errW_some] <;> rfl) | (simp [*, errW_none, errW_some] <;> rfl), by repeat (first | (with_reducible first | exact HB.out | apply below_alloc | apply pw_below_drewN | apply below_drew1 | refine below_set ?_ GE116.out) | exact HB.out)⟩
    · rw [if_neg c5] at H
      have c5b0 : decide (t118 ≤ 20) = false := decide_eq_false c5
      clear c5
      obtain rfl := Option.some.inj H
      go_enter Tryd.func8, Tryd.ntmps8
      go_wp2_with (first | ((with_reducible refine gate_dst (N := 1) rfl ?_); refine box_event ?hg (N := 1) ?hd (cs := #[.int .i64 a0_0, .int .i64 a0_1, .bool a0_2, .slice A0_3 l0_3.length c0_3, .slice A0_4 l0_4.length c0_4]) (t := 29) ?hr ?_; (case hd => rfl); (case hg => rfl); (case hr => first | (go_simp; done) | (go_simp; rfl)); intro gb116 hg w14 hbox hb; have n0_ := Aside0.mk (below_step (by repeat (first | (with_reducible first | exact HB.out | apply below_alloc | apply pw_below_drewN | apply below_drew1) | exact HB.out)) hb); have n1_ := Aside0.mk (hbox); have n2_ := Aside0.mk ((by rw [hg]; exact (below_size (by repeat (first | (with_reducible first | exact HB.out | apply below_alloc | apply pw_below_drewN | apply below_drew1) | exact HB.out))) : w.heap.size ≤ gb116)); have n3_ := Aside0.mk ((by rw [hg]; exact (below_size (by repeat (first | (with_reducible first | exact HB.out | apply below_alloc | apply pw_below_drewN | apply below_drew1) | exact HB.out))) : w.heap.size ≤ gb116)); clear HB; have HB := n0_; have BK116 := n1_; have GW116 := n2_; have GE116 := n3_; clear n0_ n1_ n2_ n3_; clear hb hbox hg; have hcz15_0 : w14.cell? ⟨gb116, 0, none⟩ = some (.int .i64 a0_0) := (blk_cell BK116.out 0).trans rfl; have hcz15_1 : w14.cell? ⟨gb116, 1, none⟩ = some (.int .i64 a0_1) := (blk_cell BK116.out 1).trans rfl; have hcz15_2 : w14.cell? ⟨gb116, 2, none⟩ = some (.bool a0_2) := (blk_cell BK116.out 2).trans rfl; have hcz15_3 : w14.cell? ⟨gb116, 3, none⟩ = some (.slice A0_3 l0_3.length c0_3) := (blk_cell BK116.out 3).trans rfl; have hcz15_4 : w14.cell? ⟨gb116, 4, none⟩ = some (.slice A0_4 l0_4.length c0_4) := (blk_cell BK116.out 4).trans rfl; have hfz15_0 := blk_frozen BK116.out 0; have hfz15_1 := blk_frozen BK116.out 1; have hfz15_2 := blk_frozen BK116.out 2; have hfz15_3 := blk_frozen BK116.out 3; have hfz15_4 := blk_frozen BK116.out 4) | ((with_reducible refine gate_callee (f := 17) rfl ?_); refine goesL_ (some 4) rfl rfl Tryd.func17 (by kernel_rfl) rfl #[.agg #[.int .i64 a0_0, .int .i64 a0_1, .bool a0_2, .slice A0_3 l0_3.length c0_3, .slice A0_4 l0_4.length c0_4]] rfl (by (try simp only [List.map_toArray, List.map_cons, List.map_nil]); first | done | rfl | (simp only [List.length_drop, List.length_take]; rfl)) ?_; (with_reducible refine (spec_Size.calls k a0_0 a0_1 a0_2 _ _ l0_3 _ _ l0_4 t117 _ ?side1 ?side2 ?side3 ?side4 A2.out).mono ?_); (case side1 => repeat (first | exact (Kd.C_below HR0_3.out HB.out) | (with_reducible refine Kd.C_alloc ?_ _) | (with_reducible refine Kd.C_drewN ?_ _) | (with_reducible refine Kd.C_drew ?_))); (case side2 => exact HC0_3.out); (case side3 => repeat (first | exact (Kd.C_below HR0_4.out HB.out) | (with_reducible refine Kd.C_alloc ?_ _) | (with_reducible refine Kd.C_drewN ?_ _) | (with_reducible refine Kd.C_drew ?_))); (case side4 => exact HC0_4.out); rintro e w16 ⟨rfl, hb⟩; refine ⟨_, rfl, ?_⟩; have n0_ := Aside0.mk (blk_below (g := gb116) (o := .cells #[.int .i64 a0_0, .int .i64 a0_1, .bool a0_2, .slice A0_3 l0_3.length c0_3, .slice A0_4 l0_4.length c0_4] 29 (0, 0)) (by (with_reducible repeat (first | refine blk_drewN ?_ _ | refine blk_drew ?_ | refine blk_alloc ?_ _)); exact BK116.out) hb); have n1_ := Aside0.mk (below_step (by repeat (first | (with_reducible first | exact HB.out | apply below_alloc | apply pw_below_drewN | apply below_drew1 | refine below_set ?_ GE116.out) | exact HB.out)) hb); clear BK116; clear HB; have BK116 := n0_; have HB := n1_; clear n0_ n1_; (try clear hb); (try clear hb2); (try clear hk); (try clear hi); have hcz17_0 : w16.cell? ⟨gb116, 0, none⟩ = some (.int .i64 a0_0) := (blk_cell BK116.out 0).trans rfl; have hcz17_1 : w16.cell? ⟨gb116, 1, none⟩ = some (.int .i64 a0_1) := (blk_cell BK116.out 1).trans rfl; have hcz17_2 : w16.cell? ⟨gb116, 2, none⟩ = some (.bool a0_2) := (blk_cell BK116.out 2).trans rfl; have hcz17_3 : w16.cell? ⟨gb116, 3, none⟩ = some (.slice A0_3 l0_3.length c0_3) := (blk_cell BK116.out 3).trans rfl; have hcz17_4 : w16.cell? ⟨gb116, 4, none⟩ = some (.slice A0_4 l0_4.length c0_4) := (blk_cell BK116.out 4).trans rfl; have hfz17_0 := blk_frozen BK116.out 0; have hfz17_1 := blk_frozen BK116.out 1; have hfz17_2 := blk_frozen BK116.out 2; have hfz17_3 := blk_frozen BK116.out 3; have hfz17_4 := blk_frozen BK116.out 4) | (go_at_call 18; (with_reducible refine (spec_Deep.calls k a0_0 a0_1 a0_2 _ _ l0_3 _ _ l0_4 t118 _ ?side1 ?side2 ?side3 ?side4 A4.out).mono ?_); (case side1 => repeat (first | exact (Kd.C_below HR0_3.out HB.out) | (with_reducible refine Kd.C_alloc ?_ _) | (with_reducible refine Kd.C_drewN ?_ _) | (with_reducible refine Kd.C_drew ?_))); (case side2 => exact HC0_3.out); (case side3 => repeat (first | exact (Kd.C_below HR0_4.out HB.out) | (with_reducible refine Kd.C_alloc ?_ _) | (with_reducible refine Kd.C_drewN ?_ _) | (with_reducible refine Kd.C_drew ?_))); (case side4 => exact HC0_4.out); rintro e w18 ⟨rfl, hb⟩; have n0_ := Aside0.mk (blk_below (g := gb116) (o := .cells #[.int .i64 a0_0, .int .i64 a0_1, .bool a0_2, .slice A0_3 l0_3.length c0_3, .slice A0_4 l0_4.length c0_4] 29 (0, 0)) (by (with_reducible repeat (first | refine blk_drewN ?_ _ | refine blk_drew ?_ | refine blk_alloc ?_ _)); exact BK116.out) hb); have n1_ := Aside0.mk (below_step (by repeat (first | (with_reducible first | exact HB.out | apply below_alloc | apply pw_below_drewN | apply below_drew1 | refine below_set ?_ GE116.out) | exact HB.out)) hb); clear BK116; clear HB; have BK116 := n0_; have HB := n1_; clear n0_ n1_; (try clear hb); (try clear hb2); (try clear hk); (try clear hi)))
      go_ret
      exact ⟨by first | rfl | (simp [errW_none, errW_some] <;> rfl) | (simp [*, errW_none, errW_some] <;> rfl), by repeat (first | (with_reducible first | exact HB.out | apply below_alloc | apply pw_below_drewN | apply below_drew1 | refine below_set ?_ GE116.out) | exact HB.out)⟩
  · rw [if_neg c3] at H
    have c3b0 : decide (t117 ≤ 5000) = false := decide_eq_false c3
    clear c3
    obtain rfl := Option.some.inj H
    go_enter Tryd.func8, Tryd.ntmps8
    go_wp2_with (first | ((with_reducible refine gate_dst (N := 1) rfl ?_); refine box_event ?hg (N := 1) ?hd (cs := #[.int .i64 a0_0, .int .i64 a0_1, .bool a0_2, .slice A0_3 l0_3.length c0_3, .slice A0_4 l0_4.length c0_4]) (t := 29) ?hr ?_; (case hd => rfl); (case hg => rfl); (case hr => first | (go_simp; done) | (go_simp; rfl)); intro gb116 hg w19 hbox hb; have n0_ := Aside0.mk (below_step (by repeat (first | (with_reducible first | exact HB.out | apply below_alloc | apply pw_below_drewN | apply below_drew1) | exact HB.out)) hb); have n1_ := Aside0.mk (hbox); have n2_ := Aside0.mk ((by rw [hg]; exact (below_size (by repeat (first | (with_reducible first | exact HB.out | apply below_alloc | apply pw_below_drewN | apply below_drew1) | exact HB.out))) : w.heap.size ≤ gb116)); have n3_ := Aside0.mk ((by rw [hg]; exact (below_size (by repeat (first | (with_reducible first | exact HB.out | apply below_alloc | apply pw_below_drewN | apply below_drew1) | exact HB.out))) : w.heap.size ≤ gb116)); clear HB; have HB := n0_; have BK116 := n1_; have GW116 := n2_; have GE116 := n3_; clear n0_ n1_ n2_ n3_; clear hb hbox hg; have hcz20_0 : w19.cell? ⟨gb116, 0, none⟩ = some (.int .i64 a0_0) := (blk_cell BK116.out 0).trans rfl; have hcz20_1 : w19.cell? ⟨gb116, 1, none⟩ = some (.int .i64 a0_1) := (blk_cell BK116.out 1).trans rfl; have hcz20_2 : w19.cell? ⟨gb116, 2, none⟩ = some (.bool a0_2) := (blk_cell BK116.out 2).trans rfl; have hcz20_3 : w19.cell? ⟨gb116, 3, none⟩ = some (.slice A0_3 l0_3.length c0_3) := (blk_cell BK116.out 3).trans rfl; have hcz20_4 : w19.cell? ⟨gb116, 4, none⟩ = some (.slice A0_4 l0_4.length c0_4) := (blk_cell BK116.out 4).trans rfl; have hfz20_0 := blk_frozen BK116.out 0; have hfz20_1 := blk_frozen BK116.out 1; have hfz20_2 := blk_frozen BK116.out 2; have hfz20_3 := blk_frozen BK116.out 3; have hfz20_4 := blk_frozen BK116.out 4) | ((with_reducible refine gate_callee (f := 17) rfl ?_); refine goesL_ (some 4) rfl rfl Tryd.func17 (by kernel_rfl) rfl #[.agg #[.int .i64 a0_0, .int .i64 a0_1, .bool a0_2, .slice A0_3 l0_3.length c0_3, .slice A0_4 l0_4.length c0_4]] rfl (by (try simp only [List.map_toArray, List.map_cons, List.map_nil]); first | done | rfl | (simp only [List.length_drop, List.length_take]; rfl)) ?_; (with_reducible refine (spec_Size.calls k a0_0 a0_1 a0_2 _ _ l0_3 _ _ l0_4 t117 _ ?side1 ?side2 ?side3 ?side4 A2.out).mono ?_); (case side1 => repeat (first | exact (Kd.C_below HR0_3.out HB.out) | (with_reducible refine Kd.C_alloc ?_ _) | (with_reducible refine Kd.C_drewN ?_ _) | (with_reducible refine Kd.C_drew ?_))); (case side2 => exact HC0_3.out); (case side3 => repeat (first | exact (Kd.C_below HR0_4.out HB.out) | (with_reducible refine Kd.C_alloc ?_ _) | (with_reducible refine Kd.C_drewN ?_ _) | (with_reducible refine Kd.C_drew ?_))); (case side4 => exact HC0_4.out); rintro e w21 ⟨rfl, hb⟩; refine ⟨_, rfl, ?_⟩; have n0_ := Aside0.mk (blk_below (g := gb116) (o := .cells #[.int .i64 a0_0, .int .i64 a0_1, .bool a0_2, .slice A0_3 l0_3.length c0_3, .slice A0_4 l0_4.length c0_4] 29 (0, 0)) (by (with_reducible repeat (first | refine blk_drewN ?_ _ | refine blk_drew ?_ | refine blk_alloc ?_ _)); exact BK116.out) hb); have n1_ := Aside0.mk (below_step (by repeat (first | (with_reducible first | exact HB.out | apply below_alloc | apply pw_below_drewN | apply below_drew1 | refine below_set ?_ GE116.out) | exact HB.out)) hb); clear BK116; clear HB; have BK116 := n0_; have HB := n1_; clear n0_ n1_; (try clear hb); (try clear hb2); (try clear hk); (try clear hi)))
    go_ret
    exact ⟨by first | rfl | (simp [errW_none, errW_some] <;> rfl) | (simp [*, errW_none, errW_some] <;> rfl), by repeat (first | (with_reducible first | exact HB.out | apply below_alloc | apply pw_below_drewN | apply below_drew1 | refine below_set ?_ GE116.out) | exact HB.out)⟩

end Go.Proofs.YtejbpbdlolehnaaDoor.PFnEncode
