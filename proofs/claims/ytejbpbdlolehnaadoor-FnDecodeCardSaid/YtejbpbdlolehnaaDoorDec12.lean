/- Parts of the proof of one law, in the order in which they build.  -/
import Derived.Test.YtejbpbdlolehnaaDoorDec2
import Derived.Test.YtejbpbdlolehnaaDoorDec3
namespace Go.Proofs.YtejbpbdlolehnaaDoor.PFnEncode
open Go.RowKit Go.Proofs.YtejbpbdlolehnaaDoorW.PrintWords Go.Proofs.YtejbpbdlolehnaaDoorW.PrintLast Go.Proofs.YtejbpbdlolehnaaDoorW.PrintMore
attribute [local go_sem] max2_int min2_int max_two min_two max_three min_three max_four min_four   -- for this text's walks alone
set_option linter.unusedVariables false
set_option linter.unusedSimpArgs false

/-! ### laws_zzFits1: function 6 -/
def laws_zzFits1.f (a0_0 : Int) (a0_1 : Int) (a0_2 : Bool) (l0_3 : List Int) (l0_4 : List (S25)) : Option (Bool) := if (l0_3.length : Int) > 2147483647 then (some false) else (if (l0_4.length : Int) > 2147483647 then (some false) else (some true))
set_option maxHeartbeats 8000000 in
set_option maxRecDepth 100000 in
theorem laws_zzFits1.calls (a0_0 : Int) (a0_1 : Int) (a0_2 : Bool) (A0_3 : Option Addr) (c0_3 : Nat) (l0_3 : List Int) (A0_4 : Option Addr) (c0_4 : Nat) (l0_4 : List (S25)) (r : Bool) (w : World) (hr0_3 : Kd.C (Kd.int .u8) w A0_3 l0_3.length l0_3) (hc0_3 : l0_3.length ≤ c0_3) (hr0_4 : Kd.C k25 w A0_4 l0_4.length l0_4) (hc0_4 : l0_4.length ≤ c0_4) (h : laws_zzFits1.f a0_0 a0_1 a0_2 l0_3 l0_4 = some r) :
    Calls Tryd.prog 6 #[.agg #[.int .i64 a0_0, .int .i64 a0_1, .bool a0_2, .slice A0_3 l0_3.length c0_3, .slice A0_4 l0_4.length c0_4]] w fun e w' => e = .returned (.bool r) ∧ Below w.heap.size w w' := by
  have hu25 := Tryd.underlying25
  have HR0_3 := Aside0.mk hr0_3
  have HC0_3 := Aside0.mk hc0_3
  clear hr0_3 hc0_3
  have HR0_4 := Aside0.mk hr0_4
  have HC0_4 := Aside0.mk hc0_4
  clear hr0_4 hc0_4
  have HB := Aside0.mk (Below.refl w.heap.size w)
  have H : (if (l0_3.length : Int) > 2147483647 then (some false) else (if (l0_4.length : Int) > 2147483647 then (some false) else (some true))) = some r := h
  clear h
  by_cases c2 : (l0_3.length : Int) > 2147483647
  · rw [if_pos c2] at H
    have c2b0 : decide (2147483647 < (l0_3.length : Int)) = true := decide_eq_true c2
    have c2b1 : decide (2147483647 < l0_3.length) = true := decide_eq_true (by omega)
    clear c2
    obtain rfl := Option.some.inj H
    go_enter Tryd.func6, Tryd.ntmps6
    go_wp2_with (first | ((with_reducible refine gate_dst (N := 1) rfl ?_); refine box_event ?hg (N := 1) ?hd (cs := #[.int .i64 a0_0, .int .i64 a0_1, .bool a0_2, .slice A0_3 l0_3.length c0_3, .slice A0_4 l0_4.length c0_4]) (t := 25) ?hr ?_; (case hd => rfl); (case hg => rfl); (case hr => first | (go_simp; done) | (go_simp; rfl)); intro gb101 hg w3 hbox hb; have n0_ := Aside0.mk (below_step (by repeat (first | (with_reducible first | exact HB.out | apply below_alloc | apply pw_below_drewN | apply below_drew1) | exact HB.out)) hb); have n1_ := Aside0.mk (hbox); have n2_ := Aside0.mk ((by rw [hg]; exact (below_size (by repeat (first | (with_reducible first | exact HB.out | apply below_alloc | apply pw_below_drewN | apply below_drew1) | exact HB.out))) : w.heap.size ≤ gb101)); have n3_ := Aside0.mk ((by rw [hg]; exact (below_size (by repeat (first | (with_reducible first | exact HB.out | apply below_alloc | apply pw_below_drewN | apply below_drew1) | exact HB.out))) : w.heap.size ≤ gb101)); clear HB; have HB := n0_; have BK101 := n1_; have GW101 := n2_; have GE101 := n3_; clear n0_ n1_ n2_ n3_; clear hb hbox hg; have hcz4_0 : w3.cell? ⟨gb101, 0, none⟩ = some (.int .i64 a0_0) := (blk_cell BK101.out 0).trans rfl; have hcz4_1 : w3.cell? ⟨gb101, 1, none⟩ = some (.int .i64 a0_1) := (blk_cell BK101.out 1).trans rfl; have hcz4_2 : w3.cell? ⟨gb101, 2, none⟩ = some (.bool a0_2) := (blk_cell BK101.out 2).trans rfl; have hcz4_3 : w3.cell? ⟨gb101, 3, none⟩ = some (.slice A0_3 l0_3.length c0_3) := (blk_cell BK101.out 3).trans rfl; have hcz4_4 : w3.cell? ⟨gb101, 4, none⟩ = some (.slice A0_4 l0_4.length c0_4) := (blk_cell BK101.out 4).trans rfl; have hfz4_0 := blk_frozen BK101.out 0; have hfz4_1 := blk_frozen BK101.out 1; have hfz4_2 := blk_frozen BK101.out 2; have hfz4_3 := blk_frozen BK101.out 3; have hfz4_4 := blk_frozen BK101.out 4))
    go_ret
    exact ⟨by first | rfl | (simp [errW_none, errW_some] <;> rfl) | (simp [*, errW_none, errW_some] <;> rfl), by repeat (first | (with_reducible first | exact HB.out | apply below_alloc | apply pw_below_drewN | apply below_drew1 | refine below_set ?_ GE101.out) | exact HB.out)⟩
  · rw [if_neg c2] at H
    have c2b0 : decide (2147483647 < (l0_3.length : Int)) = false := decide_eq_false c2
    have c2b1 : decide (2147483647 < l0_3.length) = false := decide_eq_false (by omega)
    clear c2
    by_cases c5 : (l0_4.length : Int) > 2147483647
    · rw [if_pos c5] at H
      have c5b0 : decide (2147483647 < (l0_4.length : Int)) = true := decide_eq_true c5
      have c5b1 : decide (2147483647 < l0_4.length) = true := decide_eq_true (by omega)
      clear c5
      obtain rfl := Option.some.inj H
      go_enter Tryd.func6, Tryd.ntmps6
      go_wp2_with (first | ((with_reducible refine gate_dst (N := 1) rfl ?_); refine box_event ?hg (N := 1) ?hd (cs := #[.int .i64 a0_0, .int .i64 a0_1, .bool a0_2, .slice A0_3 l0_3.length c0_3, .slice A0_4 l0_4.length c0_4]) (t := 25) ?hr ?_; (case hd => rfl); (case hg => rfl); (case hr => first | (go_simp; done) | (go_simp; rfl)); intro gb101 hg w6 hbox hb; have n0_ := Aside0.mk (below_step (by repeat (first | (with_reducible first | exact HB.out | apply below_alloc | apply pw_below_drewN | apply below_drew1) | exact HB.out)) hb); have n1_ := Aside0.mk (hbox); have n2_ := Aside0.mk ((by rw [hg]; exact (below_size (by repeat (first | (with_reducible first | exact HB.out | apply below_alloc | apply pw_below_drewN | apply below_drew1) | exact HB.out))) : w.heap.size ≤ gb101)); have n3_ := Aside0.mk ((by rw [hg]; exact (below_size (by repeat (first | (with_reducible first | exact HB.out | apply below_alloc | apply pw_below_drewN | apply below_drew1) | exact HB.out))) : w.heap.size ≤ gb101)); clear HB; have HB := n0_; have BK101 := n1_; have GW101 := n2_; have GE101 := n3_; clear n0_ n1_ n2_ n3_; clear hb hbox hg; have hcz7_0 : w6.cell? ⟨gb101, 0, none⟩ = some (.int .i64 a0_0) := (blk_cell BK101.out 0).trans rfl; have hcz7_1 : w6.cell? ⟨gb101, 1, none⟩ = some (.int .i64 a0_1) := (blk_cell BK101.out 1).trans rfl; have hcz7_2 : w6.cell? ⟨gb101, 2, none⟩ = some (.bool a0_2) := (blk_cell BK101.out 2).trans rfl; have hcz7_3 : w6.cell? ⟨gb101, 3, none⟩ = some (.slice A0_3 l0_3.length c0_3) := (blk_cell BK101.out 3).trans rfl; have hcz7_4 : w6.cell? ⟨gb101, 4, none⟩ = some (.slice A0_4 l0_4.length c0_4) := (blk_cell BK101.out 4).trans rfl; have hfz7_0 := blk_frozen BK101.out 0; have hfz7_1 := blk_frozen BK101.out 1; have hfz7_2 := blk_frozen BK101.out 2; have hfz7_3 := blk_frozen BK101.out 3; have hfz7_4 := blk_frozen BK101.out 4))
      go_ret
      exact ⟨by first | rfl | (simp [errW_none, errW_some] <;> rfl) | (simp [*, errW_none, errW_some] <;> rfl), by repeat (first | (with_reducible first | exact HB.out | apply below_alloc | apply pw_below_drewN | apply below_drew1 | refine below_set ?_ GE101.out) | exact HB.out)⟩
    · rw [if_neg c5] at H
      have c5b0 : decide (2147483647 < (l0_4.length : Int)) = false := decide_eq_false c5
      have c5b1 : decide (2147483647 < l0_4.length) = false := decide_eq_false (by omega)
      clear c5
      obtain rfl := Option.some.inj H
      go_enter Tryd.func6, Tryd.ntmps6
      go_wp2_with (first | ((with_reducible refine gate_dst (N := 1) rfl ?_); refine box_event ?hg (N := 1) ?hd (cs := #[.int .i64 a0_0, .int .i64 a0_1, .bool a0_2, .slice A0_3 l0_3.length c0_3, .slice A0_4 l0_4.length c0_4]) (t := 25) ?hr ?_; (case hd => rfl); (case hg => rfl); (case hr => first | (go_simp; done) | (go_simp; rfl)); intro gb101 hg w8 hbox hb; have n0_ := Aside0.mk (below_step (by repeat (first | (with_reducible first | exact HB.out | apply below_alloc | apply pw_below_drewN | apply below_drew1) | exact HB.out)) hb); have n1_ := Aside0.mk (hbox); have n2_ := Aside0.mk ((by rw [hg]; exact (below_size (by repeat (first | (with_reducible first | exact HB.out | apply below_alloc | apply pw_below_drewN | apply below_drew1) | exact HB.out))) : w.heap.size ≤ gb101)); have n3_ := Aside0.mk ((by rw [hg]; exact (below_size (by repeat (first | (with_reducible first | exact HB.out | apply below_alloc | apply pw_below_drewN | apply below_drew1) | exact HB.out))) : w.heap.size ≤ gb101)); clear HB; have HB := n0_; have BK101 := n1_; have GW101 := n2_; have GE101 := n3_; clear n0_ n1_ n2_ n3_; clear hb hbox hg; have hcz9_0 : w8.cell? ⟨gb101, 0, none⟩ = some (.int .i64 a0_0) := (blk_cell BK101.out 0).trans rfl; have hcz9_1 : w8.cell? ⟨gb101, 1, none⟩ = some (.int .i64 a0_1) := (blk_cell BK101.out 1).trans rfl; have hcz9_2 : w8.cell? ⟨gb101, 2, none⟩ = some (.bool a0_2) := (blk_cell BK101.out 2).trans rfl; have hcz9_3 : w8.cell? ⟨gb101, 3, none⟩ = some (.slice A0_3 l0_3.length c0_3) := (blk_cell BK101.out 3).trans rfl; have hcz9_4 : w8.cell? ⟨gb101, 4, none⟩ = some (.slice A0_4 l0_4.length c0_4) := (blk_cell BK101.out 4).trans rfl; have hfz9_0 := blk_frozen BK101.out 0; have hfz9_1 := blk_frozen BK101.out 1; have hfz9_2 := blk_frozen BK101.out 2; have hfz9_3 := blk_frozen BK101.out 3; have hfz9_4 := blk_frozen BK101.out 4))
      go_ret
      exact ⟨by first | rfl | (simp [errW_none, errW_some] <;> rfl) | (simp [*, errW_none, errW_some] <;> rfl), by repeat (first | (with_reducible first | exact HB.out | apply below_alloc | apply pw_below_drewN | apply below_drew1 | refine below_set ?_ GE101.out) | exact HB.out)⟩

-- NOT PRINTED: function 16 (laws_within)

-- NOT PRINTED: function 7 (laws_packet)

/-! ### spec_Size: function 17 -/
mutual
def spec_Size.l0 : Nat → Int → List (S29) → Int → Int → Option (Int)
  | 0, _, _, _, _ => none
  | k + 1, x3, x11, x12, x13 => if x13 < x12 then (if 0 ≤ x13 then (if x13 < (x11.length : Int) then ((spec_Size.f k ((rd_T29 x11 x13).f0) ((rd_T29 x11 x13).f1) ((rd_T29 x11 x13).f2) ((rd_T29 x11 x13).f3) ((rd_T29 x11 x13).f4)).bind fun t107 => (spec_Size.l0 k (wrap64 (x3 + t107)) x11 x12 (wrap64 (x13 + 1)))) else (none)) else (none)) else (some x3)
def spec_Size.f : Nat → Int → Int → Bool → List Int → List (S29) → Option (Int)
  | 0, _, _, _, _, _ => none
  | k + 1, a0_0, a0_1, a0_2, l0_3, l0_4 => spec_Size.l0 k (wrap64 (1 + (l0_3.length : Int))) l0_4 (l0_4.length : Int) 0
end
theorem spec_Size.mono_l : ∀ k, (∀ y0 y1 y2 y3 y4, LeO (spec_Size.f k y0 y1 y2 y3 y4) (spec_Size.f (k + 1) y0 y1 y2 y3 y4)) ∧ (∀ y0 y1 y2 y3, LeO (spec_Size.l0 k y0 y1 y2 y3) (spec_Size.l0 (k + 1) y0 y1 y2 y3))
  | 0 => ⟨fun _ _ _ _ _ r h => by simp [spec_Size.f] at h, fun _ _ _ _ r h => by simp [spec_Size.l0] at h⟩
  | k + 1 => by
    obtain ⟨ih0, ih1⟩ := spec_Size.mono_l k
    refine ⟨?_, ?_⟩
    · intro y0 y1 y2 y3 y4
      unfold spec_Size.f
      repeat' first
      | (with_reducible exact ih0 _ _ _ _ _)
      | (with_reducible exact ih1 _ _ _ _)
      | (with_reducible exact LeO.refl _)
      | (with_reducible exact LeO.none _)
      | (with_reducible refine LeO.ite ?_ ?_)
      | (with_reducible refine LeO.bind ?_ (fun _ => ?_))
      | exact ih0 _ _ _ _ _
      | exact ih1 _ _ _ _
      | exact LeO.none _
      | refine LeO.ite ?_ ?_
      | refine LeO.bind ?_ (fun _ => ?_)
    · intro y0 y1 y2 y3
      unfold spec_Size.l0
      repeat' first
      | (with_reducible exact ih0 _ _ _ _ _)
      | (with_reducible exact ih1 _ _ _ _)
      | (with_reducible exact LeO.refl _)
      | (with_reducible exact LeO.none _)
      | (with_reducible refine LeO.ite ?_ ?_)
      | (with_reducible refine LeO.bind ?_ (fun _ => ?_))
      | exact ih0 _ _ _ _ _
      | exact ih1 _ _ _ _
      | exact LeO.none _
      | refine LeO.ite ?_ ?_
      | refine LeO.bind ?_ (fun _ => ?_)
theorem spec_Size.mono : ∀ a0 a1 a2 a3 a4 k, LeO (spec_Size.f k a0 a1 a2 a3 a4) (spec_Size.f (k + 1) a0 a1 a2 a3 a4) := by
  intro a0 a1 a2 a3 a4 k
  obtain ⟨ih0, ih1⟩ := spec_Size.mono_l k
  exact ih0 a0 a1 a2 a3 a4
set_option maxHeartbeats 8000000 in
set_option maxRecDepth 100000 in
theorem spec_Size.calls (k : Nat) : ∀ (a0_0 : Int) (a0_1 : Int) (a0_2 : Bool) (A0_3 : Option Addr) (c0_3 : Nat) (l0_3 : List Int) (A0_4 : Option Addr) (c0_4 : Nat) (l0_4 : List (S29)) (r : Int) (w : World) (hr0_3 : Kd.C (Kd.int .u8) w A0_3 l0_3.length l0_3) (hc0_3 : l0_3.length ≤ c0_3) (hr0_4 : Kd.C k29 w A0_4 l0_4.length l0_4) (hc0_4 : l0_4.length ≤ c0_4) (h : spec_Size.f k a0_0 a0_1 a0_2 l0_3 l0_4 = some r),
    Calls Tryd.prog 17 #[.agg #[.int .i64 a0_0, .int .i64 a0_1, .bool a0_2, .slice A0_3 l0_3.length c0_3, .slice A0_4 l0_4.length c0_4]] w fun e w' => e = .returned (.int .i64 r) ∧ Below w.heap.size w w' := by
  induction k using Nat.strongRecOn with
  | _ k ih =>
  intro a0_0 a0_1 a0_2 A0_3 c0_3 l0_3 A0_4 c0_4 l0_4 r w hr0_3 hc0_3 hr0_4 hc0_4 h
  cases k with
  | zero => exact absurd h (by simp [spec_Size.f])
  | succ k =>
  simp only [spec_Size.f] at h
  have hu29 := Tryd.underlying29
  have HR0_3 := Aside0.mk hr0_3
  have HC0_3 := Aside0.mk hc0_3
  clear hr0_3 hc0_3
  have HR0_4 := Aside0.mk hr0_4
  have HC0_4 := Aside0.mk hc0_4
  clear hr0_4 hc0_4
  have HB := Aside0.mk (Below.refl w.heap.size w)
  have H : (spec_Size.l0 k (wrap64 (1 + (l0_3.length : Int))) l0_4 (l0_4.length : Int) 0) = some r := h
  clear h
  have H' := Aside0.mk H
  clear H
  go_enter Tryd.func17, Tryd.ntmps17
  go_wp2_with (first | ((with_reducible refine gate_dst (N := 1) rfl ?_); refine box_event ?hg (N := 1) ?hd (cs := #[.int .i64 a0_0, .int .i64 a0_1, .bool a0_2, .slice A0_3 l0_3.length c0_3, .slice A0_4 l0_4.length c0_4]) (t := 29) ?hr ?_; (case hd => rfl); (case hg => rfl); (case hr => first | (go_simp; done) | (go_simp; rfl)); intro gb104 hg w2 hbox hb; have n0_ := Aside0.mk (below_step (by repeat (first | (with_reducible first | exact HB.out | apply below_alloc | apply pw_below_drewN | apply below_drew1) | exact HB.out)) hb); have n1_ := Aside0.mk (hbox); have n2_ := Aside0.mk ((by rw [hg]; exact (below_size (by repeat (first | (with_reducible first | exact HB.out | apply below_alloc | apply pw_below_drewN | apply below_drew1) | exact HB.out))) : w.heap.size ≤ gb104)); have n3_ := Aside0.mk ((by rw [hg]; exact (below_size (by repeat (first | (with_reducible first | exact HB.out | apply below_alloc | apply pw_below_drewN | apply below_drew1) | exact HB.out))) : w.heap.size ≤ gb104)); clear HB; have HB := n0_; have BK104 := n1_; have GW104 := n2_; have GE104 := n3_; clear n0_ n1_ n2_ n3_; clear hb hbox hg; have hcz3_0 : w2.cell? ⟨gb104, 0, none⟩ = some (.int .i64 a0_0) := (blk_cell BK104.out 0).trans rfl; have hcz3_1 : w2.cell? ⟨gb104, 1, none⟩ = some (.int .i64 a0_1) := (blk_cell BK104.out 1).trans rfl; have hcz3_2 : w2.cell? ⟨gb104, 2, none⟩ = some (.bool a0_2) := (blk_cell BK104.out 2).trans rfl; have hcz3_3 : w2.cell? ⟨gb104, 3, none⟩ = some (.slice A0_3 l0_3.length c0_3) := (blk_cell BK104.out 3).trans rfl; have hcz3_4 : w2.cell? ⟨gb104, 4, none⟩ = some (.slice A0_4 l0_4.length c0_4) := (blk_cell BK104.out 4).trans rfl; have hfz3_0 := blk_frozen BK104.out 0; have hfz3_1 := blk_frozen BK104.out 1; have hfz3_2 := blk_frozen BK104.out 2; have hfz3_3 := blk_frozen BK104.out 3; have hfz3_4 := blk_frozen BK104.out 4))
  go_loopg [3, 13] k (fun kq v3 v13 w' => ∃ (x3_1 : Int) (x13_1 : Int), v3 = .int .i64 x3_1 ∧ v13 = .int .i64 x13_1 ∧ Aside0 (spec_Size.l0 kq x3_1 l0_4 (l0_4.length : Int) x13_1 = some r) ∧ Aside0 (kq ≤ k) ∧ Aside0 (w'.heap[gb104]? = some (.cells #[.int .i64 a0_0, .int .i64 a0_1, .bool a0_2, (.slice A0_3 l0_3.length c0_3), (.slice A0_4 l0_4.length c0_4)] 29 (0, 0))) ∧ Aside0 (Below w.heap.size w w'))
  case atStart => exact ⟨(wrap64 (1 + (l0_3.length : Int))), (0), (by first | rfl | (simp; done) | (simp [*]; done)), (by first | rfl | (simp; done) | (simp [*]; done)), H', ⟨Nat.le_refl _⟩, ⟨by (with_reducible repeat (first | refine blk_drewN ?_ _ | refine blk_drew ?_ | refine blk_alloc ?_ _)); exact BK104.out⟩, ⟨by repeat (first | (with_reducible first | exact HB.out | apply below_alloc | apply pw_below_drewN | apply below_drew1 | refine below_set ?_ GE104.out) | exact HB.out)⟩⟩
  case round =>
    clear H'
    try clear c1
    try clear p2
    try clear hcz3_0
    try clear hcz3_1
    try clear hcz3_2
    try clear hcz3_3
    try clear hcz3_4
    try clear hfz3_0
    try clear hfz3_1
    try clear hfz3_2
    try clear hfz3_3
    try clear hfz3_4
    obtain ⟨x3_1, x13_1, rfl, rfl, HA, HK1, BK104, HB⟩ := hrel
    cases gk with
    | zero => exact absurd HA.out (by simp [spec_Size.l0])
    | succ k1 =>
      have H := HA.out
      clear HA
      simp only [spec_Size.l0] at H
      by_cases c4 : x13_1 < (l0_4.length : Int)
      · rw [if_pos c4] at H
        have c4b0 : decide (x13_1 < (l0_4.length : Int)) = true := decide_eq_true c4
        clear c4
        by_cases c5 : 0 ≤ x13_1
        · rw [if_pos c5] at H
          have c5b0 : decide (0 ≤ x13_1) = true := decide_eq_true c5
          clear c5
          by_cases c6 : x13_1 < (l0_4.length : Int)
          · rw [if_pos c6] at H
            have c6b0 : decide (x13_1 < (l0_4.length : Int)) = true := decide_eq_true c6
            clear c6
            replace H := Option.bind_eq_some_iff.mp H
            obtain ⟨t107, A70, H⟩ := H
            replace H : (spec_Size.l0 k1 (wrap64 (x3_1 + t107)) l0_4 (l0_4.length : Int) (wrap64 (x13_1 + 1))) = some r := H
            have A7 := Aside0.mk A70
            clear A70
            have H' := Aside0.mk H
            clear H
            have p105 : 0 ≤ (x13_1 : Int) := of_decide_eq_true (by first | (with_reducible assumption) | assumption)
            have q105 : x13_1 < (l0_4.length : Int) := of_decide_eq_true (by first | (with_reducible assumption) | assumption)
            obtain ⟨ad105, A105_3, c105_3, A105_4, c105_4, e105, hx105_0, hx105_1, hx105_2, hx105_3, hx105_4, hl105_3, hi105_3, hl105_4, hi105_4⟩ := at_T29 HR0_4.out x13_1 p105 q105
            cases e105
            replace hx105_0 := (HB.out.cell (World.block_lt_of_cell? w _ hx105_0)).trans hx105_0
            replace hx105_1 := (HB.out.cell (World.block_lt_of_cell? w _ hx105_1)).trans hx105_1
            replace hx105_2 := (HB.out.cell (World.block_lt_of_cell? w _ hx105_2)).trans hx105_2
            replace hx105_3 := (HB.out.cell (World.block_lt_of_cell? w _ hx105_3)).trans hx105_3
            replace hx105_4 := (HB.out.cell (World.block_lt_of_cell? w _ hx105_4)).trans hx105_4
            have HR105_3 := Aside0.mk hi105_3
            have HC105_3 := Aside0.mk hl105_3
            clear hi105_3 hl105_3
            have HR105_4 := Aside0.mk hi105_4
            have HC105_4 := Aside0.mk hl105_4
            clear hi105_4 hl105_4
            replace p105 := eq_true p105
            replace q105 := eq_true q105
            go_wp2_with (first | ((with_reducible refine gate_dst (N := 5) rfl ?_); refine box_event ?hg (N := 5) ?hd (cs := #[.int .i64 0, .int .i64 0, .bool false, .slice none 0 0, .slice none 0 0]) (t := 29) ?hr ?_; (case hd => rfl); (case hg => rfl); (case hr => first | (go_simp; done) | (go_simp; rfl)); intro gb106 hg w8 hbox hb; have n0_ := Aside0.mk (blk_below (g := gb104) (o := .cells #[.int .i64 a0_0, .int .i64 a0_1, .bool a0_2, .slice A0_3 l0_3.length c0_3, .slice (some ad105) l0_4.length c0_4] 29 (0, 0)) (by (with_reducible repeat (first | refine blk_drewN ?_ _ | refine blk_drew ?_ | refine blk_alloc ?_ _)); exact BK104.out) hb); have n1_ := Aside0.mk (below_step (by repeat (first | (with_reducible first | exact HB.out | apply below_alloc | apply pw_below_drewN | apply below_drew1 | refine below_set ?_ GE104.out) | exact HB.out)) hb); have n2_ := Aside0.mk (hbox); have n3_ := Aside0.mk ((by rw [hg]; exact (below_size (by repeat (first | (with_reducible first | exact HB.out | apply below_alloc | apply pw_below_drewN | apply below_drew1 | refine below_set ?_ GE104.out) | exact HB.out))) : w.heap.size ≤ gb106)); have n4_ := Aside0.mk ((by rw [hg]; exact (below_size (by repeat (first | (with_reducible first | exact HB.out | apply below_alloc | apply pw_below_drewN | apply below_drew1 | refine below_set ?_ GE104.out) | exact HB.out))) : w.heap.size ≤ gb106)); have n5_ := Aside0.mk ((by rw [hg]; exact Nat.ne_of_lt (blk_lt (g := gb104) (o := .cells #[.int .i64 a0_0, .int .i64 a0_1, .bool a0_2, .slice A0_3 l0_3.length c0_3, .slice (some ad105) l0_4.length c0_4] 29 (0, 0)) (by (with_reducible repeat (first | refine blk_drewN ?_ _ | refine blk_drew ?_ | refine blk_alloc ?_ _)); exact BK104.out)) : gb104 ≠ gb106)); have n6_ := Aside0.mk ((by rw [hg]; exact Nat.ne_of_gt (blk_lt (g := gb104) (o := .cells #[.int .i64 a0_0, .int .i64 a0_1, .bool a0_2, .slice A0_3 l0_3.length c0_3, .slice (some ad105) l0_4.length c0_4] 29 (0, 0)) (by (with_reducible repeat (first | refine blk_drewN ?_ _ | refine blk_drew ?_ | refine blk_alloc ?_ _)); exact BK104.out)) : gb106 ≠ gb104)); clear BK104; clear HB; have BK104 := n0_; have HB := n1_; have BK106 := n2_; have GW106 := n3_; have GE106 := n4_; have NB104_106 := n5_; have NB106_104 := n6_; clear n0_ n1_ n2_ n3_ n4_ n5_ n6_; clear hb hbox hg; have hnb9 := NB106_104.out; have hnc9 := NB104_106.out; have hcz10_0 : w8.cell? ⟨gb106, 0, none⟩ = some (.int .i64 0) := (blk_cell BK106.out 0).trans rfl; have hcz10_1 : w8.cell? ⟨gb106, 1, none⟩ = some (.int .i64 0) := (blk_cell BK106.out 1).trans rfl; have hcz10_2 : w8.cell? ⟨gb106, 2, none⟩ = some (.bool false) := (blk_cell BK106.out 2).trans rfl; have hcz10_3 : w8.cell? ⟨gb106, 3, none⟩ = some (.slice none 0 0) := (blk_cell BK106.out 3).trans rfl; have hcz10_4 : w8.cell? ⟨gb106, 4, none⟩ = some (.slice none 0 0) := (blk_cell BK106.out 4).trans rfl; have hfz10_0 := blk_frozen BK106.out 0; have hfz10_1 := blk_frozen BK106.out 1; have hfz10_2 := blk_frozen BK106.out 2; have hfz10_3 := blk_frozen BK106.out 3; have hfz10_4 := blk_frozen BK106.out 4) | ((with_reducible refine gate_callee (f := 17) rfl ?_); refine goesL_ (some 19) rfl rfl Tryd.func17 (by kernel_rfl) rfl #[.agg #[.int .i64 ((rd_T29 l0_4 x13_1).f0), .int .i64 ((rd_T29 l0_4 x13_1).f1), .bool ((rd_T29 l0_4 x13_1).f2), .slice A105_3 ((rd_T29 l0_4 x13_1).f3).length c105_3, .slice A105_4 ((rd_T29 l0_4 x13_1).f4).length c105_4]] rfl (by (try simp only [List.map_toArray, List.map_cons, List.map_nil]); first | done | rfl | (simp only [List.length_drop, List.length_take]; rfl)) ?_; (with_reducible refine (ih k1 (by have := HK1.out; omega) ((rd_T29 l0_4 x13_1).f0) ((rd_T29 l0_4 x13_1).f1) ((rd_T29 l0_4 x13_1).f2) _ _ ((rd_T29 l0_4 x13_1).f3) _ _ ((rd_T29 l0_4 x13_1).f4) t107 _ ?side1 ?side2 ?side3 ?side4 A7.out).mono ?_); (case side1 => exact Kd.C_below HR105_3.out (by repeat (first | (with_reducible first | exact HB.out | apply below_alloc | apply pw_below_drewN | apply below_drew1 | refine below_set ?_ GE104.out | refine below_set ?_ GE106.out) | exact HB.out))); (case side2 => exact HC105_3.out); (case side3 => exact Kd.C_below HR105_4.out (by repeat (first | (with_reducible first | exact HB.out | apply below_alloc | apply pw_below_drewN | apply below_drew1 | refine below_set ?_ GE104.out | refine below_set ?_ GE106.out) | exact HB.out))); (case side4 => exact HC105_4.out); rintro e w11 ⟨rfl, hb⟩; refine ⟨_, rfl, ?_⟩; have n0_ := Aside0.mk (blk_below (g := gb104) (o := .cells #[.int .i64 a0_0, .int .i64 a0_1, .bool a0_2, .slice A0_3 l0_3.length c0_3, .slice (some ad105) l0_4.length c0_4] 29 (0, 0)) (by (with_reducible repeat (first | refine blk_drewN ?_ _ | refine blk_drew ?_ | refine blk_alloc ?_ _)); refine blk_far ?_ NB104_106.out _; (with_reducible repeat (first | refine blk_drewN ?_ _ | refine blk_drew ?_ | refine blk_alloc ?_ _)); refine blk_far ?_ NB104_106.out _; (with_reducible repeat (first | refine blk_drewN ?_ _ | refine blk_drew ?_ | refine blk_alloc ?_ _)); refine blk_far ?_ NB104_106.out _; (with_reducible repeat (first | refine blk_drewN ?_ _ | refine blk_drew ?_ | refine blk_alloc ?_ _)); refine blk_far ?_ NB104_106.out _; (with_reducible repeat (first | refine blk_drewN ?_ _ | refine blk_drew ?_ | refine blk_alloc ?_ _)); refine blk_far ?_ NB104_106.out _; (with_reducible repeat (first | refine blk_drewN ?_ _ | refine blk_drew ?_ | refine blk_alloc ?_ _)); exact BK104.out) hb); have n1_ := Aside0.mk (blk_below (g := gb106) (o := .cells #[.int .i64 ((rd_T29 l0_4 x13_1).f0), .int .i64 ((rd_T29 l0_4 x13_1).f1), .bool ((rd_T29 l0_4 x13_1).f2), .slice A105_3 ((rd_T29 l0_4 x13_1).f3).length c105_3, .slice A105_4 ((rd_T29 l0_4 x13_1).f4).length c105_4] 29 (0, 0)) (by (with_reducible repeat (first | refine blk_drewN ?_ _ | refine blk_drew ?_ | refine blk_alloc ?_ _)); refine blk_put (cs := #[.int .i64 ((rd_T29 l0_4 x13_1).f0), .int .i64 ((rd_T29 l0_4 x13_1).f1), .bool ((rd_T29 l0_4 x13_1).f2), .slice A105_3 ((rd_T29 l0_4 x13_1).f3).length c105_3, .slice none 0 0]) ?_ 4 _ rfl; (with_reducible repeat (first | refine blk_drewN ?_ _ | refine blk_drew ?_ | refine blk_alloc ?_ _)); refine blk_put (cs := #[.int .i64 ((rd_T29 l0_4 x13_1).f0), .int .i64 ((rd_T29 l0_4 x13_1).f1), .bool ((rd_T29 l0_4 x13_1).f2), .slice none 0 0, .slice none 0 0]) ?_ 3 _ rfl; (with_reducible repeat (first | refine blk_drewN ?_ _ | refine blk_drew ?_ | refine blk_alloc ?_ _)); refine blk_put (cs := #[.int .i64 ((rd_T29 l0_4 x13_1).f0), .int .i64 ((rd_T29 l0_4 x13_1).f1), .bool false, .slice none 0 0, .slice none 0 0]) ?_ 2 _ rfl; (with_reducible repeat (first | refine blk_drewN ?_ _ | refine blk_drew ?_ | refine blk_alloc ?_ _)); refine blk_put (cs := #[.int .i64 ((rd_T29 l0_4 x13_1).f0), .int .i64 0, .bool false, .slice none 0 0, .slice none 0 0]) ?_ 1 _ rfl; (with_reducible repeat (first | refine blk_drewN ?_ _ | refine blk_drew ?_ | refine blk_alloc ?_ _)); refine blk_put (cs := #[.int .i64 0, .int .i64 0, .bool false, .slice none 0 0, .slice none 0 0]) ?_ 0 _ rfl; (with_reducible repeat (first | refine blk_drewN ?_ _ | refine blk_drew ?_ | refine blk_alloc ?_ _)); exact BK106.out) hb); have n2_ := Aside0.mk (below_step (by repeat (first | (with_reducible first | exact HB.out | apply below_alloc | apply pw_below_drewN | apply below_drew1 | refine below_set ?_ GE104.out | refine below_set ?_ GE106.out) | exact HB.out)) hb); clear BK104; clear BK106; clear HB; have BK104 := n0_; have BK106 := n1_; have HB := n2_; clear n0_ n1_ n2_; (try clear hb); (try clear hb2); (try clear hk); (try clear hi)))
            go_roundg k1
            case measure => have := HK1.out; omega
            case rel => exact ⟨(wrap64 (x3_1 + t107)), (wrap64 (x13_1 + 1)), (by first | rfl | (simp; done) | (simp [*]; done)), (by first | rfl | (simp; done) | (simp [*]; done)), H', ⟨by have := HK1.out; omega⟩, ⟨by (with_reducible repeat (first | refine blk_drewN ?_ _ | refine blk_drew ?_ | refine blk_alloc ?_ _)); exact BK104.out⟩, ⟨by repeat (first | (with_reducible first | exact HB.out | apply below_alloc | apply pw_below_drewN | apply below_drew1 | refine below_set ?_ GE104.out | refine below_set ?_ GE106.out) | exact HB.out)⟩⟩
          · rw [if_neg c6] at H
            exact absurd H (by simp)
        · rw [if_neg c5] at H
          exact absurd H (by simp)
      · rw [if_neg c4] at H
        have c4b0 : decide (x13_1 < (l0_4.length : Int)) = false := decide_eq_false c4
        clear c4
        obtain rfl := Option.some.inj H
        go_wp2
        go_ret
        exact ⟨by first | rfl | (simp [errW_none, errW_some] <;> rfl) | (simp [*, errW_none, errW_some] <;> rfl), by repeat (first | (with_reducible first | exact HB.out | apply below_alloc | apply pw_below_drewN | apply below_drew1 | refine below_set ?_ GE104.out) | exact HB.out)⟩

/-! ### spec_Deep: function 18 -/
mutual
def spec_Deep.l0 : Nat → Int → List (S29) → Int → Int → Option (Int)
  | 0, _, _, _, _ => none
  | k + 1, x3, x7, x8, x9 => if x9 < x8 then (if 0 ≤ x9 then (if x9 < (x7.length : Int) then ((spec_Deep.f k ((rd_T29 x7 x9).f0) ((rd_T29 x7 x9).f1) ((rd_T29 x7 x9).f2) ((rd_T29 x7 x9).f3) ((rd_T29 x7 x9).f4)).bind fun t111 => (spec_Deep.l0 k (mx x3 t111) x7 x8 (wrap64 (x9 + 1)))) else (none)) else (none)) else (some (wrap64 (x3 + 1)))
def spec_Deep.f : Nat → Int → Int → Bool → List Int → List (S29) → Option (Int)
  | 0, _, _, _, _, _ => none
  | k + 1, a0_0, a0_1, a0_2, l0_3, l0_4 => spec_Deep.l0 k 0 l0_4 (l0_4.length : Int) 0
end
theorem spec_Deep.mono_l : ∀ k, (∀ y0 y1 y2 y3 y4, LeO (spec_Deep.f k y0 y1 y2 y3 y4) (spec_Deep.f (k + 1) y0 y1 y2 y3 y4)) ∧ (∀ y0 y1 y2 y3, LeO (spec_Deep.l0 k y0 y1 y2 y3) (spec_Deep.l0 (k + 1) y0 y1 y2 y3))
  | 0 => ⟨fun _ _ _ _ _ r h => by simp [spec_Deep.f] at h, fun _ _ _ _ r h => by simp [spec_Deep.l0] at h⟩
  | k + 1 => by
    obtain ⟨ih0, ih1⟩ := spec_Deep.mono_l k
    refine ⟨?_, ?_⟩
    · intro y0 y1 y2 y3 y4
      unfold spec_Deep.f
      repeat' first
      | (with_reducible exact ih0 _ _ _ _ _)
      | (with_reducible exact ih1 _ _ _ _)
      | (with_reducible exact LeO.refl _)
      | (with_reducible exact LeO.none _)
      | (with_reducible refine LeO.ite ?_ ?_)
      | (with_reducible refine LeO.bind ?_ (fun _ => ?_))
      | exact ih0 _ _ _ _ _
      | exact ih1 _ _ _ _
      | exact LeO.none _
      | refine LeO.ite ?_ ?_
      | refine LeO.bind ?_ (fun _ => ?_)
    · intro y0 y1 y2 y3
      unfold spec_Deep.l0
      repeat' first
      | (with_reducible exact ih0 _ _ _ _ _)
      | (with_reducible exact ih1 _ _ _ _)
      | (with_reducible exact LeO.refl _)
      | (with_reducible exact LeO.none _)
      | (with_reducible refine LeO.ite ?_ ?_)
      | (with_reducible refine LeO.bind ?_ (fun _ => ?_))
      | exact ih0 _ _ _ _ _
      | exact ih1 _ _ _ _
      | exact LeO.none _
      | refine LeO.ite ?_ ?_
      | refine LeO.bind ?_ (fun _ => ?_)
theorem spec_Deep.mono : ∀ a0 a1 a2 a3 a4 k, LeO (spec_Deep.f k a0 a1 a2 a3 a4) (spec_Deep.f (k + 1) a0 a1 a2 a3 a4) := by
  intro a0 a1 a2 a3 a4 k
  obtain ⟨ih0, ih1⟩ := spec_Deep.mono_l k
  exact ih0 a0 a1 a2 a3 a4
set_option maxHeartbeats 8000000 in
set_option maxRecDepth 100000 in
theorem spec_Deep.calls (k : Nat) : ∀ (a0_0 : Int) (a0_1 : Int) (a0_2 : Bool) (A0_3 : Option Addr) (c0_3 : Nat) (l0_3 : List Int) (A0_4 : Option Addr) (c0_4 : Nat) (l0_4 : List (S29)) (r : Int) (w : World) (hr0_3 : Kd.C (Kd.int .u8) w A0_3 l0_3.length l0_3) (hc0_3 : l0_3.length ≤ c0_3) (hr0_4 : Kd.C k29 w A0_4 l0_4.length l0_4) (hc0_4 : l0_4.length ≤ c0_4) (h : spec_Deep.f k a0_0 a0_1 a0_2 l0_3 l0_4 = some r),
    Calls Tryd.prog 18 #[.agg #[.int .i64 a0_0, .int .i64 a0_1, .bool a0_2, .slice A0_3 l0_3.length c0_3, .slice A0_4 l0_4.length c0_4]] w fun e w' => e = .returned (.int .i64 r) ∧ Below w.heap.size w w' := by
  induction k using Nat.strongRecOn with
  | _ k ih =>
  intro a0_0 a0_1 a0_2 A0_3 c0_3 l0_3 A0_4 c0_4 l0_4 r w hr0_3 hc0_3 hr0_4 hc0_4 h
  cases k with
  | zero => exact absurd h (by simp [spec_Deep.f])
  | succ k =>
  simp only [spec_Deep.f] at h
  have hu29 := Tryd.underlying29
  have HR0_3 := Aside0.mk hr0_3
  have HC0_3 := Aside0.mk hc0_3
  clear hr0_3 hc0_3
  have HR0_4 := Aside0.mk hr0_4
  have HC0_4 := Aside0.mk hc0_4
  clear hr0_4 hc0_4
  have HB := Aside0.mk (Below.refl w.heap.size w)
  have H : (spec_Deep.l0 k 0 l0_4 (l0_4.length : Int) 0) = some r := h
  clear h
  have H' := Aside0.mk H
  clear H
  go_enter Tryd.func18, Tryd.ntmps18
  go_wp2_with (first | ((with_reducible refine gate_dst (N := 1) rfl ?_); refine box_event ?hg (N := 1) ?hd (cs := #[.int .i64 a0_0, .int .i64 a0_1, .bool a0_2, .slice A0_3 l0_3.length c0_3, .slice A0_4 l0_4.length c0_4]) (t := 29) ?hr ?_; (case hd => rfl); (case hg => rfl); (case hr => first | (go_simp; done) | (go_simp; rfl)); intro gb108 hg w2 hbox hb; have n0_ := Aside0.mk (below_step (by repeat (first | (with_reducible first | exact HB.out | apply below_alloc | apply pw_below_drewN | apply below_drew1) | exact HB.out)) hb); have n1_ := Aside0.mk (hbox); have n2_ := Aside0.mk ((by rw [hg]; exact (below_size (by repeat (first | (with_reducible first | exact HB.out | apply below_alloc | apply pw_below_drewN | apply below_drew1) | exact HB.out))) : w.heap.size ≤ gb108)); have n3_ := Aside0.mk ((by rw [hg]; exact (below_size (by repeat (first | (with_reducible first | exact HB.out | apply below_alloc | apply pw_below_drewN | apply below_drew1) | exact HB.out))) : w.heap.size ≤ gb108)); clear HB; have HB := n0_; have BK108 := n1_; have GW108 := n2_; have GE108 := n3_; clear n0_ n1_ n2_ n3_; clear hb hbox hg; have hcz3_0 : w2.cell? ⟨gb108, 0, none⟩ = some (.int .i64 a0_0) := (blk_cell BK108.out 0).trans rfl; have hcz3_1 : w2.cell? ⟨gb108, 1, none⟩ = some (.int .i64 a0_1) := (blk_cell BK108.out 1).trans rfl; have hcz3_2 : w2.cell? ⟨gb108, 2, none⟩ = some (.bool a0_2) := (blk_cell BK108.out 2).trans rfl; have hcz3_3 : w2.cell? ⟨gb108, 3, none⟩ = some (.slice A0_3 l0_3.length c0_3) := (blk_cell BK108.out 3).trans rfl; have hcz3_4 : w2.cell? ⟨gb108, 4, none⟩ = some (.slice A0_4 l0_4.length c0_4) := (blk_cell BK108.out 4).trans rfl; have hfz3_0 := blk_frozen BK108.out 0; have hfz3_1 := blk_frozen BK108.out 1; have hfz3_2 := blk_frozen BK108.out 2; have hfz3_3 := blk_frozen BK108.out 3; have hfz3_4 := blk_frozen BK108.out 4))
  go_loopg [3, 9] k (fun kq v3 v9 w' => ∃ (x3_1 : Int) (x9_1 : Int), v3 = .int .i64 x3_1 ∧ v9 = .int .i64 x9_1 ∧ Aside0 (spec_Deep.l0 kq x3_1 l0_4 (l0_4.length : Int) x9_1 = some r) ∧ Aside0 (kq ≤ k) ∧ Aside0 (w'.heap[gb108]? = some (.cells #[.int .i64 a0_0, .int .i64 a0_1, .bool a0_2, (.slice A0_3 l0_3.length c0_3), (.slice A0_4 l0_4.length c0_4)] 29 (0, 0))) ∧ Aside0 (Below w.heap.size w w'))
  case atStart => exact ⟨(0), (0), (by first | rfl | (simp; done) | (simp [*]; done)), (by first | rfl | (simp; done) | (simp [*]; done)), H', ⟨Nat.le_refl _⟩, ⟨by (with_reducible repeat (first | refine blk_drewN ?_ _ | refine blk_drew ?_ | refine blk_alloc ?_ _)); exact BK108.out⟩, ⟨by repeat (first | (with_reducible first | exact HB.out | apply below_alloc | apply pw_below_drewN | apply below_drew1 | refine below_set ?_ GE108.out) | exact HB.out)⟩⟩
  case round =>
    clear H'
    try clear c1
    try clear p2
    try clear hcz3_0
    try clear hcz3_1
    try clear hcz3_2
    try clear hcz3_3
    try clear hcz3_4
    try clear hfz3_0
    try clear hfz3_1
    try clear hfz3_2
    try clear hfz3_3
    try clear hfz3_4
    obtain ⟨x3_1, x9_1, rfl, rfl, HA, HK1, BK108, HB⟩ := hrel
    cases gk with
    | zero => exact absurd HA.out (by simp [spec_Deep.l0])
    | succ k1 =>
      have H := HA.out
      clear HA
      simp only [spec_Deep.l0] at H
      by_cases c4 : x9_1 < (l0_4.length : Int)
      · rw [if_pos c4] at H
        have c4b0 : decide (x9_1 < (l0_4.length : Int)) = true := decide_eq_true c4
        clear c4
        by_cases c5 : 0 ≤ x9_1
        · rw [if_pos c5] at H
          have c5b0 : decide (0 ≤ x9_1) = true := decide_eq_true c5
          clear c5
          by_cases c6 : x9_1 < (l0_4.length : Int)
          · rw [if_pos c6] at H
            have c6b0 : decide (x9_1 < (l0_4.length : Int)) = true := decide_eq_true c6
            clear c6
            replace H := Option.bind_eq_some_iff.mp H
            obtain ⟨t111, A70, H⟩ := H
            replace H : (spec_Deep.l0 k1 (mx x3_1 t111) l0_4 (l0_4.length : Int) (wrap64 (x9_1 + 1))) = some r := H
            have A7 := Aside0.mk A70
            clear A70
            obtain ⟨ji8, hji8⟩ : ∃ j_ : Int, (mx x3_1 t111) = j_ := ⟨_, rfl⟩
            replace H : (spec_Deep.l0 k1 ji8 l0_4 (l0_4.length : Int) (wrap64 (x9_1 + 1))) = some r := by first | (rw [hji8] at H; exact H) | (simp only [hji8] at H ⊢; exact H)
            (try rw [hji8] at A7)
            have hji8_ : (if x3_1 < t111 then t111 else x3_1) = ji8 := hji8
            have H' := Aside0.mk H
            clear H
            have p109 : 0 ≤ (x9_1 : Int) := of_decide_eq_true (by first | (with_reducible assumption) | assumption)
            have q109 : x9_1 < (l0_4.length : Int) := of_decide_eq_true (by first | (with_reducible assumption) | assumption)
            obtain ⟨ad109, A109_3, c109_3, A109_4, c109_4, e109, hx109_0, hx109_1, hx109_2, hx109_3, hx109_4, hl109_3, hi109_3, hl109_4, hi109_4⟩ := at_T29 HR0_4.out x9_1 p109 q109
            cases e109
            replace hx109_0 := (HB.out.cell (World.block_lt_of_cell? w _ hx109_0)).trans hx109_0
            replace hx109_1 := (HB.out.cell (World.block_lt_of_cell? w _ hx109_1)).trans hx109_1
            replace hx109_2 := (HB.out.cell (World.block_lt_of_cell? w _ hx109_2)).trans hx109_2
            replace hx109_3 := (HB.out.cell (World.block_lt_of_cell? w _ hx109_3)).trans hx109_3
            replace hx109_4 := (HB.out.cell (World.block_lt_of_cell? w _ hx109_4)).trans hx109_4
            have HR109_3 := Aside0.mk hi109_3
            have HC109_3 := Aside0.mk hl109_3
            clear hi109_3 hl109_3
            have HR109_4 := Aside0.mk hi109_4
            have HC109_4 := Aside0.mk hl109_4
            clear hi109_4 hl109_4
            replace p109 := eq_true p109
            replace q109 := eq_true q109
            go_wp2_with (first | ((with_reducible refine gate_dst (N := 5) rfl ?_); refine box_event ?hg (N := 5) ?hd (cs := #[.int .i64 0, .int .i64 0, .bool false, .slice none 0 0, .slice none 0 0]) (t := 29) ?hr ?_; (case hd => rfl); (case hg => rfl); (case hr => first | (go_simp; done) | (go_simp; rfl)); intro gb110 hg w9 hbox hb; have n0_ := Aside0.mk (blk_below (g := gb108) (o := .cells #[.int .i64 a0_0, .int .i64 a0_1, .bool a0_2, .slice A0_3 l0_3.length c0_3, .slice (some ad109) l0_4.length c0_4] 29 (0, 0)) (by (with_reducible repeat (first | refine blk_drewN ?_ _ | refine blk_drew ?_ | refine blk_alloc ?_ _)); exact BK108.out) hb); have n1_ := Aside0.mk (below_step (by repeat (first | (with_reducible first | exact HB.out | apply below_alloc | apply pw_below_drewN | apply below_drew1 | refine below_set ?_ GE108.out) | exact HB.out)) hb); have n2_ := Aside0.mk (hbox); have n3_ := Aside0.mk ((by rw [hg]; exact (below_size (by repeat (first | (with_reducible first | exact HB.out | apply below_alloc | apply pw_below_drewN | apply below_drew1 | refine below_set ?_ GE108.out) | exact HB.out))) : w.heap.size ≤ gb110)); have n4_ := Aside0.mk ((by rw [hg]; exact (below_size (by repeat (first | (with_reducible first | exact HB.out | apply below_alloc | apply pw_below_drewN | apply below_drew1 | refine below_set ?_ GE108.out) | exact HB.out))) : w.heap.size ≤ gb110)); have n5_ := Aside0.mk ((by rw [hg]; exact Nat.ne_of_lt (blk_lt (g := gb108) (o := .cells #[.int .i64 a0_0, .int .i64 a0_1, .bool a0_2, .slice A0_3 l0_3.length c0_3, .slice (some ad109) l0_4.length c0_4] 29 (0, 0)) (by (with_reducible repeat (first | refine blk_drewN ?_ _ | refine blk_drew ?_ | refine blk_alloc ?_ _)); exact BK108.out)) : gb108 ≠ gb110)); have n6_ := Aside0.mk ((by rw [hg]; exact Nat.ne_of_gt (blk_lt (g := gb108) (o := .cells #[.int .i64 a0_0, .int .i64 a0_1, .bool a0_2, .slice A0_3 l0_3.length c0_3, .slice (some ad109) l0_4.length c0_4] 29 (0, 0)) (by (with_reducible repeat (first | refine blk_drewN ?_ _ | refine blk_drew ?_ | refine blk_alloc ?_ _)); exact BK108.out)) : gb110 ≠ gb108)); clear BK108; clear HB; have BK108 := n0_; have HB := n1_; have BK110 := n2_; have GW110 := n3_; have GE110 := n4_; have NB108_110 := n5_; have NB110_108 := n6_; clear n0_ n1_ n2_ n3_ n4_ n5_ n6_; clear hb hbox hg; have hnb10 := NB110_108.out; have hnc10 := NB108_110.out; have hcz11_0 : w9.cell? ⟨gb110, 0, none⟩ = some (.int .i64 0) := (blk_cell BK110.out 0).trans rfl; have hcz11_1 : w9.cell? ⟨gb110, 1, none⟩ = some (.int .i64 0) := (blk_cell BK110.out 1).trans rfl; have hcz11_2 : w9.cell? ⟨gb110, 2, none⟩ = some (.bool false) := (blk_cell BK110.out 2).trans rfl; have hcz11_3 : w9.cell? ⟨gb110, 3, none⟩ = some (.slice none 0 0) := (blk_cell BK110.out 3).trans rfl; have hcz11_4 : w9.cell? ⟨gb110, 4, none⟩ = some (.slice none 0 0) := (blk_cell BK110.out 4).trans rfl; have hfz11_0 := blk_frozen BK110.out 0; have hfz11_1 := blk_frozen BK110.out 1; have hfz11_2 := blk_frozen BK110.out 2; have hfz11_3 := blk_frozen BK110.out 3; have hfz11_4 := blk_frozen BK110.out 4) | ((with_reducible refine gate_callee (f := 18) rfl ?_); refine goesL_ (some 15) rfl rfl Tryd.func18 (by kernel_rfl) rfl #[.agg #[.int .i64 ((rd_T29 l0_4 x9_1).f0), .int .i64 ((rd_T29 l0_4 x9_1).f1), .bool ((rd_T29 l0_4 x9_1).f2), .slice A109_3 ((rd_T29 l0_4 x9_1).f3).length c109_3, .slice A109_4 ((rd_T29 l0_4 x9_1).f4).length c109_4]] rfl (by (try simp only [List.map_toArray, List.map_cons, List.map_nil]); first | done | rfl | (simp only [List.length_drop, List.length_take]; rfl)) ?_; (with_reducible refine (ih k1 (by have := HK1.out; omega) ((rd_T29 l0_4 x9_1).f0) ((rd_T29 l0_4 x9_1).f1) ((rd_T29 l0_4 x9_1).f2) _ _ ((rd_T29 l0_4 x9_1).f3) _ _ ((rd_T29 l0_4 x9_1).f4) t111 _ ?side1 ?side2 ?side3 ?side4 A7.out).mono ?_); (case side1 => exact Kd.C_below HR109_3.out (by repeat (first | (with_reducible first | exact HB.out | apply below_alloc | apply pw_below_drewN | apply below_drew1 | refine below_set ?_ GE108.out | refine below_set ?_ GE110.out) | exact HB.out))); (case side2 => exact HC109_3.out); (case side3 => exact Kd.C_below HR109_4.out (by repeat (first | (with_reducible first | exact HB.out | apply below_alloc | apply pw_below_drewN | apply below_drew1 | refine below_set ?_ GE108.out | refine below_set ?_ GE110.out) | exact HB.out))); (case side4 => exact HC109_4.out); rintro e w12 ⟨rfl, hb⟩; refine ⟨_, rfl, ?_⟩; have n0_ := Aside0.mk (blk_below (g := gb108) (o := .cells #[.int .i64 a0_0, .int .i64 a0_1, .bool a0_2, .slice A0_3 l0_3.length c0_3, .slice (some ad109) l0_4.length c0_4] 29 (0, 0)) (by (with_reducible repeat (first | refine blk_drewN ?_ _ | refine blk_drew ?_ | refine blk_alloc ?_ _)); refine blk_far ?_ NB108_110.out _; (with_reducible repeat (first | refine blk_drewN ?_ _ | refine blk_drew ?_ | refine blk_alloc ?_ _)); refine blk_far ?_ NB108_110.out _; (with_reducible repeat (first | refine blk_drewN ?_ _ | refine blk_drew ?_ | refine blk_alloc ?_ _)); refine blk_far ?_ NB108_110.out _; (with_reducible repeat (first | refine blk_drewN ?_ _ | refine blk_drew ?_ | refine blk_alloc ?_ _)); refine blk_far ?_ NB108_110.out _; (with_reducible repeat (first | refine blk_drewN ?_ _ | refine blk_drew ?_ | refine blk_alloc ?_ _)); refine blk_far ?_ NB108_110.out _; (with_reducible repeat (first | refine blk_drewN ?_ _ | refine blk_drew ?_ | refine blk_alloc ?_ _)); exact BK108.out) hb); have n1_ := Aside0.mk (blk_below (g := gb110) (o := .cells #[.int .i64 ((rd_T29 l0_4 x9_1).f0), .int .i64 ((rd_T29 l0_4 x9_1).f1), .bool ((rd_T29 l0_4 x9_1).f2), .slice A109_3 ((rd_T29 l0_4 x9_1).f3).length c109_3, .slice A109_4 ((rd_T29 l0_4 x9_1).f4).length c109_4] 29 (0, 0)) (by (with_reducible repeat (first | refine blk_drewN ?_ _ | refine blk_drew ?_ | refine blk_alloc ?_ _)); refine blk_put (cs := #[.int .i64 ((rd_T29 l0_4 x9_1).f0), .int .i64 ((rd_T29 l0_4 x9_1).f1), .bool ((rd_T29 l0_4 x9_1).f2), .slice A109_3 ((rd_T29 l0_4 x9_1).f3).length c109_3, .slice none 0 0]) ?_ 4 _ rfl; (with_reducible repeat (first | refine blk_drewN ?_ _ | refine blk_drew ?_ | refine blk_alloc ?_ _)); refine blk_put (cs := #[.int .i64 ((rd_T29 l0_4 x9_1).f0), .int .i64 ((rd_T29 l0_4 x9_1).f1), .bool ((rd_T29 l0_4 x9_1).f2), .slice none 0 0, .slice none 0 0]) ?_ 3 _ rfl; (with_reducible repeat (first | refine blk_drewN ?_ _ | refine blk_drew ?_ | refine blk_alloc ?_ _)); refine blk_put (cs := #[.int .i64 ((rd_T29 l0_4 x9_1).f0), .int .i64 ((rd_T29 l0_4 x9_1).f1), .bool false, .slice none 0 0, .slice none 0 0]) ?_ 2 _ rfl; (with_reducible repeat (first | refine blk_drewN ?_ _ | refine blk_drew ?_ | refine blk_alloc ?_ _)); refine blk_put (cs := #[.int .i64 ((rd_T29 l0_4 x9_1).f0), .int .i64 0, .bool false, .slice none 0 0, .slice none 0 0]) ?_ 1 _ rfl; (with_reducible repeat (first | refine blk_drewN ?_ _ | refine blk_drew ?_ | refine blk_alloc ?_ _)); refine blk_put (cs := #[.int .i64 0, .int .i64 0, .bool false, .slice none 0 0, .slice none 0 0]) ?_ 0 _ rfl; (with_reducible repeat (first | refine blk_drewN ?_ _ | refine blk_drew ?_ | refine blk_alloc ?_ _)); exact BK110.out) hb); have n2_ := Aside0.mk (below_step (by repeat (first | (with_reducible first | exact HB.out | apply below_alloc | apply pw_below_drewN | apply below_drew1 | refine below_set ?_ GE108.out | refine below_set ?_ GE110.out) | exact HB.out)) hb); clear BK108; clear BK110; clear HB; have BK108 := n0_; have BK110 := n1_; have HB := n2_; clear n0_ n1_ n2_; (try clear hb); (try clear hb2); (try clear hk); (try clear hi)))
            go_roundg k1
            case measure => have := HK1.out; omega
            case rel => exact ⟨(ji8), (wrap64 (x9_1 + 1)), (by first | rfl | (simp; done) | (simp only [← hji8] <;> (first | rfl | simp)) | (simp [*]; done)), (by first | rfl | (simp; done) | (simp [*]; done)), H', ⟨by have := HK1.out; omega⟩, ⟨by (with_reducible repeat (first | refine blk_drewN ?_ _ | refine blk_drew ?_ | refine blk_alloc ?_ _)); exact BK108.out⟩, ⟨by repeat (first | (with_reducible first | exact HB.out | apply below_alloc | apply pw_below_drewN | apply below_drew1 | refine below_set ?_ GE108.out | refine below_set ?_ GE110.out) | exact HB.out)⟩⟩
          · rw [if_neg c6] at H
            exact absurd H (by simp)
        · rw [if_neg c5] at H
          exact absurd H (by simp)
      · rw [if_neg c4] at H
        have c4b0 : decide (x9_1 < (l0_4.length : Int)) = false := decide_eq_false c4
        clear c4
        obtain rfl := Option.some.inj H
        go_wp2
        go_ret
        exact ⟨by first | rfl | (simp [errW_none, errW_some] <;> rfl) | (simp [*, errW_none, errW_some] <;> rfl), by repeat (first | (with_reducible first | exact HB.out | apply below_alloc | apply pw_below_drewN | apply below_drew1 | refine below_set ?_ GE108.out) | exact HB.out)⟩

end Go.Proofs.YtejbpbdlolehnaaDoor.PFnEncode
