/- Parts of the proof of one law, in the order in which they build. Plain maths: the reference's fits, Kept and Same, and the tree of an answer. · The bytes of an argument are bytes. · laws.FnDecode answers true at every argument. -/
import Derived.Test.YtejbpbdlolehnaaDoorAny1
import Derived.Test.YtejbpbdlolehnaaDoorAny2
import Derived.Test.YtejbpbdlolehnaaDoorAny3
import Derived.Test.YtejbpbdlolehnaaDoorAny4
import Derived.Test.YtejbpbdlolehnaaDoorAny5
import Derived.Test.YtejbpbdlolehnaaDoorAny6
import Derived.Test.YtejbpbdlolehnaaDoorAny7
import Derived.Test.YtejbpbdlolehnaaDoorAny8
import Derived.Test.YtejbpbdlolehnaaDoorAny9
import Derived.Test.YtejbpbdlolehnaaDoorAny10
import Derived.Test.YtejbpbdlolehnaaDoorAny11
import Derived.Test.YtejbpbdlolehnaaDoorAny12
namespace Go.Proofs.YtejbpbdlolehnaaDoor.PFnEncode
open Go.RowKit Go.Proofs.YtejbpbdlolehnaaDoorW.PrintWords Go.Proofs.YtejbpbdlolehnaaDoorW.PrintLast Go.Proofs.YtejbpbdlolehnaaDoorW.PrintMore
attribute [local go_sem] max2_int min2_int max_two min_two max_three min_three max_four min_four   -- for this text's walks alone
set_option linter.unusedVariables false
set_option linter.unusedSimpArgs false

/-! ### spec_Same: function 13 -/
mutual
def spec_Same.j0 : Nat → Bool → Int → Int → Bool → List Int → List (S29) → Int → Int → Bool → List Int → List (S29) → Option (Bool)
  | 0, _, _, _, _, _, _, _, _, _, _, _ => none
  | k + 1, x47, x215000, x215001, x215002, x215003, x215004, x216000, x216001, x216002, x216003, x216004 => if x47 = true then (some false) else (spec_Same.l0 k (x215004.length : Int) 0 x215000 x215001 x215002 x215003 x215004 x216000 x216001 x216002 x216003 x216004)
def spec_Same.l0 : Nat → Int → Int → Int → Int → Bool → List Int → List (S29) → Int → Int → Bool → List Int → List (S29) → Option (Bool)
  | 0, _, _, _, _, _, _, _, _, _, _, _, _ => none
  | k + 1, x50, x51, x215000, x215001, x215002, x215003, x215004, x216000, x216001, x216002, x216003, x216004 => if x51 < x50 then (if 0 ≤ x51 then (if x51 < (x215004.length : Int) then (if x51 < (x216004.length : Int) then ((spec_Same.f k ((rd_T29 x215004 x51).f0) ((rd_T29 x215004 x51).f1) ((rd_T29 x215004 x51).f2) ((rd_T29 x215004 x51).f3) ((rd_T29 x215004 x51).f4) ((rd_T29 x216004 x51).f0) ((rd_T29 x216004 x51).f1) ((rd_T29 x216004 x51).f2) ((rd_T29 x216004 x51).f3) ((rd_T29 x216004 x51).f4)).bind fun t218 => (if t218 = true then (spec_Same.l0 k x50 (wrap64 (x51 + 1)) x215000 x215001 x215002 x215003 x215004 x216000 x216001 x216002 x216003 x216004) else (some false))) else (none)) else (none)) else (none)) else (some true)
def spec_Same.f : Nat → Int → Int → Bool → List Int → List (S29) → Int → Int → Bool → List Int → List (S29) → Option (Bool)
  | 0, _, _, _, _, _, _, _, _, _, _ => none
  | k + 1, a0_0, a0_1, a0_2, l0_3, l0_4, a1_0, a1_1, a1_2, l1_3, l1_4 => if a0_0 = a1_0 then (if a0_1 = a1_1 then (if (a0_2 != a1_2) = true then (spec_Same.j0 k true a0_0 a0_1 a0_2 l0_3 l0_4 a1_0 a1_1 a1_2 l1_3 l1_4) else (if a0_2 = true then (spec_Same.j0 k ((l0_4.length : Int) != (l1_4.length : Int)) a0_0 a0_1 a0_2 l0_3 l0_4 a1_0 a1_1 a1_2 l1_3 l1_4) else (if (strOfNums l0_3).toList = (strOfNums l1_3).toList then (spec_Same.j0 k ((l0_4.length : Int) != (l1_4.length : Int)) a0_0 a0_1 a0_2 l0_3 l0_4 a1_0 a1_1 a1_2 l1_3 l1_4) else (spec_Same.j0 k true a0_0 a0_1 a0_2 l0_3 l0_4 a1_0 a1_1 a1_2 l1_3 l1_4)))) else (spec_Same.j0 k true a0_0 a0_1 a0_2 l0_3 l0_4 a1_0 a1_1 a1_2 l1_3 l1_4)) else (spec_Same.j0 k true a0_0 a0_1 a0_2 l0_3 l0_4 a1_0 a1_1 a1_2 l1_3 l1_4)
end
theorem spec_Same.mono_l : ∀ k, (∀ y0 y1 y2 y3 y4 y5 y6 y7 y8 y9, LeO (spec_Same.f k y0 y1 y2 y3 y4 y5 y6 y7 y8 y9) (spec_Same.f (k + 1) y0 y1 y2 y3 y4 y5 y6 y7 y8 y9)) ∧ (∀ y0 y1 y2 y3 y4 y5 y6 y7 y8 y9 y10, LeO (spec_Same.j0 k y0 y1 y2 y3 y4 y5 y6 y7 y8 y9 y10) (spec_Same.j0 (k + 1) y0 y1 y2 y3 y4 y5 y6 y7 y8 y9 y10)) ∧ (∀ y0 y1 y2 y3 y4 y5 y6 y7 y8 y9 y10 y11, LeO (spec_Same.l0 k y0 y1 y2 y3 y4 y5 y6 y7 y8 y9 y10 y11) (spec_Same.l0 (k + 1) y0 y1 y2 y3 y4 y5 y6 y7 y8 y9 y10 y11))
  | 0 => ⟨fun _ _ _ _ _ _ _ _ _ _ r h => by simp [spec_Same.f] at h, fun _ _ _ _ _ _ _ _ _ _ _ r h => by simp [spec_Same.j0] at h, fun _ _ _ _ _ _ _ _ _ _ _ _ r h => by simp [spec_Same.l0] at h⟩
  | k + 1 => by
    obtain ⟨ih0, ih1, ih2⟩ := spec_Same.mono_l k
    refine ⟨?_, ?_, ?_⟩
    · intro y0 y1 y2 y3 y4 y5 y6 y7 y8 y9
      unfold spec_Same.f
      repeat' first
      | (with_reducible exact ih0 _ _ _ _ _ _ _ _ _ _)
      | (with_reducible exact ih1 _ _ _ _ _ _ _ _ _ _ _)
      | (with_reducible exact ih2 _ _ _ _ _ _ _ _ _ _ _ _)
      | (with_reducible exact LeO.refl _)
      | (with_reducible exact LeO.none _)
      | (with_reducible refine LeO.ite ?_ ?_)
      | (with_reducible refine LeO.bind ?_ (fun _ => ?_))
      | exact ih0 _ _ _ _ _ _ _ _ _ _
      | exact ih1 _ _ _ _ _ _ _ _ _ _ _
      | exact ih2 _ _ _ _ _ _ _ _ _ _ _ _
      | exact LeO.none _
      | refine LeO.ite ?_ ?_
      | refine LeO.bind ?_ (fun _ => ?_)
    · intro y0 y1 y2 y3 y4 y5 y6 y7 y8 y9 y10
      unfold spec_Same.j0
      repeat' first
      | (with_reducible exact ih0 _ _ _ _ _ _ _ _ _ _)
      | (with_reducible exact ih1 _ _ _ _ _ _ _ _ _ _ _)
      | (with_reducible exact ih2 _ _ _ _ _ _ _ _ _ _ _ _)
      | (with_reducible exact LeO.refl _)
      | (with_reducible exact LeO.none _)
      | (with_reducible refine LeO.ite ?_ ?_)
      | (with_reducible refine LeO.bind ?_ (fun _ => ?_))
      | exact ih0 _ _ _ _ _ _ _ _ _ _
      | exact ih1 _ _ _ _ _ _ _ _ _ _ _
      | exact ih2 _ _ _ _ _ _ _ _ _ _ _ _
      | exact LeO.none _
      | refine LeO.ite ?_ ?_
      | refine LeO.bind ?_ (fun _ => ?_)
    · intro y0 y1 y2 y3 y4 y5 y6 y7 y8 y9 y10 y11
      unfold spec_Same.l0
      repeat' first
      | (with_reducible exact ih0 _ _ _ _ _ _ _ _ _ _)
      | (with_reducible exact ih1 _ _ _ _ _ _ _ _ _ _ _)
      | (with_reducible exact ih2 _ _ _ _ _ _ _ _ _ _ _ _)
      | (with_reducible exact LeO.refl _)
      | (with_reducible exact LeO.none _)
      | (with_reducible refine LeO.ite ?_ ?_)
      | (with_reducible refine LeO.bind ?_ (fun _ => ?_))
      | exact ih0 _ _ _ _ _ _ _ _ _ _
      | exact ih1 _ _ _ _ _ _ _ _ _ _ _
      | exact ih2 _ _ _ _ _ _ _ _ _ _ _ _
      | exact LeO.none _
      | refine LeO.ite ?_ ?_
      | refine LeO.bind ?_ (fun _ => ?_)
def spec_Same.T6 : Bool × List (List Nat × List Nat) := (true, [([], []), ([0], [0]), ([], []), ([1, 2], [1, 2]), ([3], [3]), ([], []), ([5], [5]), ([], []), ([6, 7], [6, 7]), ([8], [8]), ([4, 9], [4, 9]), ([10], [10])])
def spec_Same.B6 : List Nat := [0, 1, 0, 7, 15, 0, 32, 0, 224, 480, 1023, 2047]
theorem spec_Same.tab6 : rtab .any (opsOf Tryd.f13 6) = spec_Same.T6 := by kernel_rfl
theorem spec_Same.bits6 : waitsOk spec_Same.T6.2 spec_Same.B6 = true := by kernel_rfl
set_option maxHeartbeats 8000000 in
set_option maxRecDepth 100000 in
theorem spec_Same.calls (k : Nat) : ∀ (a0_0 : Int) (a0_1 : Int) (a0_2 : Bool) (A0_3 : Option Addr) (c0_3 : Nat) (l0_3 : List Int) (A0_4 : Option Addr) (c0_4 : Nat) (l0_4 : List (S29)) (a1_0 : Int) (a1_1 : Int) (a1_2 : Bool) (A1_3 : Option Addr) (c1_3 : Nat) (l1_3 : List Int) (A1_4 : Option Addr) (c1_4 : Nat) (l1_4 : List (S29)) (r : Bool) (w : World) (hr0_3 : Kd.C (Kd.int .u8) w A0_3 l0_3.length l0_3) (hc0_3 : l0_3.length ≤ c0_3) (hr0_4 : Kd.C k29 w A0_4 l0_4.length l0_4) (hc0_4 : l0_4.length ≤ c0_4) (hr1_3 : Kd.C (Kd.int .u8) w A1_3 l1_3.length l1_3) (hc1_3 : l1_3.length ≤ c1_3) (hr1_4 : Kd.C k29 w A1_4 l1_4.length l1_4) (hc1_4 : l1_4.length ≤ c1_4) (h : spec_Same.f k a0_0 a0_1 a0_2 l0_3 l0_4 a1_0 a1_1 a1_2 l1_3 l1_4 = some r),
    Calls Tryd.prog 13 #[.agg #[.int .i64 a0_0, .int .i64 a0_1, .bool a0_2, .slice A0_3 l0_3.length c0_3, .slice A0_4 l0_4.length c0_4], .agg #[.int .i64 a1_0, .int .i64 a1_1, .bool a1_2, .slice A1_3 l1_3.length c1_3, .slice A1_4 l1_4.length c1_4]] w fun e w' => e = .returned (.bool r) ∧ Below w.heap.size w w' := by
  induction k using Nat.strongRecOn with
  | _ k ih =>
  intro a0_0 a0_1 a0_2 A0_3 c0_3 l0_3 A0_4 c0_4 l0_4 a1_0 a1_1 a1_2 A1_3 c1_3 l1_3 A1_4 c1_4 l1_4 r w hr0_3 hc0_3 hr0_4 hc0_4 hr1_3 hc1_3 hr1_4 hc1_4 h
  cases k with
  | zero => exact absurd h (by simp [spec_Same.f])
  | succ k =>
  simp only [spec_Same.f] at h
  have hu29 := Tryd.underlying29
  have HR0_3 := Aside0.mk hr0_3
  have HC0_3 := Aside0.mk hc0_3
  clear hr0_3 hc0_3
  have HR0_4 := Aside0.mk hr0_4
  have HC0_4 := Aside0.mk hc0_4
  clear hr0_4 hc0_4
  have HR1_3 := Aside0.mk hr1_3
  have HC1_3 := Aside0.mk hc1_3
  clear hr1_3 hc1_3
  have HR1_4 := Aside0.mk hr1_4
  have HC1_4 := Aside0.mk hc1_4
  clear hr1_4 hc1_4
  have HB := Aside0.mk (Below.refl w.heap.size w)
  have H : (if a0_0 = a1_0 then (if a0_1 = a1_1 then (if (a0_2 != a1_2) = true then (spec_Same.j0 k true a0_0 a0_1 a0_2 l0_3 l0_4 a1_0 a1_1 a1_2 l1_3 l1_4) else (if a0_2 = true then (spec_Same.j0 k ((l0_4.length : Int) != (l1_4.length : Int)) a0_0 a0_1 a0_2 l0_3 l0_4 a1_0 a1_1 a1_2 l1_3 l1_4) else (if (strOfNums l0_3).toList = (strOfNums l1_3).toList then (spec_Same.j0 k ((l0_4.length : Int) != (l1_4.length : Int)) a0_0 a0_1 a0_2 l0_3 l0_4 a1_0 a1_1 a1_2 l1_3 l1_4) else (spec_Same.j0 k true a0_0 a0_1 a0_2 l0_3 l0_4 a1_0 a1_1 a1_2 l1_3 l1_4)))) else (spec_Same.j0 k true a0_0 a0_1 a0_2 l0_3 l0_4 a1_0 a1_1 a1_2 l1_3 l1_4)) else (spec_Same.j0 k true a0_0 a0_1 a0_2 l0_3 l0_4 a1_0 a1_1 a1_2 l1_3 l1_4)) = some r := h
  clear h
  have HC3 := Aside0.mk H
  clear H
  go_enter Tryd.func13, Tryd.ntmps13
  go_upto_region 1 with (first | ((with_reducible refine gate_dst (N := 2) rfl ?_); (try (refine gate_guard (by rfl) ?_; dsimp only)); refine box_event ?hg (N := 2) ?hd (cs := #[.int .i64 a0_0, .int .i64 a0_1, .bool a0_2, .slice A0_3 l0_3.length c0_3, .slice A0_4 l0_4.length c0_4]) (t := 29) ?hr ?_; (case hd => rfl); (case hg => rfl); (case hr => first | (go_simp; done) | (go_simp; rfl)); intro gb214 hg w4 hbox hb; have n0_ := Aside0.mk (below_step (by repeat (first | (with_reducible first | exact HB.out | apply below_alloc | apply pw_below_drewN | apply below_drew1) | exact HB.out)) hb); have n1_ := Aside0.mk (hbox); have n2_ := Aside0.mk ((by rw [hg]; exact (below_size (by repeat (first | (with_reducible first | exact HB.out | apply below_alloc | apply pw_below_drewN | apply below_drew1) | exact HB.out))) : w.heap.size ≤ gb214)); have n3_ := Aside0.mk ((by rw [hg]; exact (below_size (by repeat (first | (with_reducible first | exact HB.out | apply below_alloc | apply pw_below_drewN | apply below_drew1) | exact HB.out))) : w.heap.size ≤ gb214)); clear HB; have HB := n0_; have BK214 := n1_; have GW214 := n2_; have GE214 := n3_; clear n0_ n1_ n2_ n3_; clear hb hbox hg) | ((with_reducible refine gate_dst (N := 3) rfl ?_); (try (refine gate_guard (by rfl) ?_; dsimp only)); refine box_event ?hg (N := 3) ?hd (cs := #[.int .i64 a1_0, .int .i64 a1_1, .bool a1_2, .slice A1_3 l1_3.length c1_3, .slice A1_4 l1_4.length c1_4]) (t := 29) ?hr ?_; (case hd => rfl); (case hg => rfl); (case hr => first | (go_simp; done) | (go_simp; rfl)); intro gb215 hg w5 hbox hb; have n0_ := Aside0.mk (blk_below (g := gb214) (o := .cells #[.int .i64 a0_0, .int .i64 a0_1, .bool a0_2, .slice A0_3 l0_3.length c0_3, .slice A0_4 l0_4.length c0_4] 29 (0, 0)) (by (with_reducible repeat (first | refine blk_drewN ?_ _ | refine blk_drew ?_ | refine blk_alloc ?_ _)); exact BK214.out) hb); have n1_ := Aside0.mk (below_step (by repeat (first | (with_reducible first | exact HB.out | apply below_alloc | apply pw_below_drewN | apply below_drew1 | refine below_set ?_ GE214.out) | exact HB.out)) hb); have n2_ := Aside0.mk (hbox); have n3_ := Aside0.mk ((by rw [hg]; exact (below_size (by repeat (first | (with_reducible first | exact HB.out | apply below_alloc | apply pw_below_drewN | apply below_drew1 | refine below_set ?_ GE214.out) | exact HB.out))) : w.heap.size ≤ gb215)); have n4_ := Aside0.mk ((by rw [hg]; exact (below_size (by repeat (first | (with_reducible first | exact HB.out | apply below_alloc | apply pw_below_drewN | apply below_drew1 | refine below_set ?_ GE214.out) | exact HB.out))) : w.heap.size ≤ gb215)); have n5_ := Aside0.mk ((by rw [hg]; exact Nat.ne_of_lt (blk_lt (g := gb214) (o := .cells #[.int .i64 a0_0, .int .i64 a0_1, .bool a0_2, .slice A0_3 l0_3.length c0_3, .slice A0_4 l0_4.length c0_4] 29 (0, 0)) (by (with_reducible repeat (first | refine blk_drewN ?_ _ | refine blk_drew ?_ | refine blk_alloc ?_ _)); exact BK214.out)) : gb214 ≠ gb215)); have n6_ := Aside0.mk ((by rw [hg]; exact Nat.ne_of_gt (blk_lt (g := gb214) (o := .cells #[.int .i64 a0_0, .int .i64 a0_1, .bool a0_2, .slice A0_3 l0_3.length c0_3, .slice A0_4 l0_4.length c0_4] 29 (0, 0)) (by (with_reducible repeat (first | refine blk_drewN ?_ _ | refine blk_drew ?_ | refine blk_alloc ?_ _)); exact BK214.out)) : gb215 ≠ gb214)); clear BK214; clear HB; have BK214 := n0_; have HB := n1_; have BK215 := n2_; have GW215 := n3_; have GE215 := n4_; have NB214_215 := n5_; have NB215_214 := n6_; clear n0_ n1_ n2_ n3_ n4_ n5_ n6_; clear hb hbox hg))
  (try simp only [Act.put, List.setIfInBounds_toArray, List.set_cons_zero, List.set_cons_succ])
  go_cut [47] (fun v47 wc => ∃ (kq : Nat) (x47_2 : Bool), v47 = .bool x47_2 ∧ Aside0 (spec_Same.j0 kq x47_2 a0_0 a0_1 a0_2 l0_3 l0_4 a1_0 a1_1 a1_2 l1_3 l1_4 = some r) ∧ Aside0 (kq ≤ k) ∧ Aside0 (wc.heap[gb214]? = some (.cells #[.int .i64 a0_0, .int .i64 a0_1, .bool a0_2, (.slice A0_3 l0_3.length c0_3), (.slice A0_4 l0_4.length c0_4)] 29 (0, 0))) ∧ Aside0 (wc.heap[gb215]? = some (.cells #[.int .i64 a1_0, .int .i64 a1_1, .bool a1_2, (.slice A1_3 l1_3.length c1_3), (.slice A1_4 l1_4.length c1_4)] 29 (0, 0))) ∧ Aside0 (Below w.heap.size w wc))
  case first =>
    have H := HC3.out
    clear HC3
    by_cases c6 : a0_0 = a1_0
    · rw [if_pos c6] at H
      have c6b0 : (a0_0 == a1_0) = true := beq_iff_eq.mpr c6
      have c6b1 : (a0_0 != a1_0) = false := bne_eq_false_iff_eq.mpr c6
      clear c6
      (first | rw [c6b0] | (simp only [i64_w, i32_w]; rw [c6b0]) | skip)
      by_cases c7 : a0_1 = a1_1
      · rw [if_pos c7] at H
        have c7b0 : (a0_1 == a1_1) = true := beq_iff_eq.mpr c7
        have c7b1 : (a0_1 != a1_1) = false := bne_eq_false_iff_eq.mpr c7
        clear c7
        by_cases c8 : (a0_2 != a1_2) = true
        · rw [if_pos c8] at H
          have c8b0 : (a0_2 != a1_2) = true := c8
          (try (have c8b1 : decide (a0_2 = a1_2) = false := by simpa using c8))
          (try (have c8b2 : (a0_2 == a1_2) = false := by simpa using c8))
          (try (have c8b3 : ¬ (a0_2 = a1_2) := by simpa using c8))
          clear c8
          have H' := Aside0.mk H
          clear H
          have hnb9 := NB214_215.out
          have hnc9 := NB215_214.out
          have hcz10_0 : w5.cell? ⟨gb214, 0, none⟩ = some (.int .i64 a0_0) := (blk_cell BK214.out 0).trans rfl
          have hcz10_1 : w5.cell? ⟨gb214, 1, none⟩ = some (.int .i64 a0_1) := (blk_cell BK214.out 1).trans rfl
          have hcz10_2 : w5.cell? ⟨gb214, 2, none⟩ = some (.bool a0_2) := (blk_cell BK214.out 2).trans rfl
          have hcz10_3 : w5.cell? ⟨gb214, 3, none⟩ = some (.slice A0_3 l0_3.length c0_3) := (blk_cell BK214.out 3).trans rfl
          have hcz10_4 : w5.cell? ⟨gb214, 4, none⟩ = some (.slice A0_4 l0_4.length c0_4) := (blk_cell BK214.out 4).trans rfl
          have hfz10_0 := blk_frozen BK214.out 0
          have hfz10_1 := blk_frozen BK214.out 1
          have hfz10_2 := blk_frozen BK214.out 2
          have hfz10_3 := blk_frozen BK214.out 3
          have hfz10_4 := blk_frozen BK214.out 4
          have hcz11_0 : w5.cell? ⟨gb215, 0, none⟩ = some (.int .i64 a1_0) := (blk_cell BK215.out 0).trans rfl
          have hcz11_1 : w5.cell? ⟨gb215, 1, none⟩ = some (.int .i64 a1_1) := (blk_cell BK215.out 1).trans rfl
          have hcz11_2 : w5.cell? ⟨gb215, 2, none⟩ = some (.bool a1_2) := (blk_cell BK215.out 2).trans rfl
          have hcz11_3 : w5.cell? ⟨gb215, 3, none⟩ = some (.slice A1_3 l1_3.length c1_3) := (blk_cell BK215.out 3).trans rfl
          have hcz11_4 : w5.cell? ⟨gb215, 4, none⟩ = some (.slice A1_4 l1_4.length c1_4) := (blk_cell BK215.out 4).trans rfl
          have hfz11_0 := blk_frozen BK215.out 0
          have hfz11_1 := blk_frozen BK215.out 1
          have hfz11_2 := blk_frozen BK215.out 2
          have hfz11_3 := blk_frozen BK215.out 3
          have hfz11_4 := blk_frozen BK215.out 4
          go_wp2
          go_meet
          case rel => exact ⟨_, (true), (by first | rfl | (simp; done) | (simp [*]; done)), H', ⟨by first | omega | exact Nat.le_refl _⟩, ⟨by (with_reducible repeat (first | refine blk_drewN ?_ _ | refine blk_drew ?_ | refine blk_alloc ?_ _)); exact BK214.out⟩, ⟨by (with_reducible repeat (first | refine blk_drewN ?_ _ | refine blk_drew ?_ | refine blk_alloc ?_ _)); exact BK215.out⟩, ⟨by repeat (first | (with_reducible first | exact HB.out | apply below_alloc | apply pw_below_drewN | apply below_drew1 | refine below_set ?_ GE214.out | refine below_set ?_ GE215.out) | exact HB.out)⟩⟩
        · rw [if_neg c8] at H
          have c8b0 : (a0_2 != a1_2) = false := by simpa using c8
          (try (have c8b1 : decide (a0_2 = a1_2) = true := by simpa using c8))
          (try (have c8b2 : (a0_2 == a1_2) = true := by simpa using c8))
          clear c8
          by_cases c12 : a0_2 = true
          · subst c12
            have H1 : (spec_Same.j0 k ((l0_4.length : Int) != (l1_4.length : Int)) a0_0 a0_1 true l0_3 l0_4 a1_0 a1_1 a1_2 l1_3 l1_4) = some r := by rw [if_pos rfl] at H; exact H
            clear H
            have H := H1
            clear H1
            have H' := Aside0.mk H
            clear H
            have hnb13 := NB214_215.out
            have hnc13 := NB215_214.out
            have hcz14_0 : w5.cell? ⟨gb214, 0, none⟩ = some (.int .i64 a0_0) := (blk_cell BK214.out 0).trans rfl
            have hcz14_1 : w5.cell? ⟨gb214, 1, none⟩ = some (.int .i64 a0_1) := (blk_cell BK214.out 1).trans rfl
            have hcz14_2 : w5.cell? ⟨gb214, 2, none⟩ = some (.bool true) := (blk_cell BK214.out 2).trans rfl
            have hcz14_3 : w5.cell? ⟨gb214, 3, none⟩ = some (.slice A0_3 l0_3.length c0_3) := (blk_cell BK214.out 3).trans rfl
            have hcz14_4 : w5.cell? ⟨gb214, 4, none⟩ = some (.slice A0_4 l0_4.length c0_4) := (blk_cell BK214.out 4).trans rfl
            have hfz14_0 := blk_frozen BK214.out 0
            have hfz14_1 := blk_frozen BK214.out 1
            have hfz14_2 := blk_frozen BK214.out 2
            have hfz14_3 := blk_frozen BK214.out 3
            have hfz14_4 := blk_frozen BK214.out 4
            have hcz15_0 : w5.cell? ⟨gb215, 0, none⟩ = some (.int .i64 a1_0) := (blk_cell BK215.out 0).trans rfl
            have hcz15_1 : w5.cell? ⟨gb215, 1, none⟩ = some (.int .i64 a1_1) := (blk_cell BK215.out 1).trans rfl
            have hcz15_2 : w5.cell? ⟨gb215, 2, none⟩ = some (.bool a1_2) := (blk_cell BK215.out 2).trans rfl
            have hcz15_3 : w5.cell? ⟨gb215, 3, none⟩ = some (.slice A1_3 l1_3.length c1_3) := (blk_cell BK215.out 3).trans rfl
            have hcz15_4 : w5.cell? ⟨gb215, 4, none⟩ = some (.slice A1_4 l1_4.length c1_4) := (blk_cell BK215.out 4).trans rfl
            have hfz15_0 := blk_frozen BK215.out 0
            have hfz15_1 := blk_frozen BK215.out 1
            have hfz15_2 := blk_frozen BK215.out 2
            have hfz15_3 := blk_frozen BK215.out 3
            have hfz15_4 := blk_frozen BK215.out 4
            go_wp2
            go_meet
            case rel => exact ⟨_, (((l0_4.length : Int) != (l1_4.length : Int))), (by first | rfl | (simp; done) | (simp [*]; done)), H', ⟨by first | omega | exact Nat.le_refl _⟩, ⟨by (with_reducible repeat (first | refine blk_drewN ?_ _ | refine blk_drew ?_ | refine blk_alloc ?_ _)); exact BK214.out⟩, ⟨by (with_reducible repeat (first | refine blk_drewN ?_ _ | refine blk_drew ?_ | refine blk_alloc ?_ _)); exact BK215.out⟩, ⟨by repeat (first | (with_reducible first | exact HB.out | apply below_alloc | apply pw_below_drewN | apply below_drew1 | refine below_set ?_ GE214.out | refine below_set ?_ GE215.out) | exact HB.out)⟩⟩
          · replace c12 := Bool.eq_false_iff.mpr c12
            subst c12
            have H1 : (if (strOfNums l0_3).toList = (strOfNums l1_3).toList then (spec_Same.j0 k ((l0_4.length : Int) != (l1_4.length : Int)) a0_0 a0_1 false l0_3 l0_4 a1_0 a1_1 a1_2 l1_3 l1_4) else (spec_Same.j0 k true a0_0 a0_1 false l0_3 l0_4 a1_0 a1_1 a1_2 l1_3 l1_4)) = some r := by rw [if_neg (show ¬ (false = true) by decide)] at H; exact H
            clear H
            have H := H1
            clear H1
            by_cases c16 : (strOfNums l0_3).toList = (strOfNums l1_3).toList
            · rw [if_pos c16] at H
              have c16b0 : ((strOfNums l0_3).toList == (strOfNums l1_3).toList) = true := beq_iff_eq.mpr c16
              have c16b1 : ((strOfNums l0_3).toList != (strOfNums l1_3).toList) = false := bne_eq_false_iff_eq.mpr c16
              clear c16
              have H' := Aside0.mk H
              clear H
              have hnb17 := NB214_215.out
              have hnc17 := NB215_214.out
              have hcz18_0 : w5.cell? ⟨gb214, 0, none⟩ = some (.int .i64 a0_0) := (blk_cell BK214.out 0).trans rfl
              have hcz18_1 : w5.cell? ⟨gb214, 1, none⟩ = some (.int .i64 a0_1) := (blk_cell BK214.out 1).trans rfl
              have hcz18_2 : w5.cell? ⟨gb214, 2, none⟩ = some (.bool false) := (blk_cell BK214.out 2).trans rfl
              have hcz18_3 : w5.cell? ⟨gb214, 3, none⟩ = some (.slice A0_3 l0_3.length c0_3) := (blk_cell BK214.out 3).trans rfl
              have hcz18_4 : w5.cell? ⟨gb214, 4, none⟩ = some (.slice A0_4 l0_4.length c0_4) := (blk_cell BK214.out 4).trans rfl
              have hfz18_0 := blk_frozen BK214.out 0
              have hfz18_1 := blk_frozen BK214.out 1
              have hfz18_2 := blk_frozen BK214.out 2
              have hfz18_3 := blk_frozen BK214.out 3
              have hfz18_4 := blk_frozen BK214.out 4
              have hcz19_0 : w5.cell? ⟨gb215, 0, none⟩ = some (.int .i64 a1_0) := (blk_cell BK215.out 0).trans rfl
              have hcz19_1 : w5.cell? ⟨gb215, 1, none⟩ = some (.int .i64 a1_1) := (blk_cell BK215.out 1).trans rfl
              have hcz19_2 : w5.cell? ⟨gb215, 2, none⟩ = some (.bool a1_2) := (blk_cell BK215.out 2).trans rfl
              have hcz19_3 : w5.cell? ⟨gb215, 3, none⟩ = some (.slice A1_3 l1_3.length c1_3) := (blk_cell BK215.out 3).trans rfl
              have hcz19_4 : w5.cell? ⟨gb215, 4, none⟩ = some (.slice A1_4 l1_4.length c1_4) := (blk_cell BK215.out 4).trans rfl
              have hfz19_0 := blk_frozen BK215.out 0
              have hfz19_1 := blk_frozen BK215.out 1
              have hfz19_2 := blk_frozen BK215.out 2
              have hfz19_3 := blk_frozen BK215.out 3
              have hfz19_4 := blk_frozen BK215.out 4
              have hcv20 := Kd.C_string (P := Tryd.prog) (A := A0_3) (c := c0_3) Tryd.underlying22 Tryd.underlying5 Tryd.underlying9 (Kd.C_below HR0_3.out HB.out)
              have hcv21 := Kd.C_string (P := Tryd.prog) (A := A1_3) (c := c1_3) Tryd.underlying22 Tryd.underlying5 Tryd.underlying9 (Kd.C_below HR1_3.out HB.out)
              go_wp2
              go_meet
              case rel => exact ⟨_, (((l0_4.length : Int) != (l1_4.length : Int))), (by first | rfl | (simp; done) | (simp [*]; done)), H', ⟨by first | omega | exact Nat.le_refl _⟩, ⟨by (with_reducible repeat (first | refine blk_drewN ?_ _ | refine blk_drew ?_ | refine blk_alloc ?_ _)); exact BK214.out⟩, ⟨by (with_reducible repeat (first | refine blk_drewN ?_ _ | refine blk_drew ?_ | refine blk_alloc ?_ _)); exact BK215.out⟩, ⟨by repeat (first | (with_reducible first | exact HB.out | apply below_alloc | apply pw_below_drewN | apply below_drew1 | refine below_set ?_ GE214.out | refine below_set ?_ GE215.out) | exact HB.out)⟩⟩
            · rw [if_neg c16] at H
              have c16b0 : ((strOfNums l0_3).toList == (strOfNums l1_3).toList) = false := beq_eq_false_iff_ne.mpr c16
              have c16b1 : ((strOfNums l0_3).toList != (strOfNums l1_3).toList) = true := bne_iff_ne.mpr c16
              have H' := Aside0.mk H
              clear H
              have hnb22 := NB214_215.out
              have hnc22 := NB215_214.out
              have hcz23_0 : w5.cell? ⟨gb214, 0, none⟩ = some (.int .i64 a0_0) := (blk_cell BK214.out 0).trans rfl
              have hcz23_1 : w5.cell? ⟨gb214, 1, none⟩ = some (.int .i64 a0_1) := (blk_cell BK214.out 1).trans rfl
              have hcz23_2 : w5.cell? ⟨gb214, 2, none⟩ = some (.bool false) := (blk_cell BK214.out 2).trans rfl
              have hcz23_3 : w5.cell? ⟨gb214, 3, none⟩ = some (.slice A0_3 l0_3.length c0_3) := (blk_cell BK214.out 3).trans rfl
              have hcz23_4 : w5.cell? ⟨gb214, 4, none⟩ = some (.slice A0_4 l0_4.length c0_4) := (blk_cell BK214.out 4).trans rfl
              have hfz23_0 := blk_frozen BK214.out 0
              have hfz23_1 := blk_frozen BK214.out 1
              have hfz23_2 := blk_frozen BK214.out 2
              have hfz23_3 := blk_frozen BK214.out 3
              have hfz23_4 := blk_frozen BK214.out 4
              have hcz24_0 : w5.cell? ⟨gb215, 0, none⟩ = some (.int .i64 a1_0) := (blk_cell BK215.out 0).trans rfl
              have hcz24_1 : w5.cell? ⟨gb215, 1, none⟩ = some (.int .i64 a1_1) := (blk_cell BK215.out 1).trans rfl
              have hcz24_2 : w5.cell? ⟨gb215, 2, none⟩ = some (.bool a1_2) := (blk_cell BK215.out 2).trans rfl
              have hcz24_3 : w5.cell? ⟨gb215, 3, none⟩ = some (.slice A1_3 l1_3.length c1_3) := (blk_cell BK215.out 3).trans rfl
              have hcz24_4 : w5.cell? ⟨gb215, 4, none⟩ = some (.slice A1_4 l1_4.length c1_4) := (blk_cell BK215.out 4).trans rfl
              have hfz24_0 := blk_frozen BK215.out 0
              have hfz24_1 := blk_frozen BK215.out 1
              have hfz24_2 := blk_frozen BK215.out 2
              have hfz24_3 := blk_frozen BK215.out 3
              have hfz24_4 := blk_frozen BK215.out 4
              have hcv25 := Kd.C_string (P := Tryd.prog) (A := A0_3) (c := c0_3) Tryd.underlying22 Tryd.underlying5 Tryd.underlying9 (Kd.C_below HR0_3.out HB.out)
              have hcv26 := Kd.C_string (P := Tryd.prog) (A := A1_3) (c := c1_3) Tryd.underlying22 Tryd.underlying5 Tryd.underlying9 (Kd.C_below HR1_3.out HB.out)
              go_wp2
              go_meet
              case rel => exact ⟨_, (true), (by first | rfl | (simp; done) | (simp [*]; done)), H', ⟨by first | omega | exact Nat.le_refl _⟩, ⟨by (with_reducible repeat (first | refine blk_drewN ?_ _ | refine blk_drew ?_ | refine blk_alloc ?_ _)); exact BK214.out⟩, ⟨by (with_reducible repeat (first | refine blk_drewN ?_ _ | refine blk_drew ?_ | refine blk_alloc ?_ _)); exact BK215.out⟩, ⟨by repeat (first | (with_reducible first | exact HB.out | apply below_alloc | apply pw_below_drewN | apply below_drew1 | refine below_set ?_ GE214.out | refine below_set ?_ GE215.out) | exact HB.out)⟩⟩
      · rw [if_neg c7] at H
        have c7b0 : (a0_1 == a1_1) = false := beq_eq_false_iff_ne.mpr c7
        have c7b1 : (a0_1 != a1_1) = true := bne_iff_ne.mpr c7
        have H' := Aside0.mk H
        clear H
        have hnb27 := NB214_215.out
        have hnc27 := NB215_214.out
        have hcz28_0 : w5.cell? ⟨gb214, 0, none⟩ = some (.int .i64 a0_0) := (blk_cell BK214.out 0).trans rfl
        have hcz28_1 : w5.cell? ⟨gb214, 1, none⟩ = some (.int .i64 a0_1) := (blk_cell BK214.out 1).trans rfl
        have hcz28_2 : w5.cell? ⟨gb214, 2, none⟩ = some (.bool a0_2) := (blk_cell BK214.out 2).trans rfl
        have hcz28_3 : w5.cell? ⟨gb214, 3, none⟩ = some (.slice A0_3 l0_3.length c0_3) := (blk_cell BK214.out 3).trans rfl
        have hcz28_4 : w5.cell? ⟨gb214, 4, none⟩ = some (.slice A0_4 l0_4.length c0_4) := (blk_cell BK214.out 4).trans rfl
        have hfz28_0 := blk_frozen BK214.out 0
        have hfz28_1 := blk_frozen BK214.out 1
        have hfz28_2 := blk_frozen BK214.out 2
        have hfz28_3 := blk_frozen BK214.out 3
        have hfz28_4 := blk_frozen BK214.out 4
        have hcz29_0 : w5.cell? ⟨gb215, 0, none⟩ = some (.int .i64 a1_0) := (blk_cell BK215.out 0).trans rfl
        have hcz29_1 : w5.cell? ⟨gb215, 1, none⟩ = some (.int .i64 a1_1) := (blk_cell BK215.out 1).trans rfl
        have hcz29_2 : w5.cell? ⟨gb215, 2, none⟩ = some (.bool a1_2) := (blk_cell BK215.out 2).trans rfl
        have hcz29_3 : w5.cell? ⟨gb215, 3, none⟩ = some (.slice A1_3 l1_3.length c1_3) := (blk_cell BK215.out 3).trans rfl
        have hcz29_4 : w5.cell? ⟨gb215, 4, none⟩ = some (.slice A1_4 l1_4.length c1_4) := (blk_cell BK215.out 4).trans rfl
        have hfz29_0 := blk_frozen BK215.out 0
        have hfz29_1 := blk_frozen BK215.out 1
        have hfz29_2 := blk_frozen BK215.out 2
        have hfz29_3 := blk_frozen BK215.out 3
        have hfz29_4 := blk_frozen BK215.out 4
        go_wp2
        go_meet
        case rel => exact ⟨_, (true), (by first | rfl | (simp; done) | (simp [*]; done)), H', ⟨by first | omega | exact Nat.le_refl _⟩, ⟨by (with_reducible repeat (first | refine blk_drewN ?_ _ | refine blk_drew ?_ | refine blk_alloc ?_ _)); exact BK214.out⟩, ⟨by (with_reducible repeat (first | refine blk_drewN ?_ _ | refine blk_drew ?_ | refine blk_alloc ?_ _)); exact BK215.out⟩, ⟨by repeat (first | (with_reducible first | exact HB.out | apply below_alloc | apply pw_below_drewN | apply below_drew1 | refine below_set ?_ GE214.out | refine below_set ?_ GE215.out) | exact HB.out)⟩⟩
    · rw [if_neg c6] at H
      have c6b0 : (a0_0 == a1_0) = false := beq_eq_false_iff_ne.mpr c6
      have c6b1 : (a0_0 != a1_0) = true := bne_iff_ne.mpr c6
      (first | rw [c6b0] | (simp only [i64_w, i32_w]; rw [c6b0]) | skip)
      have H' := Aside0.mk H
      clear H
      have hnb30 := NB214_215.out
      have hnc30 := NB215_214.out
      have hcz31_0 : w5.cell? ⟨gb214, 0, none⟩ = some (.int .i64 a0_0) := (blk_cell BK214.out 0).trans rfl
      have hcz31_1 : w5.cell? ⟨gb214, 1, none⟩ = some (.int .i64 a0_1) := (blk_cell BK214.out 1).trans rfl
      have hcz31_2 : w5.cell? ⟨gb214, 2, none⟩ = some (.bool a0_2) := (blk_cell BK214.out 2).trans rfl
      have hcz31_3 : w5.cell? ⟨gb214, 3, none⟩ = some (.slice A0_3 l0_3.length c0_3) := (blk_cell BK214.out 3).trans rfl
      have hcz31_4 : w5.cell? ⟨gb214, 4, none⟩ = some (.slice A0_4 l0_4.length c0_4) := (blk_cell BK214.out 4).trans rfl
      have hfz31_0 := blk_frozen BK214.out 0
      have hfz31_1 := blk_frozen BK214.out 1
      have hfz31_2 := blk_frozen BK214.out 2
      have hfz31_3 := blk_frozen BK214.out 3
      have hfz31_4 := blk_frozen BK214.out 4
      have hcz32_0 : w5.cell? ⟨gb215, 0, none⟩ = some (.int .i64 a1_0) := (blk_cell BK215.out 0).trans rfl
      have hcz32_1 : w5.cell? ⟨gb215, 1, none⟩ = some (.int .i64 a1_1) := (blk_cell BK215.out 1).trans rfl
      have hcz32_2 : w5.cell? ⟨gb215, 2, none⟩ = some (.bool a1_2) := (blk_cell BK215.out 2).trans rfl
      have hcz32_3 : w5.cell? ⟨gb215, 3, none⟩ = some (.slice A1_3 l1_3.length c1_3) := (blk_cell BK215.out 3).trans rfl
      have hcz32_4 : w5.cell? ⟨gb215, 4, none⟩ = some (.slice A1_4 l1_4.length c1_4) := (blk_cell BK215.out 4).trans rfl
      have hfz32_0 := blk_frozen BK215.out 0
      have hfz32_1 := blk_frozen BK215.out 1
      have hfz32_2 := blk_frozen BK215.out 2
      have hfz32_3 := blk_frozen BK215.out 3
      have hfz32_4 := blk_frozen BK215.out 4
      go_wp2
      go_meet
      case rel => exact ⟨_, (true), (by first | rfl | (simp; done) | (simp [*]; done)), H', ⟨by first | omega | exact Nat.le_refl _⟩, ⟨by (with_reducible repeat (first | refine blk_drewN ?_ _ | refine blk_drew ?_ | refine blk_alloc ?_ _)); exact BK214.out⟩, ⟨by (with_reducible repeat (first | refine blk_drewN ?_ _ | refine blk_drew ?_ | refine blk_alloc ?_ _)); exact BK215.out⟩, ⟨by repeat (first | (with_reducible first | exact HB.out | apply below_alloc | apply pw_below_drewN | apply below_drew1 | refine below_set ?_ GE214.out | refine below_set ?_ GE215.out) | exact HB.out)⟩⟩
  case rest =>
    clear HC3
    try clear c1
    try clear c2
    try clear p2
    try clear hcv2
    try clear c3
    try clear c6
    try clear c6b0
    try clear c6b1
    try clear c7
    try clear c7b0
    try clear c7b1
    try clear c8
    try clear c8b0
    try clear c8b1
    try clear c8b2
    try clear c9
    try clear c12
    try clear c13
    try clear c16
    try clear c16b0
    try clear c16b1
    try clear c17
    try clear hcv20
    try clear hcv21
    try clear c22
    try clear hcv25
    try clear hcv26
    try clear c27
    try clear c30
    try clear hcz10_0
    try clear hcz10_1
    try clear hcz10_2
    try clear hcz10_3
    try clear hcz10_4
    try clear hcz11_0
    try clear hcz11_1
    try clear hcz11_2
    try clear hcz11_3
    try clear hcz11_4
    try clear hcz14_0
    try clear hcz14_1
    try clear hcz14_2
    try clear hcz14_3
    try clear hcz14_4
    try clear hcz15_0
    try clear hcz15_1
    try clear hcz15_2
    try clear hcz15_3
    try clear hcz15_4
    try clear hcz18_0
    try clear hcz18_1
    try clear hcz18_2
    try clear hcz18_3
    try clear hcz18_4
    try clear hcz19_0
    try clear hcz19_1
    try clear hcz19_2
    try clear hcz19_3
    try clear hcz19_4
    try clear hcz23_0
    try clear hcz23_1
    try clear hcz23_2
    try clear hcz23_3
    try clear hcz23_4
    try clear hcz24_0
    try clear hcz24_1
    try clear hcz24_2
    try clear hcz24_3
    try clear hcz24_4
    try clear hcz28_0
    try clear hcz28_1
    try clear hcz28_2
    try clear hcz28_3
    try clear hcz28_4
    try clear hcz29_0
    try clear hcz29_1
    try clear hcz29_2
    try clear hcz29_3
    try clear hcz29_4
    try clear hcz31_0
    try clear hcz31_1
    try clear hcz31_2
    try clear hcz31_3
    try clear hcz31_4
    try clear hcz32_0
    try clear hcz32_1
    try clear hcz32_2
    try clear hcz32_3
    try clear hcz32_4
    try clear hfz10_0
    try clear hfz10_1
    try clear hfz10_2
    try clear hfz10_3
    try clear hfz10_4
    try clear hfz11_0
    try clear hfz11_1
    try clear hfz11_2
    try clear hfz11_3
    try clear hfz11_4
    try clear hfz14_0
    try clear hfz14_1
    try clear hfz14_2
    try clear hfz14_3
    try clear hfz14_4
    try clear hfz15_0
    try clear hfz15_1
    try clear hfz15_2
    try clear hfz15_3
    try clear hfz15_4
    try clear hfz18_0
    try clear hfz18_1
    try clear hfz18_2
    try clear hfz18_3
    try clear hfz18_4
    try clear hfz19_0
    try clear hfz19_1
    try clear hfz19_2
    try clear hfz19_3
    try clear hfz19_4
    try clear hfz23_0
    try clear hfz23_1
    try clear hfz23_2
    try clear hfz23_3
    try clear hfz23_4
    try clear hfz24_0
    try clear hfz24_1
    try clear hfz24_2
    try clear hfz24_3
    try clear hfz24_4
    try clear hfz28_0
    try clear hfz28_1
    try clear hfz28_2
    try clear hfz28_3
    try clear hfz28_4
    try clear hfz29_0
    try clear hfz29_1
    try clear hfz29_2
    try clear hfz29_3
    try clear hfz29_4
    try clear hfz31_0
    try clear hfz31_1
    try clear hfz31_2
    try clear hfz31_3
    try clear hfz31_4
    try clear hfz32_0
    try clear hfz32_1
    try clear hfz32_2
    try clear hfz32_3
    try clear hfz32_4
    obtain ⟨kq, x47_2, rfl, HA, HJ2, BK214, BK215, HB⟩ := hcut
    cases kq with
    | zero => exact absurd HA.out (by simp [spec_Same.j0])
    | succ kj2 =>
      have H := HA.out
      clear HA
      simp only [spec_Same.j0] at H
      by_cases c33 : x47_2 = true
      · subst c33
        have H1 : (some false) = some r := by rw [if_pos rfl] at H; exact H
        clear H
        have H := H1
        clear H1
        obtain rfl := Option.some.inj H
        go_wp2
        go_ret
        exact ⟨by first | rfl | (simp [errW_none, errW_some] <;> rfl) | (simp [*, errW_none, errW_some] <;> rfl), by repeat (first | (with_reducible first | exact HB.out | apply below_alloc | apply pw_below_drewN | apply below_drew1 | refine below_set ?_ GE214.out | refine below_set ?_ GE215.out) | exact HB.out)⟩
      · replace c33 := Bool.eq_false_iff.mpr c33
        subst c33
        have H1 : (spec_Same.l0 kj2 (l0_4.length : Int) 0 a0_0 a0_1 a0_2 l0_3 l0_4 a1_0 a1_1 a1_2 l1_3 l1_4) = some r := by rw [if_neg (show ¬ (false = true) by decide)] at H; exact H
        clear H
        have H := H1
        clear H1
        have H' := Aside0.mk H
        clear H
        have hnb34 := NB214_215.out
        have hnc34 := NB215_214.out
        have hcz35_0 : wc.cell? ⟨gb214, 0, none⟩ = some (.int .i64 a0_0) := (blk_cell BK214.out 0).trans rfl
        have hcz35_1 : wc.cell? ⟨gb214, 1, none⟩ = some (.int .i64 a0_1) := (blk_cell BK214.out 1).trans rfl
        have hcz35_2 : wc.cell? ⟨gb214, 2, none⟩ = some (.bool a0_2) := (blk_cell BK214.out 2).trans rfl
        have hcz35_3 : wc.cell? ⟨gb214, 3, none⟩ = some (.slice A0_3 l0_3.length c0_3) := (blk_cell BK214.out 3).trans rfl
        have hcz35_4 : wc.cell? ⟨gb214, 4, none⟩ = some (.slice A0_4 l0_4.length c0_4) := (blk_cell BK214.out 4).trans rfl
        have hfz35_0 := blk_frozen BK214.out 0
        have hfz35_1 := blk_frozen BK214.out 1
        have hfz35_2 := blk_frozen BK214.out 2
        have hfz35_3 := blk_frozen BK214.out 3
        have hfz35_4 := blk_frozen BK214.out 4
        go_wp2
        go_loopg [51] kj2 (fun kq v51 w' => ∃ (x51_2 : Int), v51 = .int .i64 x51_2 ∧ Aside0 (spec_Same.l0 kq (l0_4.length : Int) x51_2 a0_0 a0_1 a0_2 l0_3 l0_4 a1_0 a1_1 a1_2 l1_3 l1_4 = some r) ∧ Aside0 (kq ≤ kj2) ∧ Aside0 (w'.heap[gb214]? = some (.cells #[.int .i64 a0_0, .int .i64 a0_1, .bool a0_2, (.slice A0_3 l0_3.length c0_3), (.slice A0_4 l0_4.length c0_4)] 29 (0, 0))) ∧ Aside0 (w'.heap[gb215]? = some (.cells #[.int .i64 a1_0, .int .i64 a1_1, .bool a1_2, (.slice A1_3 l1_3.length c1_3), (.slice A1_4 l1_4.length c1_4)] 29 (0, 0))) ∧ Aside0 (Below w.heap.size w w'))
        case atStart => exact ⟨(0), (by first | rfl | (simp; done) | (simp [*]; done)), H', ⟨Nat.le_refl _⟩, ⟨by (with_reducible repeat (first | refine blk_drewN ?_ _ | refine blk_drew ?_ | refine blk_alloc ?_ _)); exact BK214.out⟩, ⟨by (with_reducible repeat (first | refine blk_drewN ?_ _ | refine blk_drew ?_ | refine blk_alloc ?_ _)); exact BK215.out⟩, ⟨by repeat (first | (with_reducible first | exact HB.out | apply below_alloc | apply pw_below_drewN | apply below_drew1 | refine below_set ?_ GE214.out | refine below_set ?_ GE215.out) | exact HB.out)⟩⟩
        case round =>
          clear H'
          try clear c1
          try clear c2
          try clear p2
          try clear hcv2
          try clear c3
          try clear c6
          try clear c6b0
          try clear c6b1
          try clear c7
          try clear c7b0
          try clear c7b1
          try clear c8
          try clear c8b0
          try clear c8b1
          try clear c8b2
          try clear c9
          try clear c12
          try clear c13
          try clear c16
          try clear c16b0
          try clear c16b1
          try clear c17
          try clear hcv20
          try clear hcv21
          try clear c22
          try clear hcv25
          try clear hcv26
          try clear c27
          try clear c30
          try clear c33
          try clear c34
          try clear hcz10_0
          try clear hcz10_1
          try clear hcz10_2
          try clear hcz10_3
          try clear hcz10_4
          try clear hcz11_0
          try clear hcz11_1
          try clear hcz11_2
          try clear hcz11_3
          try clear hcz11_4
          try clear hcz14_0
          try clear hcz14_1
          try clear hcz14_2
          try clear hcz14_3
          try clear hcz14_4
          try clear hcz15_0
          try clear hcz15_1
          try clear hcz15_2
          try clear hcz15_3
          try clear hcz15_4
          try clear hcz18_0
          try clear hcz18_1
          try clear hcz18_2
          try clear hcz18_3
          try clear hcz18_4
          try clear hcz19_0
          try clear hcz19_1
          try clear hcz19_2
          try clear hcz19_3
          try clear hcz19_4
          try clear hcz23_0
          try clear hcz23_1
          try clear hcz23_2
          try clear hcz23_3
          try clear hcz23_4
          try clear hcz24_0
          try clear hcz24_1
          try clear hcz24_2
          try clear hcz24_3
          try clear hcz24_4
          try clear hcz28_0
          try clear hcz28_1
          try clear hcz28_2
          try clear hcz28_3
          try clear hcz28_4
          try clear hcz29_0
          try clear hcz29_1
          try clear hcz29_2
          try clear hcz29_3
          try clear hcz29_4
          try clear hcz31_0
          try clear hcz31_1
          try clear hcz31_2
          try clear hcz31_3
          try clear hcz31_4
          try clear hcz32_0
          try clear hcz32_1
          try clear hcz32_2
          try clear hcz32_3
          try clear hcz32_4
          try clear hcz35_0
          try clear hcz35_1
          try clear hcz35_2
          try clear hcz35_3
          try clear hcz35_4
          try clear hfz10_0
          try clear hfz10_1
          try clear hfz10_2
          try clear hfz10_3
          try clear hfz10_4
          try clear hfz11_0
          try clear hfz11_1
          try clear hfz11_2
          try clear hfz11_3
          try clear hfz11_4
          try clear hfz14_0
          try clear hfz14_1
          try clear hfz14_2
          try clear hfz14_3
          try clear hfz14_4
          try clear hfz15_0
          try clear hfz15_1
          try clear hfz15_2
          try clear hfz15_3
          try clear hfz15_4
          try clear hfz18_0
          try clear hfz18_1
          try clear hfz18_2
          try clear hfz18_3
          try clear hfz18_4
          try clear hfz19_0
          try clear hfz19_1
          try clear hfz19_2
          try clear hfz19_3
          try clear hfz19_4
          try clear hfz23_0
          try clear hfz23_1
          try clear hfz23_2
          try clear hfz23_3
          try clear hfz23_4
          try clear hfz24_0
          try clear hfz24_1
          try clear hfz24_2
          try clear hfz24_3
          try clear hfz24_4
          try clear hfz28_0
          try clear hfz28_1
          try clear hfz28_2
          try clear hfz28_3
          try clear hfz28_4
          try clear hfz29_0
          try clear hfz29_1
          try clear hfz29_2
          try clear hfz29_3
          try clear hfz29_4
          try clear hfz31_0
          try clear hfz31_1
          try clear hfz31_2
          try clear hfz31_3
          try clear hfz31_4
          try clear hfz32_0
          try clear hfz32_1
          try clear hfz32_2
          try clear hfz32_3
          try clear hfz32_4
          try clear hfz35_0
          try clear hfz35_1
          try clear hfz35_2
          try clear hfz35_3
          try clear hfz35_4
          try clear p2
          obtain ⟨x51_2, rfl, HA, HK2, BK214, BK215, HB⟩ := hrel
          cases gk with
          | zero => exact absurd HA.out (by simp [spec_Same.l0])
          | succ k2 =>
            have H := HA.out
            clear HA
            simp only [spec_Same.l0] at H
            by_cases c36 : x51_2 < (l0_4.length : Int)
            · rw [if_pos c36] at H
              have c36b0 : decide (x51_2 < (l0_4.length : Int)) = true := decide_eq_true c36
              clear c36
              by_cases c37 : 0 ≤ x51_2
              · rw [if_pos c37] at H
                have c37b0 : decide (0 ≤ x51_2) = true := decide_eq_true c37
                clear c37
                by_cases c38 : x51_2 < (l0_4.length : Int)
                · rw [if_pos c38] at H
                  have c38b0 : decide (x51_2 < (l0_4.length : Int)) = true := decide_eq_true c38
                  clear c38
                  by_cases c39 : x51_2 < (l1_4.length : Int)
                  · rw [if_pos c39] at H
                    have c39b0 : decide (x51_2 < (l1_4.length : Int)) = true := decide_eq_true c39
                    clear c39
                    replace H := Option.bind_eq_some_iff.mp H
                    obtain ⟨t218, A400, H⟩ := H
                    replace H : (if t218 = true then (spec_Same.l0 k2 (l0_4.length : Int) (wrap64 (x51_2 + 1)) a0_0 a0_1 a0_2 l0_3 l0_4 a1_0 a1_1 a1_2 l1_3 l1_4) else (some false)) = some r := H
                    have A40 := Aside0.mk A400
                    clear A400
                    by_cases c41 : t218 = true
                    · subst c41
                      have H1 : (spec_Same.l0 k2 (l0_4.length : Int) (wrap64 (x51_2 + 1)) a0_0 a0_1 a0_2 l0_3 l0_4 a1_0 a1_1 a1_2 l1_3 l1_4) = some r := by rw [if_pos rfl] at H; exact H
                      clear H
                      have H := H1
                      clear H1
                      have H' := Aside0.mk H
                      clear H
                      try go_wp2
                      have n0_ := Aside0.mk (blk_drew BK214.out)
                      have n1_ := Aside0.mk (blk_drew BK215.out)
                      have n2_ := Aside0.mk (below_drew1 HB.out)
                      clear BK214
                      clear BK215
                      clear HB
                      have BK214 := n0_
                      have BK215 := n1_
                      have HB := n2_
                      clear n0_ n1_ n2_
                      have p216 : 0 ≤ (x51_2 : Int) := of_decide_eq_true (by first | (with_reducible assumption) | assumption)
                      have q216 : x51_2 < (l0_4.length : Int) := of_decide_eq_true (by first | (with_reducible assumption) | assumption)
                      obtain ⟨ad216, A216_3, c216_3, A216_4, c216_4, e216, hx216_0, hx216_1, hx216_2, hx216_3, hx216_4, hl216_3, hi216_3, hl216_4, hi216_4⟩ := at_T29 HR0_4.out x51_2 p216 q216
                      have hw216_4 := hx216_4
                      have hw216_3 := hx216_3
                      have hw216_2 := hx216_2
                      have hw216_1 := hx216_1
                      have hw216_0 := hx216_0
                      cases e216
                      replace hx216_0 := (HB.out.cell (World.block_lt_of_cell? w _ hx216_0)).trans hx216_0
                      replace hx216_1 := (HB.out.cell (World.block_lt_of_cell? w _ hx216_1)).trans hx216_1
                      replace hx216_2 := (HB.out.cell (World.block_lt_of_cell? w _ hx216_2)).trans hx216_2
                      replace hx216_3 := (HB.out.cell (World.block_lt_of_cell? w _ hx216_3)).trans hx216_3
                      replace hx216_4 := (HB.out.cell (World.block_lt_of_cell? w _ hx216_4)).trans hx216_4
                      have HR216_3 := Aside0.mk hi216_3
                      have HC216_3 := Aside0.mk hl216_3
                      clear hi216_3 hl216_3
                      have HR216_4 := Aside0.mk hi216_4
                      have HC216_4 := Aside0.mk hl216_4
                      clear hi216_4 hl216_4
                      replace p216 := eq_true p216
                      replace q216 := eq_true q216
                      have p217 : 0 ≤ (x51_2 : Int) := of_decide_eq_true (by first | (with_reducible assumption) | assumption)
                      have q217 : x51_2 < (l1_4.length : Int) := of_decide_eq_true (by first | (with_reducible assumption) | assumption)
                      obtain ⟨ad217, A217_3, c217_3, A217_4, c217_4, e217, hx217_0, hx217_1, hx217_2, hx217_3, hx217_4, hl217_3, hi217_3, hl217_4, hi217_4⟩ := at_T29 HR1_4.out x51_2 p217 q217
                      have hw217_4 := hx217_4
                      have hw217_3 := hx217_3
                      have hw217_2 := hx217_2
                      have hw217_1 := hx217_1
                      have hw217_0 := hx217_0
                      cases e217
                      replace hx217_0 := (HB.out.cell (World.block_lt_of_cell? w _ hx217_0)).trans hx217_0
                      replace hx217_1 := (HB.out.cell (World.block_lt_of_cell? w _ hx217_1)).trans hx217_1
                      replace hx217_2 := (HB.out.cell (World.block_lt_of_cell? w _ hx217_2)).trans hx217_2
                      replace hx217_3 := (HB.out.cell (World.block_lt_of_cell? w _ hx217_3)).trans hx217_3
                      replace hx217_4 := (HB.out.cell (World.block_lt_of_cell? w _ hx217_4)).trans hx217_4
                      have HR217_3 := Aside0.mk hi217_3
                      have HC217_3 := Aside0.mk hl217_3
                      clear hi217_3 hl217_3
                      have HR217_4 := Aside0.mk hi217_4
                      have HC217_4 := Aside0.mk hl217_4
                      clear hi217_4 hl217_4
                      replace p217 := eq_true p217
                      replace q217 := eq_true q217
                      refine start_ (n := 12) (S := fun w' => w'.cell? ⟨gb214, 0, none⟩ = some (.int .i64 a0_0) ∧ w'.cell? ⟨gb214, 1, none⟩ = some (.int .i64 a0_1) ∧ w'.cell? ⟨gb214, 2, none⟩ = some (.bool a0_2) ∧ w'.cell? ⟨gb214, 3, none⟩ = some (.slice A0_3 l0_3.length c0_3) ∧ w'.cell? ⟨gb214, 4, none⟩ = some (.slice (some ad216) l0_4.length c0_4) ∧ w'.cell? ⟨gb215, 0, none⟩ = some (.int .i64 a1_0) ∧ w'.cell? ⟨gb215, 1, none⟩ = some (.int .i64 a1_1) ∧ w'.cell? ⟨gb215, 2, none⟩ = some (.bool a1_2) ∧ w'.cell? ⟨gb215, 3, none⟩ = some (.slice A1_3 l1_3.length c1_3) ∧ w'.cell? ⟨gb215, 4, none⟩ = some (.slice (some ad217) l1_4.length c1_4) ∧ w'.cell? (ad216.add ((x51_2).toNat * 5)) = some (.int .i64 ((rd_T29 l0_4 x51_2).f0)) ∧ w'.cell? ⟨(ad216.add ((x51_2).toNat * 5)).block, (ad216.add ((x51_2).toNat * 5)).off + 1, none⟩ = some (.int .i64 ((rd_T29 l0_4 x51_2).f1)) ∧ w'.cell? ⟨(ad216.add ((x51_2).toNat * 5)).block, (ad216.add ((x51_2).toNat * 5)).off + 2, none⟩ = some (.bool ((rd_T29 l0_4 x51_2).f2)) ∧ w'.cell? ⟨(ad216.add ((x51_2).toNat * 5)).block, (ad216.add ((x51_2).toNat * 5)).off + 3, none⟩ = some (.slice A216_3 ((rd_T29 l0_4 x51_2).f3).length c216_3) ∧ w'.cell? ⟨(ad216.add ((x51_2).toNat * 5)).block, (ad216.add ((x51_2).toNat * 5)).off + 4, none⟩ = some (.slice A216_4 ((rd_T29 l0_4 x51_2).f4).length c216_4) ∧ w'.cell? (ad217.add ((x51_2).toNat * 5)) = some (.int .i64 ((rd_T29 l1_4 x51_2).f0)) ∧ w'.cell? ⟨(ad217.add ((x51_2).toNat * 5)).block, (ad217.add ((x51_2).toNat * 5)).off + 1, none⟩ = some (.int .i64 ((rd_T29 l1_4 x51_2).f1)) ∧ w'.cell? ⟨(ad217.add ((x51_2).toNat * 5)).block, (ad217.add ((x51_2).toNat * 5)).off + 2, none⟩ = some (.bool ((rd_T29 l1_4 x51_2).f2)) ∧ w'.cell? ⟨(ad217.add ((x51_2).toNat * 5)).block, (ad217.add ((x51_2).toNat * 5)).off + 3, none⟩ = some (.slice A217_3 ((rd_T29 l1_4 x51_2).f3).length c217_3) ∧ w'.cell? ⟨(ad217.add ((x51_2).toNat * 5)).block, (ad217.add ((x51_2).toNat * 5)).off + 4, none⟩ = some (.slice A217_4 ((rd_T29 l1_4 x51_2).f4).length c217_4)) (ds := []) #[nN,nN,nN,nN,nN,nN,nN,nN,nN,nN,nN,nN] (by kernel_rfl) rfl rfl ⟨(blk_cell BK214.out 0).trans rfl, (blk_cell BK214.out 1).trans rfl, (blk_cell BK214.out 2).trans rfl, (blk_cell BK214.out 3).trans rfl, (blk_cell BK214.out 4).trans rfl, (blk_cell BK215.out 0).trans rfl, (blk_cell BK215.out 1).trans rfl, (blk_cell BK215.out 2).trans rfl, (blk_cell BK215.out 3).trans rfl, (blk_cell BK215.out 4).trans rfl, ((HB.out.cell (World.block_lt_of_cell? w _ hw216_0)).trans hw216_0), ((HB.out.cell (World.block_lt_of_cell? w _ hw216_1)).trans hw216_1), ((HB.out.cell (World.block_lt_of_cell? w _ hw216_2)).trans hw216_2), ((HB.out.cell (World.block_lt_of_cell? w _ hw216_3)).trans hw216_3), ((HB.out.cell (World.block_lt_of_cell? w _ hw216_4)).trans hw216_4), ((HB.out.cell (World.block_lt_of_cell? w _ hw217_0)).trans hw217_0), ((HB.out.cell (World.block_lt_of_cell? w _ hw217_1)).trans hw217_1), ((HB.out.cell (World.block_lt_of_cell? w _ hw217_2)).trans hw217_2), ((HB.out.cell (World.block_lt_of_cell? w _ hw217_3)).trans hw217_3), ((HB.out.cell (World.block_lt_of_cell? w _ hw217_4)).trans hw217_4)⟩ (fun hHeld => ?_); refine with_tabW spec_Same.tab6 spec_Same.bits6 (fun HT_ HW_ => ?_)
                      generalize wr.drew = w42 at BK214 BK215 HB HR216_3 HR216_4 HR217_3 HR217_4 hx216_0 hx216_1 hx216_2 hx216_3 hx216_4 hx217_0 hx217_1 hx217_2 hx217_3 hx217_4 hHeld ⊢
                      refine pure_ (i := 0) (N := some 54) (v := ?_) (a' := ?_) #[yY,nN,nN,nN,nN,nN,nN,nN,nN,nN,nN,nN] rfl rfl (any_of HT_.out (by kernel_rfl)) (fun _ _ _ h => h) (Or.inl ⟨by rfl, ?_⟩) ?_ ?_
                      rotate_left
                      · intro w'
                        go_simp
                        with_reducible rfl
                      rotate_left
                      · simp only [Act.put, List.setIfInBounds_toArray, List.set_cons_zero, List.set_cons_succ, i64_w, i32_w]
                        rfl
                      refine pure_ (i := 2) (N := some 56) (v := ?_) (a' := ?_) #[yY,nN,yY,nN,nN,nN,nN,nN,nN,nN,nN,nN] rfl rfl (any_of HT_.out (by kernel_rfl)) (fun _ _ _ h => h) (Or.inl ⟨by rfl, ?_⟩) ?_ ?_
                      rotate_left
                      · intro w'
                        go_simp
                        with_reducible rfl
                      rotate_left
                      · simp only [Act.put, List.setIfInBounds_toArray, List.set_cons_zero, List.set_cons_succ, i64_w, i32_w]
                        rfl
                      refine pure_ (i := 5) (N := some 59) (v := ?_) (a' := ?_) #[yY,nN,yY,nN,nN,yY,nN,nN,nN,nN,nN,nN] rfl rfl (any_of HT_.out (by kernel_rfl)) (fun _ _ _ h => h) (Or.inl ⟨by rfl, ?_⟩) ?_ ?_
                      rotate_left
                      · intro w'
                        go_simp
                        with_reducible rfl
                      rotate_left
                      · simp only [Act.put, List.setIfInBounds_toArray, List.set_cons_zero, List.set_cons_succ, i64_w, i32_w]
                        rfl
                      refine pure_ (i := 7) (N := some 61) (v := ?_) (a' := ?_) #[yY,nN,yY,nN,nN,yY,nN,yY,nN,nN,nN,nN] rfl rfl (any_of HT_.out (by kernel_rfl)) (fun _ _ _ h => h) (Or.inl ⟨by rfl, ?_⟩) ?_ ?_
                      rotate_left
                      · intro w'
                        go_simp
                        with_reducible rfl
                      rotate_left
                      · simp only [Act.put, List.setIfInBounds_toArray, List.set_cons_zero, List.set_cons_succ, i64_w, i32_w]
                        rfl
                      refine take_ (i := 1) (N := some 55) (v := ?_) (a' := ?_) #[yY,yY,yY,nN,nN,yY,nN,yY,nN,nN,nN,nN] rfl rfl (take_ofW HT_.out HW_.out (by kernel_rfl)) (fun _ _ _ h => h) (Or.inl ⟨by rfl, ?_⟩) hHeld ?_ ?_
                      rotate_left
                      · rintro w' ⟨s0, s1, s2, s3, s4, s5, s6, s7, s8, s9, s10, s11, s12, s13, s14, s15, s16, s17, s18, s19⟩
                        go_simp
                        with_reducible rfl
                      rotate_left
                      · simp only [Act.put, List.setIfInBounds_toArray, List.set_cons_zero, List.set_cons_succ, i64_w, i32_w]
                        rfl
                      refine pure_ (i := 3) (N := some 57) (v := ?_) (a' := ?_) #[yY,yY,yY,yY,nN,yY,nN,yY,nN,nN,nN,nN] rfl rfl (any_of HT_.out (by kernel_rfl)) (fun _ _ _ h => h) (Or.inl ⟨by rfl, ?_⟩) ?_ ?_
                      rotate_left
                      · intro w'
                        go_simp
                        with_reducible rfl
                      rotate_left
                      · simp only [Act.put, List.setIfInBounds_toArray, List.set_cons_zero, List.set_cons_succ, i64_w, i32_w]
                        rfl
                      refine take_ (i := 4) (N := some 58) (v := ?_) (a' := ?_) #[yY,yY,yY,yY,yY,yY,nN,yY,nN,nN,nN,nN] rfl rfl (take_ofW HT_.out HW_.out (by kernel_rfl)) (fun _ _ _ h => h) (Or.inl ⟨by rfl, ?_⟩) hHeld ?_ ?_
                      rotate_left
                      · rintro w' ⟨s0, s1, s2, s3, s4, s5, s6, s7, s8, s9, s10, s11, s12, s13, s14, s15, s16, s17, s18, s19⟩
                        go_simp
                        with_reducible rfl
                      rotate_left
                      · simp only [Act.put, List.setIfInBounds_toArray, List.set_cons_zero, List.set_cons_succ, i64_w, i32_w]
                        rfl
                      refine take_ (i := 6) (N := some 60) (v := ?_) (a' := ?_) #[yY,yY,yY,yY,yY,yY,yY,yY,nN,nN,nN,nN] rfl rfl (take_ofW HT_.out HW_.out (by kernel_rfl)) (fun _ _ _ h => h) (Or.inl ⟨by rfl, ?_⟩) hHeld ?_ ?_
                      rotate_left
                      · rintro w' ⟨s0, s1, s2, s3, s4, s5, s6, s7, s8, s9, s10, s11, s12, s13, s14, s15, s16, s17, s18, s19⟩
                        go_simp
                        with_reducible rfl
                      rotate_left
                      · simp only [Act.put, List.setIfInBounds_toArray, List.set_cons_zero, List.set_cons_succ, i64_w, i32_w]
                        rfl
                      refine pure_ (i := 8) (N := some 62) (v := ?_) (a' := ?_) #[yY,yY,yY,yY,yY,yY,yY,yY,yY,nN,nN,nN] rfl rfl (any_of HT_.out (by kernel_rfl)) (fun _ _ _ h => h) (Or.inl ⟨by rfl, ?_⟩) ?_ ?_
                      rotate_left
                      · intro w'
                        go_simp
                        with_reducible rfl
                      rotate_left
                      · simp only [Act.put, List.setIfInBounds_toArray, List.set_cons_zero, List.set_cons_succ, i64_w, i32_w]
                        rfl
                      refine take_ (i := 9) (N := some 63) (v := ?_) (a' := ?_) #[yY,yY,yY,yY,yY,yY,yY,yY,yY,yY,nN,nN] rfl rfl (take_ofW HT_.out HW_.out (by kernel_rfl)) (fun _ _ _ h => h) (Or.inl ⟨by rfl, ?_⟩) hHeld ?_ ?_
                      rotate_left
                      · rintro w' ⟨s0, s1, s2, s3, s4, s5, s6, s7, s8, s9, s10, s11, s12, s13, s14, s15, s16, s17, s18, s19⟩
                        go_simp
                        with_reducible rfl
                      rotate_left
                      · simp only [Act.put, List.setIfInBounds_toArray, List.set_cons_zero, List.set_cons_succ, i64_w, i32_w]
                        rfl
                      refine one_ (i := 10) (N := some 64) #[yY,yY,yY,yY,yY,yY,yY,yY,yY,yY,yY,nN] rfl rfl (one_of HT_.out (by kernel_rfl)) (by decide) (fun K hK => ?_)
                      refine goes_ Tryd.func13 (by kernel_rfl) rfl #[.agg #[.int .i64 ((rd_T29 l0_4 x51_2).f0), .int .i64 ((rd_T29 l0_4 x51_2).f1), .bool ((rd_T29 l0_4 x51_2).f2), .slice A216_3 ((rd_T29 l0_4 x51_2).f3).length c216_3, .slice A216_4 ((rd_T29 l0_4 x51_2).f4).length c216_4], .agg #[.int .i64 ((rd_T29 l1_4 x51_2).f0), .int .i64 ((rd_T29 l1_4 x51_2).f1), .bool ((rd_T29 l1_4 x51_2).f2), .slice A217_3 ((rd_T29 l1_4 x51_2).f3).length c217_3, .slice A217_4 ((rd_T29 l1_4 x51_2).f4).length c217_4]] (by rfl) rfl rfl (by (try simp only [List.map_toArray, List.map_cons, List.map_nil]); first | done | rfl | (simp only [List.length_drop, List.length_take]; rfl)) ?_
                      with_reducible refine (ih k2 (by have := HJ2.out; have := HK2.out; omega) ((rd_T29 l0_4 x51_2).f0) ((rd_T29 l0_4 x51_2).f1) ((rd_T29 l0_4 x51_2).f2) _ _ ((rd_T29 l0_4 x51_2).f3) _ _ ((rd_T29 l0_4 x51_2).f4) ((rd_T29 l1_4 x51_2).f0) ((rd_T29 l1_4 x51_2).f1) ((rd_T29 l1_4 x51_2).f2) _ _ ((rd_T29 l1_4 x51_2).f3) _ _ ((rd_T29 l1_4 x51_2).f4) true _ ?side1 ?side2 ?side3 ?side4 ?side5 ?side6 ?side7 ?side8 A40.out).mono ?_
                      (case side1 => repeat (first | exact (Kd.C_below HR216_3.out HB.out) | (with_reducible refine Kd.C_alloc ?_ _) | (with_reducible refine Kd.C_drewN ?_ _) | (with_reducible refine Kd.C_drew ?_)))
                      (case side2 => exact HC216_3.out)
                      (case side3 => repeat (first | exact (Kd.C_below HR216_4.out HB.out) | (with_reducible refine Kd.C_alloc ?_ _) | (with_reducible refine Kd.C_drewN ?_ _) | (with_reducible refine Kd.C_drew ?_)))
                      (case side4 => exact HC216_4.out)
                      (case side5 => repeat (first | exact (Kd.C_below HR217_3.out HB.out) | (with_reducible refine Kd.C_alloc ?_ _) | (with_reducible refine Kd.C_drewN ?_ _) | (with_reducible refine Kd.C_drew ?_)))
                      (case side6 => exact HC217_3.out)
                      (case side7 => repeat (first | exact (Kd.C_below HR217_4.out HB.out) | (with_reducible refine Kd.C_alloc ?_ _) | (with_reducible refine Kd.C_drewN ?_ _) | (with_reducible refine Kd.C_drew ?_)))
                      (case side8 => exact HC217_4.out)
                      rintro e w43 ⟨rfl, hb⟩
                      refine ⟨_, rfl, ?_⟩
                      have n0_ := Aside0.mk (blk_below (g := gb214) (o := .cells #[.int .i64 a0_0, .int .i64 a0_1, .bool a0_2, .slice A0_3 l0_3.length c0_3, .slice (some ad216) l0_4.length c0_4] 29 (0, 0)) (by (with_reducible repeat (first | refine blk_drewN ?_ _ | refine blk_drew ?_ | refine blk_alloc ?_ _)); exact BK214.out) hb)
                      have n1_ := Aside0.mk (blk_below (g := gb215) (o := .cells #[.int .i64 a1_0, .int .i64 a1_1, .bool a1_2, .slice A1_3 l1_3.length c1_3, .slice (some ad217) l1_4.length c1_4] 29 (0, 0)) (by (with_reducible repeat (first | refine blk_drewN ?_ _ | refine blk_drew ?_ | refine blk_alloc ?_ _)); exact BK215.out) hb)
                      have n2_ := Aside0.mk (below_step (by repeat (first | (with_reducible first | exact HB.out | apply below_alloc | apply pw_below_drewN | apply below_drew1 | refine below_set ?_ GE214.out | refine below_set ?_ GE215.out) | exact HB.out)) hb)
                      clear BK214
                      clear BK215
                      clear HB
                      have BK214 := n0_
                      have BK215 := n1_
                      have HB := n2_
                      clear n0_ n1_ n2_
                      (try clear hb)
                      (try clear hb2)
                      (try clear hk)
                      (try clear hi)
                      refine hK.out _ _ ⟨(blk_cell BK214.out 0).trans rfl, (blk_cell BK214.out 1).trans rfl, (blk_cell BK214.out 2).trans rfl, (blk_cell BK214.out 3).trans rfl, (blk_cell BK214.out 4).trans rfl, (blk_cell BK215.out 0).trans rfl, (blk_cell BK215.out 1).trans rfl, (blk_cell BK215.out 2).trans rfl, (blk_cell BK215.out 3).trans rfl, (blk_cell BK215.out 4).trans rfl, ((HB.out.cell (World.block_lt_of_cell? w _ hw216_0)).trans hw216_0), ((HB.out.cell (World.block_lt_of_cell? w _ hw216_1)).trans hw216_1), ((HB.out.cell (World.block_lt_of_cell? w _ hw216_2)).trans hw216_2), ((HB.out.cell (World.block_lt_of_cell? w _ hw216_3)).trans hw216_3), ((HB.out.cell (World.block_lt_of_cell? w _ hw216_4)).trans hw216_4), ((HB.out.cell (World.block_lt_of_cell? w _ hw217_0)).trans hw217_0), ((HB.out.cell (World.block_lt_of_cell? w _ hw217_1)).trans hw217_1), ((HB.out.cell (World.block_lt_of_cell? w _ hw217_2)).trans hw217_2), ((HB.out.cell (World.block_lt_of_cell? w _ hw217_3)).trans hw217_3), ((HB.out.cell (World.block_lt_of_cell? w _ hw217_4)).trans hw217_4)⟩ (fun hHeld => ?_)
                      clear hK K
                      refine norm_ (a' := ?_) ?_ ?_
                      rotate_left
                      · show Act.put _ (some 64) _ = _
                        simp only [Act.put, List.setIfInBounds_toArray, List.set_cons_zero, List.set_cons_succ, i64_w, i32_w]
                        rfl
                      refine pure_ (i := 11) (N := some 65) (v := ?_) (a' := ?_) #[yY,yY,yY,yY,yY,yY,yY,yY,yY,yY,yY,yY] rfl rfl (any_of HT_.out (by kernel_rfl)) (fun _ _ _ h => h) (Or.inl ⟨by rfl, ?_⟩) ?_ ?_
                      rotate_left
                      · intro w'
                        go_simp
                        with_reducible rfl
                      rotate_left
                      · simp only [Act.put, List.setIfInBounds_toArray, List.set_cons_zero, List.set_cons_succ, i64_w, i32_w]
                        rfl
                      refine done_ (done_of HT_.out (by kernel_rfl)) ?_
                      try go_wp2
                      go_roundg k2
                      case measure => have := HJ2.out; have := HK2.out; omega
                      case rel => exact ⟨(wrap64 (x51_2 + 1)), (by first | rfl | (simp; done) | (simp [*]; done)), H', ⟨by have := HJ2.out; have := HK2.out; omega⟩, ⟨by (with_reducible repeat (first | refine blk_drewN ?_ _ | refine blk_drew ?_ | refine blk_alloc ?_ _)); exact BK214.out⟩, ⟨by (with_reducible repeat (first | refine blk_drewN ?_ _ | refine blk_drew ?_ | refine blk_alloc ?_ _)); exact BK215.out⟩, ⟨by repeat (first | (with_reducible first | exact HB.out | apply below_alloc | apply pw_below_drewN | apply below_drew1 | refine below_set ?_ GE214.out | refine below_set ?_ GE215.out) | exact HB.out)⟩⟩
                    · replace c41 := Bool.eq_false_iff.mpr c41
                      subst c41
                      have H1 : (some false) = some r := by rw [if_neg (show ¬ (false = true) by decide)] at H; exact H
                      clear H
                      have H := H1
                      clear H1
                      obtain rfl := Option.some.inj H
                      try go_wp2
                      have n0_ := Aside0.mk (blk_drew BK214.out)
                      have n1_ := Aside0.mk (blk_drew BK215.out)
                      have n2_ := Aside0.mk (below_drew1 HB.out)
                      clear BK214
                      clear BK215
                      clear HB
                      have BK214 := n0_
                      have BK215 := n1_
                      have HB := n2_
                      clear n0_ n1_ n2_
                      have p216 : 0 ≤ (x51_2 : Int) := of_decide_eq_true (by first | (with_reducible assumption) | assumption)
                      have q216 : x51_2 < (l0_4.length : Int) := of_decide_eq_true (by first | (with_reducible assumption) | assumption)
                      obtain ⟨ad216, A216_3, c216_3, A216_4, c216_4, e216, hx216_0, hx216_1, hx216_2, hx216_3, hx216_4, hl216_3, hi216_3, hl216_4, hi216_4⟩ := at_T29 HR0_4.out x51_2 p216 q216
                      have hw216_4 := hx216_4
                      have hw216_3 := hx216_3
                      have hw216_2 := hx216_2
                      have hw216_1 := hx216_1
                      have hw216_0 := hx216_0
                      cases e216
                      replace hx216_0 := (HB.out.cell (World.block_lt_of_cell? w _ hx216_0)).trans hx216_0
                      replace hx216_1 := (HB.out.cell (World.block_lt_of_cell? w _ hx216_1)).trans hx216_1
                      replace hx216_2 := (HB.out.cell (World.block_lt_of_cell? w _ hx216_2)).trans hx216_2
                      replace hx216_3 := (HB.out.cell (World.block_lt_of_cell? w _ hx216_3)).trans hx216_3
                      replace hx216_4 := (HB.out.cell (World.block_lt_of_cell? w _ hx216_4)).trans hx216_4
                      have HR216_3 := Aside0.mk hi216_3
                      have HC216_3 := Aside0.mk hl216_3
                      clear hi216_3 hl216_3
                      have HR216_4 := Aside0.mk hi216_4
                      have HC216_4 := Aside0.mk hl216_4
                      clear hi216_4 hl216_4
                      replace p216 := eq_true p216
                      replace q216 := eq_true q216
                      have p217 : 0 ≤ (x51_2 : Int) := of_decide_eq_true (by first | (with_reducible assumption) | assumption)
                      have q217 : x51_2 < (l1_4.length : Int) := of_decide_eq_true (by first | (with_reducible assumption) | assumption)
                      obtain ⟨ad217, A217_3, c217_3, A217_4, c217_4, e217, hx217_0, hx217_1, hx217_2, hx217_3, hx217_4, hl217_3, hi217_3, hl217_4, hi217_4⟩ := at_T29 HR1_4.out x51_2 p217 q217
                      have hw217_4 := hx217_4
                      have hw217_3 := hx217_3
                      have hw217_2 := hx217_2
                      have hw217_1 := hx217_1
                      have hw217_0 := hx217_0
                      cases e217
                      replace hx217_0 := (HB.out.cell (World.block_lt_of_cell? w _ hx217_0)).trans hx217_0
                      replace hx217_1 := (HB.out.cell (World.block_lt_of_cell? w _ hx217_1)).trans hx217_1
                      replace hx217_2 := (HB.out.cell (World.block_lt_of_cell? w _ hx217_2)).trans hx217_2
                      replace hx217_3 := (HB.out.cell (World.block_lt_of_cell? w _ hx217_3)).trans hx217_3
                      replace hx217_4 := (HB.out.cell (World.block_lt_of_cell? w _ hx217_4)).trans hx217_4
                      have HR217_3 := Aside0.mk hi217_3
                      have HC217_3 := Aside0.mk hl217_3
                      clear hi217_3 hl217_3
                      have HR217_4 := Aside0.mk hi217_4
                      have HC217_4 := Aside0.mk hl217_4
                      clear hi217_4 hl217_4
                      replace p217 := eq_true p217
                      replace q217 := eq_true q217
                      refine start_ (n := 12) (S := fun w' => w'.cell? ⟨gb214, 0, none⟩ = some (.int .i64 a0_0) ∧ w'.cell? ⟨gb214, 1, none⟩ = some (.int .i64 a0_1) ∧ w'.cell? ⟨gb214, 2, none⟩ = some (.bool a0_2) ∧ w'.cell? ⟨gb214, 3, none⟩ = some (.slice A0_3 l0_3.length c0_3) ∧ w'.cell? ⟨gb214, 4, none⟩ = some (.slice (some ad216) l0_4.length c0_4) ∧ w'.cell? ⟨gb215, 0, none⟩ = some (.int .i64 a1_0) ∧ w'.cell? ⟨gb215, 1, none⟩ = some (.int .i64 a1_1) ∧ w'.cell? ⟨gb215, 2, none⟩ = some (.bool a1_2) ∧ w'.cell? ⟨gb215, 3, none⟩ = some (.slice A1_3 l1_3.length c1_3) ∧ w'.cell? ⟨gb215, 4, none⟩ = some (.slice (some ad217) l1_4.length c1_4) ∧ w'.cell? (ad216.add ((x51_2).toNat * 5)) = some (.int .i64 ((rd_T29 l0_4 x51_2).f0)) ∧ w'.cell? ⟨(ad216.add ((x51_2).toNat * 5)).block, (ad216.add ((x51_2).toNat * 5)).off + 1, none⟩ = some (.int .i64 ((rd_T29 l0_4 x51_2).f1)) ∧ w'.cell? ⟨(ad216.add ((x51_2).toNat * 5)).block, (ad216.add ((x51_2).toNat * 5)).off + 2, none⟩ = some (.bool ((rd_T29 l0_4 x51_2).f2)) ∧ w'.cell? ⟨(ad216.add ((x51_2).toNat * 5)).block, (ad216.add ((x51_2).toNat * 5)).off + 3, none⟩ = some (.slice A216_3 ((rd_T29 l0_4 x51_2).f3).length c216_3) ∧ w'.cell? ⟨(ad216.add ((x51_2).toNat * 5)).block, (ad216.add ((x51_2).toNat * 5)).off + 4, none⟩ = some (.slice A216_4 ((rd_T29 l0_4 x51_2).f4).length c216_4) ∧ w'.cell? (ad217.add ((x51_2).toNat * 5)) = some (.int .i64 ((rd_T29 l1_4 x51_2).f0)) ∧ w'.cell? ⟨(ad217.add ((x51_2).toNat * 5)).block, (ad217.add ((x51_2).toNat * 5)).off + 1, none⟩ = some (.int .i64 ((rd_T29 l1_4 x51_2).f1)) ∧ w'.cell? ⟨(ad217.add ((x51_2).toNat * 5)).block, (ad217.add ((x51_2).toNat * 5)).off + 2, none⟩ = some (.bool ((rd_T29 l1_4 x51_2).f2)) ∧ w'.cell? ⟨(ad217.add ((x51_2).toNat * 5)).block, (ad217.add ((x51_2).toNat * 5)).off + 3, none⟩ = some (.slice A217_3 ((rd_T29 l1_4 x51_2).f3).length c217_3) ∧ w'.cell? ⟨(ad217.add ((x51_2).toNat * 5)).block, (ad217.add ((x51_2).toNat * 5)).off + 4, none⟩ = some (.slice A217_4 ((rd_T29 l1_4 x51_2).f4).length c217_4)) (ds := []) #[nN,nN,nN,nN,nN,nN,nN,nN,nN,nN,nN,nN] (by kernel_rfl) rfl rfl ⟨(blk_cell BK214.out 0).trans rfl, (blk_cell BK214.out 1).trans rfl, (blk_cell BK214.out 2).trans rfl, (blk_cell BK214.out 3).trans rfl, (blk_cell BK214.out 4).trans rfl, (blk_cell BK215.out 0).trans rfl, (blk_cell BK215.out 1).trans rfl, (blk_cell BK215.out 2).trans rfl, (blk_cell BK215.out 3).trans rfl, (blk_cell BK215.out 4).trans rfl, ((HB.out.cell (World.block_lt_of_cell? w _ hw216_0)).trans hw216_0), ((HB.out.cell (World.block_lt_of_cell? w _ hw216_1)).trans hw216_1), ((HB.out.cell (World.block_lt_of_cell? w _ hw216_2)).trans hw216_2), ((HB.out.cell (World.block_lt_of_cell? w _ hw216_3)).trans hw216_3), ((HB.out.cell (World.block_lt_of_cell? w _ hw216_4)).trans hw216_4), ((HB.out.cell (World.block_lt_of_cell? w _ hw217_0)).trans hw217_0), ((HB.out.cell (World.block_lt_of_cell? w _ hw217_1)).trans hw217_1), ((HB.out.cell (World.block_lt_of_cell? w _ hw217_2)).trans hw217_2), ((HB.out.cell (World.block_lt_of_cell? w _ hw217_3)).trans hw217_3), ((HB.out.cell (World.block_lt_of_cell? w _ hw217_4)).trans hw217_4)⟩ (fun hHeld => ?_); refine with_tabW spec_Same.tab6 spec_Same.bits6 (fun HT_ HW_ => ?_)
                      generalize wr.drew = w44 at BK214 BK215 HB HR216_3 HR216_4 HR217_3 HR217_4 hx216_0 hx216_1 hx216_2 hx216_3 hx216_4 hx217_0 hx217_1 hx217_2 hx217_3 hx217_4 hHeld ⊢
                      refine pure_ (i := 0) (N := some 54) (v := ?_) (a' := ?_) #[yY,nN,nN,nN,nN,nN,nN,nN,nN,nN,nN,nN] rfl rfl (any_of HT_.out (by kernel_rfl)) (fun _ _ _ h => h) (Or.inl ⟨by rfl, ?_⟩) ?_ ?_
                      rotate_left
                      · intro w'
                        go_simp
                        with_reducible rfl
                      rotate_left
                      · simp only [Act.put, List.setIfInBounds_toArray, List.set_cons_zero, List.set_cons_succ, i64_w, i32_w]
                        rfl
                      refine pure_ (i := 2) (N := some 56) (v := ?_) (a' := ?_) #[yY,nN,yY,nN,nN,nN,nN,nN,nN,nN,nN,nN] rfl rfl (any_of HT_.out (by kernel_rfl)) (fun _ _ _ h => h) (Or.inl ⟨by rfl, ?_⟩) ?_ ?_
                      rotate_left
                      · intro w'
                        go_simp
                        with_reducible rfl
                      rotate_left
                      · simp only [Act.put, List.setIfInBounds_toArray, List.set_cons_zero, List.set_cons_succ, i64_w, i32_w]
                        rfl
                      refine pure_ (i := 5) (N := some 59) (v := ?_) (a' := ?_) #[yY,nN,yY,nN,nN,yY,nN,nN,nN,nN,nN,nN] rfl rfl (any_of HT_.out (by kernel_rfl)) (fun _ _ _ h => h) (Or.inl ⟨by rfl, ?_⟩) ?_ ?_
                      rotate_left
                      · intro w'
                        go_simp
                        with_reducible rfl
                      rotate_left
                      · simp only [Act.put, List.setIfInBounds_toArray, List.set_cons_zero, List.set_cons_succ, i64_w, i32_w]
                        rfl
                      refine pure_ (i := 7) (N := some 61) (v := ?_) (a' := ?_) #[yY,nN,yY,nN,nN,yY,nN,yY,nN,nN,nN,nN] rfl rfl (any_of HT_.out (by kernel_rfl)) (fun _ _ _ h => h) (Or.inl ⟨by rfl, ?_⟩) ?_ ?_
                      rotate_left
                      · intro w'
                        go_simp
                        with_reducible rfl
                      rotate_left
                      · simp only [Act.put, List.setIfInBounds_toArray, List.set_cons_zero, List.set_cons_succ, i64_w, i32_w]
                        rfl
                      refine take_ (i := 1) (N := some 55) (v := ?_) (a' := ?_) #[yY,yY,yY,nN,nN,yY,nN,yY,nN,nN,nN,nN] rfl rfl (take_ofW HT_.out HW_.out (by kernel_rfl)) (fun _ _ _ h => h) (Or.inl ⟨by rfl, ?_⟩) hHeld ?_ ?_
                      rotate_left
                      · rintro w' ⟨s0, s1, s2, s3, s4, s5, s6, s7, s8, s9, s10, s11, s12, s13, s14, s15, s16, s17, s18, s19⟩
                        go_simp
                        with_reducible rfl
                      rotate_left
                      · simp only [Act.put, List.setIfInBounds_toArray, List.set_cons_zero, List.set_cons_succ, i64_w, i32_w]
                        rfl
                      refine pure_ (i := 3) (N := some 57) (v := ?_) (a' := ?_) #[yY,yY,yY,yY,nN,yY,nN,yY,nN,nN,nN,nN] rfl rfl (any_of HT_.out (by kernel_rfl)) (fun _ _ _ h => h) (Or.inl ⟨by rfl, ?_⟩) ?_ ?_
                      rotate_left
                      · intro w'
                        go_simp
                        with_reducible rfl
                      rotate_left
                      · simp only [Act.put, List.setIfInBounds_toArray, List.set_cons_zero, List.set_cons_succ, i64_w, i32_w]
                        rfl
                      refine take_ (i := 4) (N := some 58) (v := ?_) (a' := ?_) #[yY,yY,yY,yY,yY,yY,nN,yY,nN,nN,nN,nN] rfl rfl (take_ofW HT_.out HW_.out (by kernel_rfl)) (fun _ _ _ h => h) (Or.inl ⟨by rfl, ?_⟩) hHeld ?_ ?_
                      rotate_left
                      · rintro w' ⟨s0, s1, s2, s3, s4, s5, s6, s7, s8, s9, s10, s11, s12, s13, s14, s15, s16, s17, s18, s19⟩
                        go_simp
                        with_reducible rfl
                      rotate_left
                      · simp only [Act.put, List.setIfInBounds_toArray, List.set_cons_zero, List.set_cons_succ, i64_w, i32_w]
                        rfl
                      refine take_ (i := 6) (N := some 60) (v := ?_) (a' := ?_) #[yY,yY,yY,yY,yY,yY,yY,yY,nN,nN,nN,nN] rfl rfl (take_ofW HT_.out HW_.out (by kernel_rfl)) (fun _ _ _ h => h) (Or.inl ⟨by rfl, ?_⟩) hHeld ?_ ?_
                      rotate_left
                      · rintro w' ⟨s0, s1, s2, s3, s4, s5, s6, s7, s8, s9, s10, s11, s12, s13, s14, s15, s16, s17, s18, s19⟩
                        go_simp
                        with_reducible rfl
                      rotate_left
                      · simp only [Act.put, List.setIfInBounds_toArray, List.set_cons_zero, List.set_cons_succ, i64_w, i32_w]
                        rfl
                      refine pure_ (i := 8) (N := some 62) (v := ?_) (a' := ?_) #[yY,yY,yY,yY,yY,yY,yY,yY,yY,nN,nN,nN] rfl rfl (any_of HT_.out (by kernel_rfl)) (fun _ _ _ h => h) (Or.inl ⟨by rfl, ?_⟩) ?_ ?_
                      rotate_left
                      · intro w'
                        go_simp
                        with_reducible rfl
                      rotate_left
                      · simp only [Act.put, List.setIfInBounds_toArray, List.set_cons_zero, List.set_cons_succ, i64_w, i32_w]
                        rfl
                      refine take_ (i := 9) (N := some 63) (v := ?_) (a' := ?_) #[yY,yY,yY,yY,yY,yY,yY,yY,yY,yY,nN,nN] rfl rfl (take_ofW HT_.out HW_.out (by kernel_rfl)) (fun _ _ _ h => h) (Or.inl ⟨by rfl, ?_⟩) hHeld ?_ ?_
                      rotate_left
                      · rintro w' ⟨s0, s1, s2, s3, s4, s5, s6, s7, s8, s9, s10, s11, s12, s13, s14, s15, s16, s17, s18, s19⟩
                        go_simp
                        with_reducible rfl
                      rotate_left
                      · simp only [Act.put, List.setIfInBounds_toArray, List.set_cons_zero, List.set_cons_succ, i64_w, i32_w]
                        rfl
                      refine one_ (i := 10) (N := some 64) #[yY,yY,yY,yY,yY,yY,yY,yY,yY,yY,yY,nN] rfl rfl (one_of HT_.out (by kernel_rfl)) (by decide) (fun K hK => ?_)
                      refine goes_ Tryd.func13 (by kernel_rfl) rfl #[.agg #[.int .i64 ((rd_T29 l0_4 x51_2).f0), .int .i64 ((rd_T29 l0_4 x51_2).f1), .bool ((rd_T29 l0_4 x51_2).f2), .slice A216_3 ((rd_T29 l0_4 x51_2).f3).length c216_3, .slice A216_4 ((rd_T29 l0_4 x51_2).f4).length c216_4], .agg #[.int .i64 ((rd_T29 l1_4 x51_2).f0), .int .i64 ((rd_T29 l1_4 x51_2).f1), .bool ((rd_T29 l1_4 x51_2).f2), .slice A217_3 ((rd_T29 l1_4 x51_2).f3).length c217_3, .slice A217_4 ((rd_T29 l1_4 x51_2).f4).length c217_4]] (by rfl) rfl rfl (by (try simp only [List.map_toArray, List.map_cons, List.map_nil]); first | done | rfl | (simp only [List.length_drop, List.length_take]; rfl)) ?_
                      with_reducible refine (ih k2 (by have := HJ2.out; have := HK2.out; omega) ((rd_T29 l0_4 x51_2).f0) ((rd_T29 l0_4 x51_2).f1) ((rd_T29 l0_4 x51_2).f2) _ _ ((rd_T29 l0_4 x51_2).f3) _ _ ((rd_T29 l0_4 x51_2).f4) ((rd_T29 l1_4 x51_2).f0) ((rd_T29 l1_4 x51_2).f1) ((rd_T29 l1_4 x51_2).f2) _ _ ((rd_T29 l1_4 x51_2).f3) _ _ ((rd_T29 l1_4 x51_2).f4) false _ ?side1 ?side2 ?side3 ?side4 ?side5 ?side6 ?side7 ?side8 A40.out).mono ?_
                      (case side1 => repeat (first | exact (Kd.C_below HR216_3.out HB.out) | (with_reducible refine Kd.C_alloc ?_ _) | (with_reducible refine Kd.C_drewN ?_ _) | (with_reducible refine Kd.C_drew ?_)))
                      (case side2 => exact HC216_3.out)
                      (case side3 => repeat (first | exact (Kd.C_below HR216_4.out HB.out) | (with_reducible refine Kd.C_alloc ?_ _) | (with_reducible refine Kd.C_drewN ?_ _) | (with_reducible refine Kd.C_drew ?_)))
                      (case side4 => exact HC216_4.out)
                      (case side5 => repeat (first | exact (Kd.C_below HR217_3.out HB.out) | (with_reducible refine Kd.C_alloc ?_ _) | (with_reducible refine Kd.C_drewN ?_ _) | (with_reducible refine Kd.C_drew ?_)))
                      (case side6 => exact HC217_3.out)
                      (case side7 => repeat (first | exact (Kd.C_below HR217_4.out HB.out) | (with_reducible refine Kd.C_alloc ?_ _) | (with_reducible refine Kd.C_drewN ?_ _) | (with_reducible refine Kd.C_drew ?_)))
                      (case side8 => exact HC217_4.out)
                      rintro e w45 ⟨rfl, hb⟩
                      refine ⟨_, rfl, ?_⟩
                      have n0_ := Aside0.mk (blk_below (g := gb214) (o := .cells #[.int .i64 a0_0, .int .i64 a0_1, .bool a0_2, .slice A0_3 l0_3.length c0_3, .slice (some ad216) l0_4.length c0_4] 29 (0, 0)) (by (with_reducible repeat (first | refine blk_drewN ?_ _ | refine blk_drew ?_ | refine blk_alloc ?_ _)); exact BK214.out) hb)
                      have n1_ := Aside0.mk (blk_below (g := gb215) (o := .cells #[.int .i64 a1_0, .int .i64 a1_1, .bool a1_2, .slice A1_3 l1_3.length c1_3, .slice (some ad217) l1_4.length c1_4] 29 (0, 0)) (by (with_reducible repeat (first | refine blk_drewN ?_ _ | refine blk_drew ?_ | refine blk_alloc ?_ _)); exact BK215.out) hb)
                      have n2_ := Aside0.mk (below_step (by repeat (first | (with_reducible first | exact HB.out | apply below_alloc | apply pw_below_drewN | apply below_drew1 | refine below_set ?_ GE214.out | refine below_set ?_ GE215.out) | exact HB.out)) hb)
                      clear BK214
                      clear BK215
                      clear HB
                      have BK214 := n0_
                      have BK215 := n1_
                      have HB := n2_
                      clear n0_ n1_ n2_
                      (try clear hb)
                      (try clear hb2)
                      (try clear hk)
                      (try clear hi)
                      refine hK.out _ _ ⟨(blk_cell BK214.out 0).trans rfl, (blk_cell BK214.out 1).trans rfl, (blk_cell BK214.out 2).trans rfl, (blk_cell BK214.out 3).trans rfl, (blk_cell BK214.out 4).trans rfl, (blk_cell BK215.out 0).trans rfl, (blk_cell BK215.out 1).trans rfl, (blk_cell BK215.out 2).trans rfl, (blk_cell BK215.out 3).trans rfl, (blk_cell BK215.out 4).trans rfl, ((HB.out.cell (World.block_lt_of_cell? w _ hw216_0)).trans hw216_0), ((HB.out.cell (World.block_lt_of_cell? w _ hw216_1)).trans hw216_1), ((HB.out.cell (World.block_lt_of_cell? w _ hw216_2)).trans hw216_2), ((HB.out.cell (World.block_lt_of_cell? w _ hw216_3)).trans hw216_3), ((HB.out.cell (World.block_lt_of_cell? w _ hw216_4)).trans hw216_4), ((HB.out.cell (World.block_lt_of_cell? w _ hw217_0)).trans hw217_0), ((HB.out.cell (World.block_lt_of_cell? w _ hw217_1)).trans hw217_1), ((HB.out.cell (World.block_lt_of_cell? w _ hw217_2)).trans hw217_2), ((HB.out.cell (World.block_lt_of_cell? w _ hw217_3)).trans hw217_3), ((HB.out.cell (World.block_lt_of_cell? w _ hw217_4)).trans hw217_4)⟩ (fun hHeld => ?_)
                      clear hK K
                      refine norm_ (a' := ?_) ?_ ?_
                      rotate_left
                      · show Act.put _ (some 64) _ = _
                        simp only [Act.put, List.setIfInBounds_toArray, List.set_cons_zero, List.set_cons_succ, i64_w, i32_w]
                        rfl
                      refine pure_ (i := 11) (N := some 65) (v := ?_) (a' := ?_) #[yY,yY,yY,yY,yY,yY,yY,yY,yY,yY,yY,yY] rfl rfl (any_of HT_.out (by kernel_rfl)) (fun _ _ _ h => h) (Or.inl ⟨by rfl, ?_⟩) ?_ ?_
                      rotate_left
                      · intro w'
                        go_simp
                        with_reducible rfl
                      rotate_left
                      · simp only [Act.put, List.setIfInBounds_toArray, List.set_cons_zero, List.set_cons_succ, i64_w, i32_w]
                        rfl
                      refine done_ (done_of HT_.out (by kernel_rfl)) ?_
                      try go_wp2
                      go_ret
                      exact ⟨by first | rfl | (simp [errW_none, errW_some] <;> rfl) | (simp [*, errW_none, errW_some] <;> rfl), by repeat (first | (with_reducible first | exact HB.out | apply below_alloc | apply pw_below_drewN | apply below_drew1 | refine below_set ?_ GE214.out | refine below_set ?_ GE215.out) | exact HB.out)⟩
                  · rw [if_neg c39] at H
                    exact absurd H (by simp)
                · rw [if_neg c38] at H
                  exact absurd H (by simp)
              · rw [if_neg c37] at H
                exact absurd H (by simp)
            · rw [if_neg c36] at H
              have c36b0 : decide (x51_2 < (l0_4.length : Int)) = false := decide_eq_false c36
              clear c36
              obtain rfl := Option.some.inj H
              go_wp2
              go_ret
              exact ⟨by first | rfl | (simp [errW_none, errW_some] <;> rfl) | (simp [*, errW_none, errW_some] <;> rfl), by repeat (first | (with_reducible first | exact HB.out | apply below_alloc | apply pw_below_drewN | apply below_drew1 | refine below_set ?_ GE214.out | refine below_set ?_ GE215.out) | exact HB.out)⟩

end Go.Proofs.YtejbpbdlolehnaaDoor.PFnEncode
namespace Go.Proofs.YtejbpbdlolehnaaDoor.Ber
open Go.RowKit Go.Proofs.YtejbpbdlolehnaaDoorW.PrintWords Go.Proofs.YtejbpbdlolehnaaDoor.PFnEncode Go.Proofs.YtejbpbdlolehnaaDoor.Within Go.Proofs.YtejbpbdlolehnaaDoor.Tree
set_option linter.unusedVariables false
set_option linter.unusedSimpArgs false
theorem dpx_le : ∀ x : S29, dpx x ≤ tsize x
  | ⟨a, b, c, d, l⟩ => by
    have := dpxL_le l
    rw [dpx, tsize]
    omega
where dpxL_le : ∀ l : List S29, dpxL l ≤ tsizeL l
  | [] => by rw [dpxL]; exact Nat.zero_le _
  | x :: xs => by
    have h1 := dpx_le x
    have h2 := dpxL_le xs
    rw [dpxL, tsizeL]
    omega
mutual
theorem size_eq : ∀ x : S29, tsize x < 4611686018427387904 → ∃ k, spec_Size.f k x.f0 x.f1 x.f2 x.f3 x.f4 = some (tsize x : Int)
  | ⟨a, b, c, d, l⟩, h => by
    rw [tsize] at h ⊢
    obtain ⟨k, hk⟩ := sizeL_eq l (1 + (d.length : Int)) [] (by have := len_le_tsizeL l; simp; omega) (by omega) (by omega) (by omega)
    refine ⟨k + 1, ?_⟩
    have e : wrap64 (1 + (d.length : Int)) = 1 + (d.length : Int) := by unfold wrap64; omega
    rw [spec_Size.f]
    rw [e]
    have e2 : (1 + (d.length : Int)) + (tsizeL l : Int) = ((1 + d.length + tsizeL l : Nat) : Int) := by push_cast; omega
    rw [e2] at hk
    simpa using hk
theorem sizeL_eq : ∀ (l : List S29) (acc : Int) (pre : List S29), pre.length + l.length < 4611686018427387904 → tsizeL l < 4611686018427387904 → 0 ≤ acc → acc + tsizeL l < 4611686018427387904 → ∃ k, spec_Size.l0 k acc (pre ++ l) ((pre ++ l).length : Int) (pre.length : Int) = some (acc + tsizeL l)
  | [], acc, pre, _, _, _, _ => ⟨1, by rw [spec_Size.l0]; simp [tsizeL]⟩
  | x :: xs, acc, pre, h1, h2, h3, h4 => by
    rw [tsizeL] at h2 h4 ⊢
    push_cast at h4
    rw [List.length_cons] at h1
    obtain ⟨k1, e1⟩ := size_eq x (by omega)
    have ea : wrap64 (acc + (tsize x : Int)) = acc + (tsize x : Int) := by unfold wrap64; omega
    obtain ⟨k2, e2⟩ := sizeL_eq xs (acc + (tsize x : Int)) (pre ++ [x]) (by simp; omega) (by omega) (by omega) (by omega)
    have e1' := at_rounds (fun k => spec_Size.mono x.f0 x.f1 x.f2 x.f3 x.f4 k) (Nat.le_max_left k1 k2) e1
    have e2' := at_rounds (fun k => (spec_Size.mono_l k).2 (acc + (tsize x : Int)) _ _ _) (Nat.le_max_right k1 k2) e2
    refine ⟨max k1 k2 + 1, ?_⟩
    rw [spec_Size.l0, if_pos (by simp; omega), if_pos (by omega), if_pos (by simp; omega), rd_mid, e1']
    show spec_Size.l0 _ (wrap64 (acc + (tsize x : Int))) _ _ (wrap64 ((pre.length : Int) + 1)) = _
    have ew : wrap64 ((pre.length : Int) + 1) = (((pre ++ [x]).length : Nat) : Int) := by
      unfold wrap64
      simp
      omega
    have e3 : acc + ((tsize x + tsizeL xs : Nat) : Int) = acc + (tsize x : Int) + (tsizeL xs : Int) := by push_cast; omega
    rw [ew, ea, e3]
    simpa using e2'
end
mutual
theorem deep_eq : ∀ x : S29, tsize x < 4611686018427387904 → ∃ k, spec_Deep.f k x.f0 x.f1 x.f2 x.f3 x.f4 = some (dpx x : Int)
  | ⟨a, b, c, d, l⟩, h => by
    have hle := dpx_le ⟨a, b, c, d, l⟩
    rw [tsize] at h hle
    rw [dpx] at hle ⊢
    obtain ⟨k, hk⟩ := deepL_eq l 0 [] (by have := len_le_tsizeL l; simp; omega) (by omega) (Int.le_refl 0) (by omega) (by omega)
    refine ⟨k + 1, ?_⟩
    rw [spec_Deep.f]
    have e2 : max (0 : Int) (dpxL l : Int) + 1 = ((dpxL l + 1 : Nat) : Int) := by push_cast; omega
    rw [e2] at hk
    simpa using hk
theorem deepL_eq : ∀ (l : List S29) (acc : Int) (pre : List S29), pre.length + l.length < 4611686018427387904 → tsizeL l < 4611686018427387904 → 0 ≤ acc → acc < 4611686018427387904 → dpxL l < 4611686018427387904 → ∃ k, spec_Deep.l0 k acc (pre ++ l) ((pre ++ l).length : Int) (pre.length : Int) = some (max acc (dpxL l) + 1)
  | [], acc, pre, _, _, h3, h4, h5 => ⟨1, by
    have e : wrap64 (acc + 1) = max acc ((dpxL [] : Nat) : Int) + 1 := by rw [dpxL]; unfold wrap64; omega
    rw [spec_Deep.l0, ← e]
    simp⟩
  | x :: xs, acc, pre, h1, h2, h3, h4, h5 => by
    rw [tsizeL] at h2
    rw [dpxL] at h5 ⊢
    rw [List.length_cons] at h1
    obtain ⟨k1, e1⟩ := deep_eq x (by omega)
    have em : mx acc (dpx x : Int) = max acc (dpx x : Int) := by
      unfold mx
      split <;> omega
    obtain ⟨k2, e2⟩ := deepL_eq xs (max acc (dpx x : Int)) (pre ++ [x]) (by simp; omega) (by omega) (by omega) (by omega) (by omega)
    have e1' := at_rounds (fun k => spec_Deep.mono x.f0 x.f1 x.f2 x.f3 x.f4 k) (Nat.le_max_left k1 k2) e1
    have e2' := at_rounds (fun k => (spec_Deep.mono_l k).2 (max acc (dpx x : Int)) _ _ _) (Nat.le_max_right k1 k2) e2
    refine ⟨max k1 k2 + 1, ?_⟩
    rw [spec_Deep.l0, if_pos (by simp; omega), if_pos (by omega), if_pos (by simp; omega), rd_mid, e1']
    show spec_Deep.l0 _ (mx acc (dpx x : Int)) _ _ (wrap64 ((pre.length : Int) + 1)) = _
    have ew : wrap64 ((pre.length : Int) + 1) = (((pre ++ [x]).length : Nat) : Int) := by
      unfold wrap64
      simp
      omega
    have e3 : max acc ((max (dpx x) (dpxL xs) : Nat) : Int) = max (max acc (dpx x : Int)) (dpxL xs : Int) := by omega
    rw [ew, em, e3]
    simpa using e2'
end
/-- 'fits' ends; true: the tree is good, small, and not deep. -/
theorem fits_all (x : S29) (h : tsize x < 4611686018427387904) : ∃ k b, laws_fits.f k x.f0 x.f1 x.f2 x.f3 x.f4 = some b ∧ (b = true → good x = true ∧ tsize x ≤ 5000 ∧ dpx x ≤ 20) := by
  obtain ⟨k1, e1⟩ := size_eq x h
  obtain ⟨k2, e2⟩ := deep_eq x h
  obtain ⟨k3, e3⟩ := proper_ex x h
  have e1' := at_rounds (fun k => spec_Size.mono x.f0 x.f1 x.f2 x.f3 x.f4 k) (show k1 ≤ k1 + k2 + k3 by omega) e1
  have e2' := at_rounds (fun k => spec_Deep.mono x.f0 x.f1 x.f2 x.f3 x.f4 k) (show k2 ≤ k1 + k2 + k3 by omega) e2
  have e3' := at_rounds (fun k => spec_Proper.mono x.f0 x.f1 x.f2 x.f3 x.f4 k) (show k3 ≤ k1 + k2 + k3 by omega) e3
  refine ⟨k1 + k2 + k3, (decide ((tsize x : Int) ≤ 5000) && decide ((dpx x : Int) ≤ 20) && good x), ?_, fun hb => by simp only [Bool.and_eq_true, decide_eq_true_eq] at hb; exact ⟨hb.2, by omega, by omega⟩⟩
  rw [laws_fits.f, e1', e2', e3']
  simp only [Option.bind_some]
  by_cases h1 : (tsize x : Int) ≤ 5000
  · by_cases h2 : (dpx x : Int) ≤ 20
    · simp [h1, h2]
    · simp [h1, h2]
  · simp [h1]
mutual
theorem kept_kp : ∀ x : S29, good x = true → tsize x < 4611686018427387904 → ∃ k r, spec_Kept.f k x.f0 x.f1 x.f2 x.f3 x.f4 = some r ∧ (r = true → kp x)
  | ⟨a, b, c, d, l⟩, hg, h => by
    rw [tsize] at h
    obtain ⟨k, r, hk, hr⟩ := keptL_kp l [] (by rw [good] at hg; simp only [Bool.and_eq_true] at hg; exact hg.2) (by have := len_le_tsizeL l; simp; omega) (by omega)
    have hl0 : c = false → l = [] := fun hc => by
      rw [good] at hg
      simp only [Bool.and_eq_true] at hg
      subst hc
      simpa using hg.1.2
    simp only [List.nil_append, List.length_nil] at hk
    rw [show (((0 : Nat) : Int)) = 0 from rfl] at hk
    by_cases ha : a = 0
    · cases c with
      | false =>
        have := hl0 rfl
        subst this
        have key : ∃ s, spec_Kept.j0 (k + 2) true a b false d [] = some s ∧ (s = true → (b = 1 ∧ d.length = 1) ∨ ((b = 2 ∨ b = 10) ∧ 1 ≤ d.length ∧ d.length ≤ 8) ∨ b = 4 ∨ (b = 5 ∧ d.length = 0)) := by
          rw [spec_Kept.j0, if_pos rfl]
          by_cases h1 : b = 1
          · rw [if_pos h1]
            exact ⟨_, rfl, fun h => .inl ⟨h1, by have h' : (d.length : Int) = 1 := (by simpa using h); omega⟩⟩
          rw [if_neg h1]
          by_cases h2 : b = 2
          · have e : (b == 2) = true := by simp [h2]
            rw [if_pos h2, spec_Kept.j1, if_pos e]
            by_cases h3 : (d.length : Int) ≥ 1
            · rw [if_pos h3]
              exact ⟨_, rfl, fun h => .inr (.inl ⟨.inl h2, by omega, by have h' : (d.length : Int) ≤ 8 := (by simpa using h); omega⟩)⟩
            · rw [if_neg h3]
              exact ⟨_, rfl, fun h => by cases h⟩
          rw [if_neg h2, spec_Kept.j1]
          by_cases h10 : b = 10
          · have e : (b == 10) = true := by simp [h10]
            rw [if_pos e]
            by_cases h3 : (d.length : Int) ≥ 1
            · rw [if_pos h3]
              exact ⟨_, rfl, fun h => .inr (.inl ⟨.inr h10, by omega, by have h' : (d.length : Int) ≤ 8 := (by simpa using h); omega⟩)⟩
            · rw [if_neg h3]
              exact ⟨_, rfl, fun h => by cases h⟩
          · have e : ¬ (b == 10) = true := by simpa using h10
            rw [if_neg e]
            by_cases h4 : b = 4
            · rw [if_pos h4]
              exact ⟨_, rfl, fun _ => .inr (.inr (.inl h4))⟩
            rw [if_neg h4]
            by_cases h5 : b = 5
            · rw [if_pos h5]
              exact ⟨_, rfl, fun h => .inr (.inr (.inr ⟨h5, by simpa using h⟩))⟩
            · rw [if_neg h5]
              exact ⟨_, rfl, fun h => by cases h⟩
        obtain ⟨s, e0, hs⟩ := key
        refine ⟨k + 3, s, ?_, fun h => ?_⟩
        · rw [spec_Kept.f, if_pos ha]
          exact e0
        · rw [kp]
          exact ⟨fun _ _ => hs h, fun _ hc => absurd hc (by simp), by rw [kpL]; trivial⟩
      | true =>
        have key : ∃ s, spec_Kept.j0 (k + 2) false a b true d l = some s ∧ (s = true → (b = 16 ∨ b = 17) ∧ kpL l) := by
          rw [spec_Kept.j0, if_neg Bool.false_ne_true, if_pos ha]
          by_cases h16 : b = 16
          · rw [if_pos h16, spec_Kept.j2, if_neg Bool.false_ne_true]
            exact ⟨r, hk, fun h => ⟨.inl h16, hr h⟩⟩
          · rw [if_neg h16, spec_Kept.j2]
            by_cases h17 : b = 17
            · have e : ¬ (b != 17) = true := by simp [h17]
              rw [if_neg e]
              exact ⟨r, hk, fun h => ⟨.inr h17, hr h⟩⟩
            · have e : (b != 17) = true := by simpa using h17
              rw [if_pos e]
              exact ⟨_, rfl, fun h => by cases h⟩
        obtain ⟨s, e0, hs⟩ := key
        refine ⟨k + 3, s, ?_, fun h => ?_⟩
        · rw [spec_Kept.f, if_pos ha]
          exact e0
        · rw [kp]
          exact ⟨fun _ hc => absurd hc (by simp), fun _ _ => (hs h).1, (hs h).2⟩
    · have key : spec_Kept.j0 (k + 2) false a b c d l = some r := by
        rw [spec_Kept.j0, if_neg Bool.false_ne_true, if_neg ha, spec_Kept.j2, if_neg Bool.false_ne_true]
        exact hk
      refine ⟨k + 3, r, ?_, fun h => ?_⟩
      · rw [spec_Kept.f, if_neg ha]
        exact key
      · rw [kp]
        exact ⟨fun h0 => absurd h0 ha, fun h0 => absurd h0 ha, hr h⟩
theorem keptL_kp : ∀ (l : List S29) (pre : List S29), goodL l = true → pre.length + l.length < 4611686018427387904 → tsizeL l < 4611686018427387904 → ∃ k r, spec_Kept.l0 k (pre ++ l) ((pre ++ l).length : Int) (pre.length : Int) = some r ∧ (r = true → kpL l)
  | [], pre, _, _, _ => ⟨1, true, by rw [spec_Kept.l0]; simp, fun _ => by rw [kpL]; trivial⟩
  | x :: xs, pre, hg, h1, h2 => by
    rw [goodL, Bool.and_eq_true] at hg
    rw [tsizeL] at h2
    rw [List.length_cons] at h1
    obtain ⟨k1, r1, e1, g1⟩ := kept_kp x hg.1 (by omega)
    obtain ⟨k2, r2, e2, g2⟩ := keptL_kp xs (pre ++ [x]) hg.2 (by simp; omega) (by omega)
    have e1' := at_rounds (fun k => (spec_Kept.mono_l k).1 x.f0 x.f1 x.f2 x.f3 x.f4) (Nat.le_max_left k1 k2) e1
    have e2' := at_rounds (fun k => (spec_Kept.mono_l k).2.2.2.2 _ _ _) (Nat.le_max_right k1 k2) e2
    have ew : wrap64 ((pre.length : Int) + 1) = (((pre ++ [x]).length : Nat) : Int) := by
      unfold wrap64
      simp
      omega
    refine ⟨max k1 k2 + 1, if r1 = true then r2 else false, ?_, fun h => ?_⟩
    · rw [spec_Kept.l0, if_pos (by simp; omega), if_pos (by omega), if_pos (by simp; omega), rd_mid, e1']
      show (if r1 = true then spec_Kept.l0 _ _ _ (wrap64 ((pre.length : Int) + 1)) else some false) = _
      rw [ew]
      cases r1
      · rfl
      · simpa using e2'
    · rw [kpL]
      cases r1 with
      | false => exact absurd h (by simp)
      | true => exact ⟨g1 rfl, g2 (by simpa using h)⟩
end
mutual
theorem same_eq : ∀ x : S29, tsize x < 4611686018427387904 → ∃ k, spec_Same.f k x.f0 x.f1 x.f2 x.f3 x.f4 x.f0 x.f1 x.f2 x.f3 x.f4 = some true
  | ⟨a, b, c, d, l⟩, h => by
    rw [tsize] at h
    obtain ⟨k, hk⟩ := sameL_eq a b c d l l [] rfl (by have := len_le_tsizeL l; simp; omega) (by omega)
    simp only [List.length_nil] at hk
    rw [show (((0 : Nat) : Int)) = 0 from rfl] at hk
    have e1 : ¬ (c != c) = true := by simp
    have e2 : ((l.length : Int) != (l.length : Int)) = false := by simp
    have key : spec_Same.j0 (k + 1) false a b c d l a b c d l = some true := by
      rw [spec_Same.j0, if_neg Bool.false_ne_true]
      exact hk
    refine ⟨k + 2, ?_⟩
    rw [spec_Same.f, if_pos rfl, if_pos rfl, if_neg e1, e2, key]
    simp
theorem sameL_eq : ∀ (a b : Int) (c : Bool) (d : List Int) (l0 l pre : List S29), l0 = pre ++ l → l0.length < 4611686018427387904 → tsizeL l < 4611686018427387904 → ∃ k, spec_Same.l0 k (l0.length : Int) (pre.length : Int) a b c d l0 a b c d l0 = some true
  | a, b, c, d, l0, [], pre, hl, _, _ => ⟨1, by rw [spec_Same.l0, hl]; simp⟩
  | a, b, c, d, l0, x :: xs, pre, hl, h1, h2 => by
    rw [tsizeL] at h2
    obtain ⟨k1, e1⟩ := same_eq x (by omega)
    obtain ⟨k2, e2⟩ := sameL_eq a b c d l0 xs (pre ++ [x]) (by rw [hl]; simp) h1 (by omega)
    have e1' := at_rounds (fun k => (spec_Same.mono_l k).1 x.f0 x.f1 x.f2 x.f3 x.f4 x.f0 x.f1 x.f2 x.f3 x.f4) (Nat.le_max_left k1 k2) e1
    have e2' := at_rounds (fun k => (spec_Same.mono_l k).2.2 _ _ _ _ _ _ _ _ _ _ _ _) (Nat.le_max_right k1 k2) e2
    have hlen : pre.length < l0.length := by rw [hl]; simp
    have ew : wrap64 ((pre.length : Int) + 1) = (((pre ++ [x]).length : Nat) : Int) := by
      unfold wrap64
      simp
      omega
    refine ⟨max k1 k2 + 1, ?_⟩
    have er : rd_T29 l0 (pre.length : Int) = x := by rw [hl]; exact rd_mid pre x xs
    rw [spec_Same.l0, if_pos (by omega), if_pos (by omega), if_pos (by omega), if_pos (by omega), er, e1']
    show spec_Same.l0 _ _ (wrap64 ((pre.length : Int) + 1)) _ _ _ _ _ _ _ _ _ _ = _
    rw [ew]
    exact e2'
end
/-- a packet within the depth and the room is read as it is -/
theorem wi_fit : ∀ (d : Nat) (p : S25) (r : Int), dpx (mir p) ≤ d → (tsize (mir p) : Int) ≤ r → wi d p r = (mir p, r - tsize (mir p)) := by
  intro d
  induction d with
  | zero =>
    rintro ⟨a, b, c, dd, l⟩ r hd
    rw [mir, dpx] at hd
    omega
  | succ d ih =>
    have hL : ∀ (p : S25) (ks done : List S25) (r : Int), p.f4 = done ++ ks → dpxL (mirL ks) ≤ d → (tsizeL (mirL ks) : Int) ≤ r → wiL d p ks (mirL done) r = (⟨p.f0, p.f1, p.f2, p.f3, mirL p.f4⟩, r - tsizeL (mirL ks)) := by
      intro p ks
      induction ks with
      | nil =>
        intro done r hp _ _
        rw [wiL, hp]
        simp [mirL, tsizeL]
      | cons k ks ihk =>
        intro done r hp hd hr
        rw [mirL, dpxL] at hd
        rw [mirL, tsizeL] at hr
        push_cast at hr
        have h1 := ih k r (by omega) (by omega)
        rw [wiL, if_neg (by omega), h1]
        have e : mirL done ++ [mir k] = mirL (done ++ [k]) := by rw [mirL_append]; rfl
        rw [e, ihk (done ++ [k]) (r - tsize (mir k)) (by rw [hp]; simp) (by omega) (by omega), mirL, tsizeL]
        push_cast
        congr 1
        omega
    rintro ⟨a, b, c, dd, l⟩ r hd hr
    rw [mir, dpx] at hd
    rw [mir, tsize] at hr
    push_cast at hr
    have := hL ⟨a, b, c, dd, l⟩ l [] (r - (1 + (dd.length : Int))) rfl (by omega) (by omega)
    rw [wi, if_neg (by show ¬ r - (1 + (dd.length : Int)) < 0; omega)]
    show wiL d ⟨a, b, c, dd, l⟩ l (mirL []) (r - (1 + (dd.length : Int))) = _
    rw [this, mir, tsize]
    push_cast
    congr 1
    omega
end Go.Proofs.YtejbpbdlolehnaaDoor.Ber
namespace Go.Proofs.YtejbpbdlolehnaaDoor.Ber
open Go.RowKit Go.Proofs.YtejbpbdlolehnaaDoorW.PrintWords Go.Proofs.YtejbpbdlolehnaaDoor.PFnEncode Go.Proofs.YtejbpbdlolehnaaDoor.Within Go.Proofs.YtejbpbdlolehnaaDoor.Tree Go.Proofs.YtejbpbdlolehnaaDoor.Num Go.Proofs.YtejbpbdlolehnaaDoor.Ident
set_option linter.unusedVariables false
set_option linter.unusedSimpArgs false
end Go.Proofs.YtejbpbdlolehnaaDoor.Ber
namespace Go.Proofs.YtejbpbdlolehnaaDoor.Open
open Go.RowKit Go.Proofs.YtejbpbdlolehnaaDoorW.PrintWords Go.Proofs.YtejbpbdlolehnaaDoor.PFnEncode Go.Proofs.YtejbpbdlolehnaaDoor.Within
set_option linter.unusedVariables false
set_option linter.unusedSimpArgs false
theorem wf_u8 {x : Int} (h : (Lit.int .u8 x).wf = true) : 0 ≤ x ∧ x < 256 := by
  simp only [Lit.wf, IntKind.min, IntKind.max, IntKind.signed, IntKind.bits, Bool.and_eq_true, decide_eq_true_eq] at h
  simp at h
  omega
section
variable {H : Type} {enc : TypeId × Value → H} {W : World}
theorem opensBy (N : Nat) : Opens enc Tryd.prog W (N + 2) 22 (Kd.slice 5 (Kd.int .u8)) (fun l => l.length ≤ reachBytes ∧ ∀ y ∈ l, 0 ≤ y ∧ y < 256) :=
  (Opens.slice (opens_int (N + 1) Tryd.underlying5) Tryd.underlying22 (by kernel_rfl) (of_decide_eq_true (by kernel_rfl))).imp (fun l h => ⟨h.1, fun y hy => wf_u8 (h.2 y hy)⟩)
end
end Go.Proofs.YtejbpbdlolehnaaDoor.Open
namespace Go.Proofs.YtejbpbdlolehnaaDoor.Ber
open Go.RowKit Go.Proofs.YtejbpbdlolehnaaDoorW.PrintWords Go.Proofs.YtejbpbdlolehnaaDoorW.PrintLast Go.Proofs.YtejbpbdlolehnaaDoor.Buf Go.Proofs.YtejbpbdlolehnaaDoor.Pk Go.Proofs.YtejbpbdlolehnaaDoor.Tree Go.Proofs.YtejbpbdlolehnaaDoor.Num Go.Proofs.YtejbpbdlolehnaaDoor.Ident Go.Proofs.YtejbpbdlolehnaaDoor.PFnEncode Go.Proofs.YtejbpbdlolehnaaDoor.Within
set_option linter.unusedVariables false
set_option linter.unusedSimpArgs false
mutual
theorem lens_of : ∀ (p : S25), tsize (mir p) ≤ 1000000 → lens p = true
  | ⟨a, b, c, d, l⟩, h => by
    rw [mir, tsize] at h
    have hl := lensL_of l (by omega)
    have hn := len_le l
    rw [lens, hl]
    simp only [Bool.and_true, Bool.and_eq_true, decide_eq_true_eq]
    have : reachBytes = 140737488351232 := by decide
    omega
theorem lensL_of : ∀ (l : List S25), tsizeL (mirL l) ≤ 1000000 → lensL l = true
  | [], _ => rfl
  | x :: xs, h => by
    rw [mirL, tsizeL] at h
    rw [lensL, lens_of x (by omega), lensL_of xs (by omega)]
    rfl
theorem len_le : ∀ (l : List S25), l.length ≤ tsizeL (mirL l)
  | [] => Nat.zero_le _
  | ⟨a, b, c, d, l'⟩ :: xs => by
    rw [mirL, tsizeL, mir, tsize, List.length_cons]
    have := len_le xs
    omega
end
end Go.Proofs.YtejbpbdlolehnaaDoor.Ber
