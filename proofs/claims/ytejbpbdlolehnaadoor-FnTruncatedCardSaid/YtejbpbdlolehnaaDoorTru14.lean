/- Parts of the proof of one law, in the order in which they build. Plain maths: the reference's fits, Kept and Same, and the tree of an answer. · The bytes of an argument are bytes. -/
import Derived.Test.YtejbpbdlolehnaaDoorTru1
import Derived.Test.YtejbpbdlolehnaaDoorTru2
import Derived.Test.YtejbpbdlolehnaaDoorTru3
import Derived.Test.YtejbpbdlolehnaaDoorTru4
import Derived.Test.YtejbpbdlolehnaaDoorTru5
import Derived.Test.YtejbpbdlolehnaaDoorTru6
import Derived.Test.YtejbpbdlolehnaaDoorTru7
import Derived.Test.YtejbpbdlolehnaaDoorTru8
import Derived.Test.YtejbpbdlolehnaaDoorTru9
import Derived.Test.YtejbpbdlolehnaaDoorTru11
import Derived.Test.YtejbpbdlolehnaaDoorTru12
import Derived.Test.YtejbpbdlolehnaaDoorTru13
namespace Go.Proofs.YtejbpbdlolehnaaDoor.PFnEncode
open Go.RowKit Go.Proofs.YtejbpbdlolehnaaDoorW.PrintWords Go.Proofs.YtejbpbdlolehnaaDoorW.PrintLast Go.Proofs.YtejbpbdlolehnaaDoorW.PrintMore
attribute [local go_sem] max2_int min2_int max_two min_two max_three min_three max_four min_four   -- for this text's walks alone
set_option linter.unusedVariables false
set_option linter.unusedSimpArgs false

/-! ### spec_Kept: function 9 -/
mutual
def spec_Kept.j0 : Nat → Bool → Int → Int → Bool → List Int → List (S29) → Option (Bool)
  | 0, _, _, _, _, _, _ => none
  | k + 1, x12, x121000, x121001, x121002, x121003, x121004 => if x12 = true then (if x121001 = 1 then (some ((x121003.length : Int) == 1)) else (if x121001 = 2 then (spec_Kept.j1 k x121001 (x121001 == 2) x121000 x121001 x121002 x121003 x121004) else (spec_Kept.j1 k x121001 (x121001 == 10) x121000 x121001 x121002 x121003 x121004))) else (if x121000 = 0 then (if x121001 = 16 then (spec_Kept.j2 k false x121000 x121001 x121002 x121003 x121004) else (spec_Kept.j2 k (x121001 != 17) x121000 x121001 x121002 x121003 x121004)) else (spec_Kept.j2 k false x121000 x121001 x121002 x121003 x121004))
def spec_Kept.j1 : Nat → Int → Bool → Int → Int → Bool → List Int → List (S29) → Option (Bool)
  | 0, _, _, _, _, _, _, _ => none
  | k + 1, x14, x21, x121000, x121001, x121002, x121003, x121004 => if x21 = true then (if (x121003.length : Int) ≥ 1 then (some (decide ((x121003.length : Int) ≤ 8))) else (some false)) else (if x14 = 4 then (some true) else (if x14 = 5 then (some ((x121003.length : Int) == 0)) else (some false)))
def spec_Kept.j2 : Nat → Bool → Int → Int → Bool → List Int → List (S29) → Option (Bool)
  | 0, _, _, _, _, _, _ => none
  | k + 1, x54, x121000, x121001, x121002, x121003, x121004 => if x54 = true then (some false) else (spec_Kept.l0 k x121004 (x121004.length : Int) 0)
def spec_Kept.l0 : Nat → List (S29) → Int → Int → Option (Bool)
  | 0, _, _, _ => none
  | k + 1, x56, x57, x58 => if x58 < x57 then (if 0 ≤ x58 then (if x58 < (x56.length : Int) then ((spec_Kept.f k ((rd_T29 x56 x58).f0) ((rd_T29 x56 x58).f1) ((rd_T29 x56 x58).f2) ((rd_T29 x56 x58).f3) ((rd_T29 x56 x58).f4)).bind fun t123 => (if t123 = true then (spec_Kept.l0 k x56 x57 (wrap64 (x58 + 1))) else (some false))) else (none)) else (none)) else (some true)
def spec_Kept.f : Nat → Int → Int → Bool → List Int → List (S29) → Option (Bool)
  | 0, _, _, _, _, _ => none
  | k + 1, a0_0, a0_1, a0_2, l0_3, l0_4 => if a0_0 = 0 then (spec_Kept.j0 k (!a0_2) a0_0 a0_1 a0_2 l0_3 l0_4) else (spec_Kept.j0 k false a0_0 a0_1 a0_2 l0_3 l0_4)
end
theorem spec_Kept.mono_l : ∀ k, (∀ y0 y1 y2 y3 y4, LeO (spec_Kept.f k y0 y1 y2 y3 y4) (spec_Kept.f (k + 1) y0 y1 y2 y3 y4)) ∧ (∀ y0 y1 y2 y3 y4 y5, LeO (spec_Kept.j0 k y0 y1 y2 y3 y4 y5) (spec_Kept.j0 (k + 1) y0 y1 y2 y3 y4 y5)) ∧ (∀ y0 y1 y2 y3 y4 y5 y6, LeO (spec_Kept.j1 k y0 y1 y2 y3 y4 y5 y6) (spec_Kept.j1 (k + 1) y0 y1 y2 y3 y4 y5 y6)) ∧ (∀ y0 y1 y2 y3 y4 y5, LeO (spec_Kept.j2 k y0 y1 y2 y3 y4 y5) (spec_Kept.j2 (k + 1) y0 y1 y2 y3 y4 y5)) ∧ (∀ y0 y1 y2, LeO (spec_Kept.l0 k y0 y1 y2) (spec_Kept.l0 (k + 1) y0 y1 y2))
  | 0 => ⟨fun _ _ _ _ _ r h => by simp [spec_Kept.f] at h, fun _ _ _ _ _ _ r h => by simp [spec_Kept.j0] at h, fun _ _ _ _ _ _ _ r h => by simp [spec_Kept.j1] at h, fun _ _ _ _ _ _ r h => by simp [spec_Kept.j2] at h, fun _ _ _ r h => by simp [spec_Kept.l0] at h⟩
  | k + 1 => by
    obtain ⟨ih0, ih1, ih2, ih3, ih4⟩ := spec_Kept.mono_l k
    refine ⟨?_, ?_, ?_, ?_, ?_⟩
    · intro y0 y1 y2 y3 y4
      unfold spec_Kept.f
      repeat' first
      | (with_reducible exact ih0 _ _ _ _ _)
      | (with_reducible exact ih1 _ _ _ _ _ _)
      | (with_reducible exact ih2 _ _ _ _ _ _ _)
      | (with_reducible exact ih3 _ _ _ _ _ _)
      | (with_reducible exact ih4 _ _ _)
      | (with_reducible exact LeO.refl _)
      | (with_reducible exact LeO.none _)
      | (with_reducible refine LeO.ite ?_ ?_)
      | (with_reducible refine LeO.bind ?_ (fun _ => ?_))
      | exact ih0 _ _ _ _ _
      | exact ih1 _ _ _ _ _ _
      | exact ih2 _ _ _ _ _ _ _
      | exact ih3 _ _ _ _ _ _
      | exact ih4 _ _ _
      | exact LeO.none _
      | refine LeO.ite ?_ ?_
      | refine LeO.bind ?_ (fun _ => ?_)
    · intro y0 y1 y2 y3 y4 y5
      unfold spec_Kept.j0
      repeat' first
      | (with_reducible exact ih0 _ _ _ _ _)
      | (with_reducible exact ih1 _ _ _ _ _ _)
      | (with_reducible exact ih2 _ _ _ _ _ _ _)
      | (with_reducible exact ih3 _ _ _ _ _ _)
      | (with_reducible exact ih4 _ _ _)
      | (with_reducible exact LeO.refl _)
      | (with_reducible exact LeO.none _)
      | (with_reducible refine LeO.ite ?_ ?_)
      | (with_reducible refine LeO.bind ?_ (fun _ => ?_))
      | exact ih0 _ _ _ _ _
      | exact ih1 _ _ _ _ _ _
      | exact ih2 _ _ _ _ _ _ _
      | exact ih3 _ _ _ _ _ _
      | exact ih4 _ _ _
      | exact LeO.none _
      | refine LeO.ite ?_ ?_
      | refine LeO.bind ?_ (fun _ => ?_)
    · intro y0 y1 y2 y3 y4 y5 y6
      unfold spec_Kept.j1
      repeat' first
      | (with_reducible exact ih0 _ _ _ _ _)
      | (with_reducible exact ih1 _ _ _ _ _ _)
      | (with_reducible exact ih2 _ _ _ _ _ _ _)
      | (with_reducible exact ih3 _ _ _ _ _ _)
      | (with_reducible exact ih4 _ _ _)
      | (with_reducible exact LeO.refl _)
      | (with_reducible exact LeO.none _)
      | (with_reducible refine LeO.ite ?_ ?_)
      | (with_reducible refine LeO.bind ?_ (fun _ => ?_))
      | exact ih0 _ _ _ _ _
      | exact ih1 _ _ _ _ _ _
      | exact ih2 _ _ _ _ _ _ _
      | exact ih3 _ _ _ _ _ _
      | exact ih4 _ _ _
      | exact LeO.none _
      | refine LeO.ite ?_ ?_
      | refine LeO.bind ?_ (fun _ => ?_)
    · intro y0 y1 y2 y3 y4 y5
      unfold spec_Kept.j2
      repeat' first
      | (with_reducible exact ih0 _ _ _ _ _)
      | (with_reducible exact ih1 _ _ _ _ _ _)
      | (with_reducible exact ih2 _ _ _ _ _ _ _)
      | (with_reducible exact ih3 _ _ _ _ _ _)
      | (with_reducible exact ih4 _ _ _)
      | (with_reducible exact LeO.refl _)
      | (with_reducible exact LeO.none _)
      | (with_reducible refine LeO.ite ?_ ?_)
      | (with_reducible refine LeO.bind ?_ (fun _ => ?_))
      | exact ih0 _ _ _ _ _
      | exact ih1 _ _ _ _ _ _
      | exact ih2 _ _ _ _ _ _ _
      | exact ih3 _ _ _ _ _ _
      | exact ih4 _ _ _
      | exact LeO.none _
      | refine LeO.ite ?_ ?_
      | refine LeO.bind ?_ (fun _ => ?_)
    · intro y0 y1 y2
      unfold spec_Kept.l0
      repeat' first
      | (with_reducible exact ih0 _ _ _ _ _)
      | (with_reducible exact ih1 _ _ _ _ _ _)
      | (with_reducible exact ih2 _ _ _ _ _ _ _)
      | (with_reducible exact ih3 _ _ _ _ _ _)
      | (with_reducible exact ih4 _ _ _)
      | (with_reducible exact LeO.refl _)
      | (with_reducible exact LeO.none _)
      | (with_reducible refine LeO.ite ?_ ?_)
      | (with_reducible refine LeO.bind ?_ (fun _ => ?_))
      | exact ih0 _ _ _ _ _
      | exact ih1 _ _ _ _ _ _
      | exact ih2 _ _ _ _ _ _ _
      | exact ih3 _ _ _ _ _ _
      | exact ih4 _ _ _
      | exact LeO.none _
      | refine LeO.ite ?_ ?_
      | refine LeO.bind ?_ (fun _ => ?_)
set_option maxHeartbeats 8000000 in
set_option maxRecDepth 100000 in
theorem spec_Kept.calls (k : Nat) : ∀ (a0_0 : Int) (a0_1 : Int) (a0_2 : Bool) (A0_3 : Option Addr) (c0_3 : Nat) (l0_3 : List Int) (A0_4 : Option Addr) (c0_4 : Nat) (l0_4 : List (S29)) (r : Bool) (w : World) (hr0_3 : Kd.C (Kd.int .u8) w A0_3 l0_3.length l0_3) (hc0_3 : l0_3.length ≤ c0_3) (hr0_4 : Kd.C k29 w A0_4 l0_4.length l0_4) (hc0_4 : l0_4.length ≤ c0_4) (h : spec_Kept.f k a0_0 a0_1 a0_2 l0_3 l0_4 = some r),
    Calls Tryd.prog 9 #[.agg #[.int .i64 a0_0, .int .i64 a0_1, .bool a0_2, .slice A0_3 l0_3.length c0_3, .slice A0_4 l0_4.length c0_4]] w fun e w' => e = .returned (.bool r) ∧ Below w.heap.size w w' := by
  induction k using Nat.strongRecOn with
  | _ k ih =>
  intro a0_0 a0_1 a0_2 A0_3 c0_3 l0_3 A0_4 c0_4 l0_4 r w hr0_3 hc0_3 hr0_4 hc0_4 h
  cases k with
  | zero => exact absurd h (by simp [spec_Kept.f])
  | succ k =>
  simp only [spec_Kept.f] at h
  have hu29 := Tryd.underlying29
  have HR0_3 := Aside0.mk hr0_3
  have HC0_3 := Aside0.mk hc0_3
  clear hr0_3 hc0_3
  have HR0_4 := Aside0.mk hr0_4
  have HC0_4 := Aside0.mk hc0_4
  clear hr0_4 hc0_4
  have HB := Aside0.mk (Below.refl w.heap.size w)
  have H : (if a0_0 = 0 then (spec_Kept.j0 k (!a0_2) a0_0 a0_1 a0_2 l0_3 l0_4) else (spec_Kept.j0 k false a0_0 a0_1 a0_2 l0_3 l0_4)) = some r := h
  clear h
  have HC2 := Aside0.mk H
  clear H
  go_enter Tryd.func9, Tryd.ntmps9
  go_upto_region 1 with (first | ((with_reducible refine gate_dst (N := 1) rfl ?_); (try (refine gate_guard (by rfl) ?_; dsimp only)); refine box_event ?hg (N := 1) ?hd (cs := #[.int .i64 a0_0, .int .i64 a0_1, .bool a0_2, .slice A0_3 l0_3.length c0_3, .slice A0_4 l0_4.length c0_4]) (t := 29) ?hr ?_; (case hd => rfl); (case hg => rfl); (case hr => first | (go_simp; done) | (go_simp; rfl)); intro gb120 hg w3 hbox hb; have n0_ := Aside0.mk (below_step (by repeat (first | (with_reducible first | exact HB.out | apply below_alloc | apply pw_below_drewN | apply below_drew1) | exact HB.out)) hb); have n1_ := Aside0.mk (hbox); have n2_ := Aside0.mk ((by rw [hg]; exact (below_size (by repeat (first | (with_reducible first | exact HB.out | apply below_alloc | apply pw_below_drewN | apply below_drew1) | exact HB.out))) : w.heap.size ≤ gb120)); have n3_ := Aside0.mk ((by rw [hg]; exact (below_size (by repeat (first | (with_reducible first | exact HB.out | apply below_alloc | apply pw_below_drewN | apply below_drew1) | exact HB.out))) : w.heap.size ≤ gb120)); clear HB; have HB := n0_; have BK120 := n1_; have GW120 := n2_; have GE120 := n3_; clear n0_ n1_ n2_ n3_; clear hb hbox hg))
  (try simp only [Act.put, List.setIfInBounds_toArray, List.set_cons_zero, List.set_cons_succ])
  go_cut [12] (fun v12 wc => ∃ (kq : Nat) (x12_1 : Bool), v12 = .bool x12_1 ∧ Aside0 (spec_Kept.j0 kq x12_1 a0_0 a0_1 a0_2 l0_3 l0_4 = some r) ∧ Aside0 (kq ≤ k) ∧ Aside0 (wc.heap[gb120]? = some (.cells #[.int .i64 a0_0, .int .i64 a0_1, .bool a0_2, (.slice A0_3 l0_3.length c0_3), (.slice A0_4 l0_4.length c0_4)] 29 (0, 0))) ∧ Aside0 (Below w.heap.size w wc))
  case first =>
    have H := HC2.out
    clear HC2
    by_cases c4 : a0_0 = 0
    · rw [if_pos c4] at H
      have c4b0 : (a0_0 == 0) = true := beq_iff_eq.mpr c4
      have c4b1 : (a0_0 != 0) = false := bne_eq_false_iff_eq.mpr c4
      clear c4
      (first | rw [c4b0] | (simp only [i64_w, i32_w]; rw [c4b0]) | skip)
      have H' := Aside0.mk H
      clear H
      have hcz5_0 : w3.cell? ⟨gb120, 0, none⟩ = some (.int .i64 a0_0) := (blk_cell BK120.out 0).trans rfl
      have hcz5_1 : w3.cell? ⟨gb120, 1, none⟩ = some (.int .i64 a0_1) := (blk_cell BK120.out 1).trans rfl
      have hcz5_2 : w3.cell? ⟨gb120, 2, none⟩ = some (.bool a0_2) := (blk_cell BK120.out 2).trans rfl
      have hcz5_3 : w3.cell? ⟨gb120, 3, none⟩ = some (.slice A0_3 l0_3.length c0_3) := (blk_cell BK120.out 3).trans rfl
      have hcz5_4 : w3.cell? ⟨gb120, 4, none⟩ = some (.slice A0_4 l0_4.length c0_4) := (blk_cell BK120.out 4).trans rfl
      have hfz5_0 := blk_frozen BK120.out 0
      have hfz5_1 := blk_frozen BK120.out 1
      have hfz5_2 := blk_frozen BK120.out 2
      have hfz5_3 := blk_frozen BK120.out 3
      have hfz5_4 := blk_frozen BK120.out 4
      go_wp2
      go_meet
      case rel => exact ⟨_, (!a0_2), (by first | rfl | (simp; done) | (simp [*]; done)), H', ⟨by first | omega | exact Nat.le_refl _⟩, ⟨by (with_reducible repeat (first | refine blk_drewN ?_ _ | refine blk_drew ?_ | refine blk_alloc ?_ _)); exact BK120.out⟩, ⟨by repeat (first | (with_reducible first | exact HB.out | apply below_alloc | apply pw_below_drewN | apply below_drew1 | refine below_set ?_ GE120.out) | exact HB.out)⟩⟩
    · rw [if_neg c4] at H
      have c4b0 : (a0_0 == 0) = false := beq_eq_false_iff_ne.mpr c4
      have c4b1 : (a0_0 != 0) = true := bne_iff_ne.mpr c4
      (first | rw [c4b0] | (simp only [i64_w, i32_w]; rw [c4b0]) | skip)
      have H' := Aside0.mk H
      clear H
      have hcz6_0 : w3.cell? ⟨gb120, 0, none⟩ = some (.int .i64 a0_0) := (blk_cell BK120.out 0).trans rfl
      have hcz6_1 : w3.cell? ⟨gb120, 1, none⟩ = some (.int .i64 a0_1) := (blk_cell BK120.out 1).trans rfl
      have hcz6_2 : w3.cell? ⟨gb120, 2, none⟩ = some (.bool a0_2) := (blk_cell BK120.out 2).trans rfl
      have hcz6_3 : w3.cell? ⟨gb120, 3, none⟩ = some (.slice A0_3 l0_3.length c0_3) := (blk_cell BK120.out 3).trans rfl
      have hcz6_4 : w3.cell? ⟨gb120, 4, none⟩ = some (.slice A0_4 l0_4.length c0_4) := (blk_cell BK120.out 4).trans rfl
      have hfz6_0 := blk_frozen BK120.out 0
      have hfz6_1 := blk_frozen BK120.out 1
      have hfz6_2 := blk_frozen BK120.out 2
      have hfz6_3 := blk_frozen BK120.out 3
      have hfz6_4 := blk_frozen BK120.out 4
      go_wp2
      go_meet
      case rel => exact ⟨_, (false), (by first | rfl | (simp; done) | (simp [*]; done)), H', ⟨by first | omega | exact Nat.le_refl _⟩, ⟨by (with_reducible repeat (first | refine blk_drewN ?_ _ | refine blk_drew ?_ | refine blk_alloc ?_ _)); exact BK120.out⟩, ⟨by repeat (first | (with_reducible first | exact HB.out | apply below_alloc | apply pw_below_drewN | apply below_drew1 | refine below_set ?_ GE120.out) | exact HB.out)⟩⟩
  case rest =>
    clear HC2
    try clear p2
    try clear c4
    try clear c4b0
    try clear c4b1
    try clear hcz5_0
    try clear hcz5_1
    try clear hcz5_2
    try clear hcz5_3
    try clear hcz5_4
    try clear hcz6_0
    try clear hcz6_1
    try clear hcz6_2
    try clear hcz6_3
    try clear hcz6_4
    try clear hfz5_0
    try clear hfz5_1
    try clear hfz5_2
    try clear hfz5_3
    try clear hfz5_4
    try clear hfz6_0
    try clear hfz6_1
    try clear hfz6_2
    try clear hfz6_3
    try clear hfz6_4
    obtain ⟨kq, x12_1, rfl, HA, HJ1, BK120, HB⟩ := hcut
    cases kq with
    | zero => exact absurd HA.out (by simp [spec_Kept.j0])
    | succ kj1 =>
      have H := HA.out
      clear HA
      simp only [spec_Kept.j0] at H
      by_cases c7 : x12_1 = true
      · subst c7
        have H1 : (if a0_1 = 1 then (some ((l0_3.length : Int) == 1)) else (if a0_1 = 2 then (spec_Kept.j1 kj1 a0_1 (a0_1 == 2) a0_0 a0_1 a0_2 l0_3 l0_4) else (spec_Kept.j1 kj1 a0_1 (a0_1 == 10) a0_0 a0_1 a0_2 l0_3 l0_4))) = some r := by rw [if_pos rfl] at H; exact H
        clear H
        have H := H1
        clear H1
        by_cases c8 : a0_1 = 1
        · rw [if_pos c8] at H
          have c8b0 : (a0_1 == 1) = true := beq_iff_eq.mpr c8
          have c8b1 : (a0_1 != 1) = false := bne_eq_false_iff_eq.mpr c8
          clear c8
          obtain rfl := Option.some.inj H
          have hcz9_0 : wc.cell? ⟨gb120, 0, none⟩ = some (.int .i64 a0_0) := (blk_cell BK120.out 0).trans rfl
          have hcz9_1 : wc.cell? ⟨gb120, 1, none⟩ = some (.int .i64 a0_1) := (blk_cell BK120.out 1).trans rfl
          have hcz9_2 : wc.cell? ⟨gb120, 2, none⟩ = some (.bool a0_2) := (blk_cell BK120.out 2).trans rfl
          have hcz9_3 : wc.cell? ⟨gb120, 3, none⟩ = some (.slice A0_3 l0_3.length c0_3) := (blk_cell BK120.out 3).trans rfl
          have hcz9_4 : wc.cell? ⟨gb120, 4, none⟩ = some (.slice A0_4 l0_4.length c0_4) := (blk_cell BK120.out 4).trans rfl
          have hfz9_0 := blk_frozen BK120.out 0
          have hfz9_1 := blk_frozen BK120.out 1
          have hfz9_2 := blk_frozen BK120.out 2
          have hfz9_3 := blk_frozen BK120.out 3
          have hfz9_4 := blk_frozen BK120.out 4
          go_wp2
          go_ret
          exact ⟨by first | rfl | (simp [errW_none, errW_some] <;> rfl) | (simp [*, errW_none, errW_some] <;> rfl), by repeat (first | (with_reducible first | exact HB.out | apply below_alloc | apply pw_below_drewN | apply below_drew1 | refine below_set ?_ GE120.out) | exact HB.out)⟩
        · rw [if_neg c8] at H
          have c8b0 : (a0_1 == 1) = false := beq_eq_false_iff_ne.mpr c8
          have c8b1 : (a0_1 != 1) = true := bne_iff_ne.mpr c8
          have HC10 := Aside0.mk H
          clear H
          have hcz11_0 : wc.cell? ⟨gb120, 0, none⟩ = some (.int .i64 a0_0) := (blk_cell BK120.out 0).trans rfl
          have hcz11_1 : wc.cell? ⟨gb120, 1, none⟩ = some (.int .i64 a0_1) := (blk_cell BK120.out 1).trans rfl
          have hcz11_2 : wc.cell? ⟨gb120, 2, none⟩ = some (.bool a0_2) := (blk_cell BK120.out 2).trans rfl
          have hcz11_3 : wc.cell? ⟨gb120, 3, none⟩ = some (.slice A0_3 l0_3.length c0_3) := (blk_cell BK120.out 3).trans rfl
          have hcz11_4 : wc.cell? ⟨gb120, 4, none⟩ = some (.slice A0_4 l0_4.length c0_4) := (blk_cell BK120.out 4).trans rfl
          have hfz11_0 := blk_frozen BK120.out 0
          have hfz11_1 := blk_frozen BK120.out 1
          have hfz11_2 := blk_frozen BK120.out 2
          have hfz11_3 := blk_frozen BK120.out 3
          have hfz11_4 := blk_frozen BK120.out 4
          go_upto_if 21 with (fail)
          go_cut [21] (fun v21 wc => ∃ (kq : Nat) (x21_9 : Bool), v21 = .bool x21_9 ∧ Aside0 (spec_Kept.j1 kq a0_1 x21_9 a0_0 a0_1 a0_2 l0_3 l0_4 = some r) ∧ Aside0 (kq ≤ kj1) ∧ Aside0 (wc.heap[gb120]? = some (.cells #[.int .i64 a0_0, .int .i64 a0_1, .bool a0_2, (.slice A0_3 l0_3.length c0_3), (.slice A0_4 l0_4.length c0_4)] 29 (0, 0))) ∧ Aside0 (Below w.heap.size w wc))
          case first =>
            have H := HC10.out
            clear HC10
            by_cases c12 : a0_1 = 2
            · rw [if_pos c12] at H
              have c12b0 : (a0_1 == 2) = true := beq_iff_eq.mpr c12
              have c12b1 : (a0_1 != 2) = false := bne_eq_false_iff_eq.mpr c12
              clear c12
              (first | rw [c12b0] | (simp only [i64_w, i32_w]; rw [c12b0]) | skip)
              have H' := Aside0.mk H
              clear H
              go_wp2
              go_meet
              case rel => exact ⟨_, ((a0_1 == 2)), (by first | rfl | (simp; done) | (simp [*]; done)), H', ⟨by have := HJ1.out; first | omega | exact Nat.le_refl _⟩, ⟨by (with_reducible repeat (first | refine blk_drewN ?_ _ | refine blk_drew ?_ | refine blk_alloc ?_ _)); exact BK120.out⟩, ⟨by repeat (first | (with_reducible first | exact HB.out | apply below_alloc | apply pw_below_drewN | apply below_drew1 | refine below_set ?_ GE120.out) | exact HB.out)⟩⟩
            · rw [if_neg c12] at H
              have c12b0 : (a0_1 == 2) = false := beq_eq_false_iff_ne.mpr c12
              have c12b1 : (a0_1 != 2) = true := bne_iff_ne.mpr c12
              (first | rw [c12b0] | (simp only [i64_w, i32_w]; rw [c12b0]) | skip)
              have H' := Aside0.mk H
              clear H
              go_wp2
              go_meet
              case rel => exact ⟨_, ((a0_1 == 10)), (by first | rfl | (simp; done) | (simp [*]; done)), H', ⟨by have := HJ1.out; first | omega | exact Nat.le_refl _⟩, ⟨by (with_reducible repeat (first | refine blk_drewN ?_ _ | refine blk_drew ?_ | refine blk_alloc ?_ _)); exact BK120.out⟩, ⟨by repeat (first | (with_reducible first | exact HB.out | apply below_alloc | apply pw_below_drewN | apply below_drew1 | refine below_set ?_ GE120.out) | exact HB.out)⟩⟩
          case rest =>
            clear HC10
            try clear c1
            try clear p2
            try clear c4
            try clear c4b0
            try clear c4b1
            try clear c7
            try clear c8
            try clear c8b0
            try clear c8b1
            try clear c9
            try clear c12
            try clear c12b0
            try clear c12b1
            try clear hcz11_0
            try clear hcz11_1
            try clear hcz11_2
            try clear hcz11_3
            try clear hcz11_4
            try clear hcz5_0
            try clear hcz5_1
            try clear hcz5_2
            try clear hcz5_3
            try clear hcz5_4
            try clear hcz6_0
            try clear hcz6_1
            try clear hcz6_2
            try clear hcz6_3
            try clear hcz6_4
            try clear hcz9_0
            try clear hcz9_1
            try clear hcz9_2
            try clear hcz9_3
            try clear hcz9_4
            try clear hfz11_0
            try clear hfz11_1
            try clear hfz11_2
            try clear hfz11_3
            try clear hfz11_4
            try clear hfz5_0
            try clear hfz5_1
            try clear hfz5_2
            try clear hfz5_3
            try clear hfz5_4
            try clear hfz6_0
            try clear hfz6_1
            try clear hfz6_2
            try clear hfz6_3
            try clear hfz6_4
            try clear hfz9_0
            try clear hfz9_1
            try clear hfz9_2
            try clear hfz9_3
            try clear hfz9_4
            try clear p2
            obtain ⟨kq, x21_9, rfl, HA, HJ9, BK120, HB⟩ := hcut
            cases kq with
            | zero => exact absurd HA.out (by simp [spec_Kept.j1])
            | succ kj9 =>
              have H := HA.out
              clear HA
              simp only [spec_Kept.j1] at H
              by_cases c13 : x21_9 = true
              · subst c13
                have H1 : (if (l0_3.length : Int) ≥ 1 then (some (decide ((l0_3.length : Int) ≤ 8))) else (some false)) = some r := by rw [if_pos rfl] at H; exact H
                clear H
                have H := H1
                clear H1
                by_cases c14 : (l0_3.length : Int) ≥ 1
                · rw [if_pos c14] at H
                  have c14b0 : decide (1 ≤ (l0_3.length : Int)) = true := decide_eq_true c14
                  have c14b1 : decide (1 ≤ l0_3.length) = true := decide_eq_true (by omega)
                  clear c14
                  obtain rfl := Option.some.inj H
                  have hcz15_0 : wc.cell? ⟨gb120, 0, none⟩ = some (.int .i64 a0_0) := (blk_cell BK120.out 0).trans rfl
                  have hcz15_1 : wc.cell? ⟨gb120, 1, none⟩ = some (.int .i64 a0_1) := (blk_cell BK120.out 1).trans rfl
                  have hcz15_2 : wc.cell? ⟨gb120, 2, none⟩ = some (.bool a0_2) := (blk_cell BK120.out 2).trans rfl
                  have hcz15_3 : wc.cell? ⟨gb120, 3, none⟩ = some (.slice A0_3 l0_3.length c0_3) := (blk_cell BK120.out 3).trans rfl
                  have hcz15_4 : wc.cell? ⟨gb120, 4, none⟩ = some (.slice A0_4 l0_4.length c0_4) := (blk_cell BK120.out 4).trans rfl
                  have hfz15_0 := blk_frozen BK120.out 0
                  have hfz15_1 := blk_frozen BK120.out 1
                  have hfz15_2 := blk_frozen BK120.out 2
                  have hfz15_3 := blk_frozen BK120.out 3
                  have hfz15_4 := blk_frozen BK120.out 4
                  go_wp2
                  go_ret
                  exact ⟨by first | rfl | (simp [errW_none, errW_some] <;> rfl) | (simp [*, errW_none, errW_some] <;> rfl), by repeat (first | (with_reducible first | exact HB.out | apply below_alloc | apply pw_below_drewN | apply below_drew1 | refine below_set ?_ GE120.out) | exact HB.out)⟩
                · rw [if_neg c14] at H
                  have c14b0 : decide (1 ≤ (l0_3.length : Int)) = false := decide_eq_false c14
                  have c14b1 : decide (1 ≤ l0_3.length) = false := decide_eq_false (by omega)
                  clear c14
                  obtain rfl := Option.some.inj H
                  have hcz16_0 : wc.cell? ⟨gb120, 0, none⟩ = some (.int .i64 a0_0) := (blk_cell BK120.out 0).trans rfl
                  have hcz16_1 : wc.cell? ⟨gb120, 1, none⟩ = some (.int .i64 a0_1) := (blk_cell BK120.out 1).trans rfl
                  have hcz16_2 : wc.cell? ⟨gb120, 2, none⟩ = some (.bool a0_2) := (blk_cell BK120.out 2).trans rfl
                  have hcz16_3 : wc.cell? ⟨gb120, 3, none⟩ = some (.slice A0_3 l0_3.length c0_3) := (blk_cell BK120.out 3).trans rfl
                  have hcz16_4 : wc.cell? ⟨gb120, 4, none⟩ = some (.slice A0_4 l0_4.length c0_4) := (blk_cell BK120.out 4).trans rfl
                  have hfz16_0 := blk_frozen BK120.out 0
                  have hfz16_1 := blk_frozen BK120.out 1
                  have hfz16_2 := blk_frozen BK120.out 2
                  have hfz16_3 := blk_frozen BK120.out 3
                  have hfz16_4 := blk_frozen BK120.out 4
                  go_wp2
                  go_ret
                  exact ⟨by first | rfl | (simp [errW_none, errW_some] <;> rfl) | (simp [*, errW_none, errW_some] <;> rfl), by repeat (first | (with_reducible first | exact HB.out | apply below_alloc | apply pw_below_drewN | apply below_drew1 | refine below_set ?_ GE120.out) | exact HB.out)⟩
              · replace c13 := Bool.eq_false_iff.mpr c13
                subst c13
                have H1 : (if a0_1 = 4 then (some true) else (if a0_1 = 5 then (some ((l0_3.length : Int) == 0)) else (some false))) = some r := by rw [if_neg (show ¬ (false = true) by decide)] at H; exact H
                clear H
                have H := H1
                clear H1
                by_cases c17 : a0_1 = 4
                · rw [if_pos c17] at H
                  have c17b0 : (a0_1 == 4) = true := beq_iff_eq.mpr c17
                  have c17b1 : (a0_1 != 4) = false := bne_eq_false_iff_eq.mpr c17
                  clear c17
                  obtain rfl := Option.some.inj H
                  go_wp2
                  go_ret
                  exact ⟨by first | rfl | (simp [errW_none, errW_some] <;> rfl) | (simp [*, errW_none, errW_some] <;> rfl), by repeat (first | (with_reducible first | exact HB.out | apply below_alloc | apply pw_below_drewN | apply below_drew1 | refine below_set ?_ GE120.out) | exact HB.out)⟩
                · rw [if_neg c17] at H
                  have c17b0 : (a0_1 == 4) = false := beq_eq_false_iff_ne.mpr c17
                  have c17b1 : (a0_1 != 4) = true := bne_iff_ne.mpr c17
                  by_cases c18 : a0_1 = 5
                  · rw [if_pos c18] at H
                    have c18b0 : (a0_1 == 5) = true := beq_iff_eq.mpr c18
                    have c18b1 : (a0_1 != 5) = false := bne_eq_false_iff_eq.mpr c18
                    clear c18
                    obtain rfl := Option.some.inj H
                    have hcz19_0 : wc.cell? ⟨gb120, 0, none⟩ = some (.int .i64 a0_0) := (blk_cell BK120.out 0).trans rfl
                    have hcz19_1 : wc.cell? ⟨gb120, 1, none⟩ = some (.int .i64 a0_1) := (blk_cell BK120.out 1).trans rfl
                    have hcz19_2 : wc.cell? ⟨gb120, 2, none⟩ = some (.bool a0_2) := (blk_cell BK120.out 2).trans rfl
                    have hcz19_3 : wc.cell? ⟨gb120, 3, none⟩ = some (.slice A0_3 l0_3.length c0_3) := (blk_cell BK120.out 3).trans rfl
                    have hcz19_4 : wc.cell? ⟨gb120, 4, none⟩ = some (.slice A0_4 l0_4.length c0_4) := (blk_cell BK120.out 4).trans rfl
                    have hfz19_0 := blk_frozen BK120.out 0
                    have hfz19_1 := blk_frozen BK120.out 1
                    have hfz19_2 := blk_frozen BK120.out 2
                    have hfz19_3 := blk_frozen BK120.out 3
                    have hfz19_4 := blk_frozen BK120.out 4
                    go_wp2
                    go_ret
                    exact ⟨by first | rfl | (simp [errW_none, errW_some] <;> rfl) | (simp [*, errW_none, errW_some] <;> rfl), by repeat (first | (with_reducible first | exact HB.out | apply below_alloc | apply pw_below_drewN | apply below_drew1 | refine below_set ?_ GE120.out) | exact HB.out)⟩
                  · rw [if_neg c18] at H
                    have c18b0 : (a0_1 == 5) = false := beq_eq_false_iff_ne.mpr c18
                    have c18b1 : (a0_1 != 5) = true := bne_iff_ne.mpr c18
                    obtain rfl := Option.some.inj H
                    go_wp2
                    go_ret
                    exact ⟨by first | rfl | (simp [errW_none, errW_some] <;> rfl) | (simp [*, errW_none, errW_some] <;> rfl), by repeat (first | (with_reducible first | exact HB.out | apply below_alloc | apply pw_below_drewN | apply below_drew1 | refine below_set ?_ GE120.out) | exact HB.out)⟩
      · replace c7 := Bool.eq_false_iff.mpr c7
        subst c7
        have H1 : (if a0_0 = 0 then (if a0_1 = 16 then (spec_Kept.j2 kj1 false a0_0 a0_1 a0_2 l0_3 l0_4) else (spec_Kept.j2 kj1 (a0_1 != 17) a0_0 a0_1 a0_2 l0_3 l0_4)) else (spec_Kept.j2 kj1 false a0_0 a0_1 a0_2 l0_3 l0_4)) = some r := by rw [if_neg (show ¬ (false = true) by decide)] at H; exact H
        clear H
        have H := H1
        clear H1
        have HC20 := Aside0.mk H
        clear H
        go_upto_region 13 with (fail)
        go_cut [54] (fun v54 wc => ∃ (kq : Nat) (x54_19 : Bool), v54 = .bool x54_19 ∧ Aside0 (spec_Kept.j2 kq x54_19 a0_0 a0_1 a0_2 l0_3 l0_4 = some r) ∧ Aside0 (kq ≤ kj1) ∧ Aside0 (wc.heap[gb120]? = some (.cells #[.int .i64 a0_0, .int .i64 a0_1, .bool a0_2, (.slice A0_3 l0_3.length c0_3), (.slice A0_4 l0_4.length c0_4)] 29 (0, 0))) ∧ Aside0 (Below w.heap.size w wc))
        case first =>
          have H := HC20.out
          clear HC20
          by_cases c21 : a0_0 = 0
          · rw [if_pos c21] at H
            have c21b0 : (a0_0 == 0) = true := beq_iff_eq.mpr c21
            have c21b1 : (a0_0 != 0) = false := bne_eq_false_iff_eq.mpr c21
            clear c21
            (first | rw [c21b0] | (simp only [i64_w, i32_w]; rw [c21b0]) | skip)
            by_cases c22 : a0_1 = 16
            · rw [if_pos c22] at H
              have c22b0 : (a0_1 == 16) = true := beq_iff_eq.mpr c22
              have c22b1 : (a0_1 != 16) = false := bne_eq_false_iff_eq.mpr c22
              clear c22
              have H' := Aside0.mk H
              clear H
              have hcz23_0 : wc.cell? ⟨gb120, 0, none⟩ = some (.int .i64 a0_0) := (blk_cell BK120.out 0).trans rfl
              have hcz23_1 : wc.cell? ⟨gb120, 1, none⟩ = some (.int .i64 a0_1) := (blk_cell BK120.out 1).trans rfl
              have hcz23_2 : wc.cell? ⟨gb120, 2, none⟩ = some (.bool a0_2) := (blk_cell BK120.out 2).trans rfl
              have hcz23_3 : wc.cell? ⟨gb120, 3, none⟩ = some (.slice A0_3 l0_3.length c0_3) := (blk_cell BK120.out 3).trans rfl
              have hcz23_4 : wc.cell? ⟨gb120, 4, none⟩ = some (.slice A0_4 l0_4.length c0_4) := (blk_cell BK120.out 4).trans rfl
              have hfz23_0 := blk_frozen BK120.out 0
              have hfz23_1 := blk_frozen BK120.out 1
              have hfz23_2 := blk_frozen BK120.out 2
              have hfz23_3 := blk_frozen BK120.out 3
              have hfz23_4 := blk_frozen BK120.out 4
              go_wp2
              go_meet
              case rel => exact ⟨_, (false), (by first | rfl | (simp; done) | (simp [*]; done)), H', ⟨by have := HJ1.out; first | omega | exact Nat.le_refl _⟩, ⟨by (with_reducible repeat (first | refine blk_drewN ?_ _ | refine blk_drew ?_ | refine blk_alloc ?_ _)); exact BK120.out⟩, ⟨by repeat (first | (with_reducible first | exact HB.out | apply below_alloc | apply pw_below_drewN | apply below_drew1 | refine below_set ?_ GE120.out) | exact HB.out)⟩⟩
            · rw [if_neg c22] at H
              have c22b0 : (a0_1 == 16) = false := beq_eq_false_iff_ne.mpr c22
              have c22b1 : (a0_1 != 16) = true := bne_iff_ne.mpr c22
              have H' := Aside0.mk H
              clear H
              have hcz24_0 : wc.cell? ⟨gb120, 0, none⟩ = some (.int .i64 a0_0) := (blk_cell BK120.out 0).trans rfl
              have hcz24_1 : wc.cell? ⟨gb120, 1, none⟩ = some (.int .i64 a0_1) := (blk_cell BK120.out 1).trans rfl
              have hcz24_2 : wc.cell? ⟨gb120, 2, none⟩ = some (.bool a0_2) := (blk_cell BK120.out 2).trans rfl
              have hcz24_3 : wc.cell? ⟨gb120, 3, none⟩ = some (.slice A0_3 l0_3.length c0_3) := (blk_cell BK120.out 3).trans rfl
              have hcz24_4 : wc.cell? ⟨gb120, 4, none⟩ = some (.slice A0_4 l0_4.length c0_4) := (blk_cell BK120.out 4).trans rfl
              have hfz24_0 := blk_frozen BK120.out 0
              have hfz24_1 := blk_frozen BK120.out 1
              have hfz24_2 := blk_frozen BK120.out 2
              have hfz24_3 := blk_frozen BK120.out 3
              have hfz24_4 := blk_frozen BK120.out 4
              go_wp2
              go_meet
              case rel => exact ⟨_, ((a0_1 != 17)), (by first | rfl | (simp; done) | (simp [*]; done)), H', ⟨by have := HJ1.out; first | omega | exact Nat.le_refl _⟩, ⟨by (with_reducible repeat (first | refine blk_drewN ?_ _ | refine blk_drew ?_ | refine blk_alloc ?_ _)); exact BK120.out⟩, ⟨by repeat (first | (with_reducible first | exact HB.out | apply below_alloc | apply pw_below_drewN | apply below_drew1 | refine below_set ?_ GE120.out) | exact HB.out)⟩⟩
          · rw [if_neg c21] at H
            have c21b0 : (a0_0 == 0) = false := beq_eq_false_iff_ne.mpr c21
            have c21b1 : (a0_0 != 0) = true := bne_iff_ne.mpr c21
            (first | rw [c21b0] | (simp only [i64_w, i32_w]; rw [c21b0]) | skip)
            have H' := Aside0.mk H
            clear H
            have hcz25_0 : wc.cell? ⟨gb120, 0, none⟩ = some (.int .i64 a0_0) := (blk_cell BK120.out 0).trans rfl
            have hcz25_1 : wc.cell? ⟨gb120, 1, none⟩ = some (.int .i64 a0_1) := (blk_cell BK120.out 1).trans rfl
            have hcz25_2 : wc.cell? ⟨gb120, 2, none⟩ = some (.bool a0_2) := (blk_cell BK120.out 2).trans rfl
            have hcz25_3 : wc.cell? ⟨gb120, 3, none⟩ = some (.slice A0_3 l0_3.length c0_3) := (blk_cell BK120.out 3).trans rfl
            have hcz25_4 : wc.cell? ⟨gb120, 4, none⟩ = some (.slice A0_4 l0_4.length c0_4) := (blk_cell BK120.out 4).trans rfl
            have hfz25_0 := blk_frozen BK120.out 0
            have hfz25_1 := blk_frozen BK120.out 1
            have hfz25_2 := blk_frozen BK120.out 2
            have hfz25_3 := blk_frozen BK120.out 3
            have hfz25_4 := blk_frozen BK120.out 4
            go_wp2
            go_meet
            case rel => exact ⟨_, (false), (by first | rfl | (simp; done) | (simp [*]; done)), H', ⟨by have := HJ1.out; first | omega | exact Nat.le_refl _⟩, ⟨by (with_reducible repeat (first | refine blk_drewN ?_ _ | refine blk_drew ?_ | refine blk_alloc ?_ _)); exact BK120.out⟩, ⟨by repeat (first | (with_reducible first | exact HB.out | apply below_alloc | apply pw_below_drewN | apply below_drew1 | refine below_set ?_ GE120.out) | exact HB.out)⟩⟩
        case rest =>
          clear HC20
          try clear c1
          try clear c2
          try clear p2
          try clear c4
          try clear c4b0
          try clear c4b1
          try clear c7
          try clear c8
          try clear c8b0
          try clear c8b1
          try clear c9
          try clear c12
          try clear c12b0
          try clear c12b1
          try clear c13
          try clear c14
          try clear c14b0
          try clear c14b1
          try clear c17
          try clear c17b0
          try clear c17b1
          try clear c18
          try clear c18b0
          try clear c18b1
          try clear c21
          try clear c21b0
          try clear c21b1
          try clear c22
          try clear c22b0
          try clear c22b1
          try clear hcz11_0
          try clear hcz11_1
          try clear hcz11_2
          try clear hcz11_3
          try clear hcz11_4
          try clear hcz15_0
          try clear hcz15_1
          try clear hcz15_2
          try clear hcz15_3
          try clear hcz15_4
          try clear hcz16_0
          try clear hcz16_1
          try clear hcz16_2
          try clear hcz16_3
          try clear hcz16_4
          try clear hcz19_0
          try clear hcz19_1
          try clear hcz19_2
          try clear hcz19_3
          try clear hcz19_4
          try clear hcz23_0
          try clear hcz23_1
          try clear hcz23_2
          try clear hcz23_3
          try clear hcz23_4
          try clear hcz24_0
          try clear hcz24_1
          try clear hcz24_2
          try clear hcz24_3
          try clear hcz24_4
          try clear hcz25_0
          try clear hcz25_1
          try clear hcz25_2
          try clear hcz25_3
          try clear hcz25_4
          try clear hcz5_0
          try clear hcz5_1
          try clear hcz5_2
          try clear hcz5_3
          try clear hcz5_4
          try clear hcz6_0
          try clear hcz6_1
          try clear hcz6_2
          try clear hcz6_3
          try clear hcz6_4
          try clear hcz9_0
          try clear hcz9_1
          try clear hcz9_2
          try clear hcz9_3
          try clear hcz9_4
          try clear hfz11_0
          try clear hfz11_1
          try clear hfz11_2
          try clear hfz11_3
          try clear hfz11_4
          try clear hfz15_0
          try clear hfz15_1
          try clear hfz15_2
          try clear hfz15_3
          try clear hfz15_4
          try clear hfz16_0
          try clear hfz16_1
          try clear hfz16_2
          try clear hfz16_3
          try clear hfz16_4
          try clear hfz19_0
          try clear hfz19_1
          try clear hfz19_2
          try clear hfz19_3
          try clear hfz19_4
          try clear hfz23_0
          try clear hfz23_1
          try clear hfz23_2
          try clear hfz23_3
          try clear hfz23_4
          try clear hfz24_0
          try clear hfz24_1
          try clear hfz24_2
          try clear hfz24_3
          try clear hfz24_4
          try clear hfz25_0
          try clear hfz25_1
          try clear hfz25_2
          try clear hfz25_3
          try clear hfz25_4
          try clear hfz5_0
          try clear hfz5_1
          try clear hfz5_2
          try clear hfz5_3
          try clear hfz5_4
          try clear hfz6_0
          try clear hfz6_1
          try clear hfz6_2
          try clear hfz6_3
          try clear hfz6_4
          try clear hfz9_0
          try clear hfz9_1
          try clear hfz9_2
          try clear hfz9_3
          try clear hfz9_4
          try clear p2
          obtain ⟨kq, x54_19, rfl, HA, HJ19, BK120, HB⟩ := hcut
          cases kq with
          | zero => exact absurd HA.out (by simp [spec_Kept.j2])
          | succ kj19 =>
            have H := HA.out
            clear HA
            simp only [spec_Kept.j2] at H
            by_cases c26 : x54_19 = true
            · subst c26
              have H1 : (some false) = some r := by rw [if_pos rfl] at H; exact H
              clear H
              have H := H1
              clear H1
              obtain rfl := Option.some.inj H
              go_wp2
              go_ret
              exact ⟨by first | rfl | (simp [errW_none, errW_some] <;> rfl) | (simp [*, errW_none, errW_some] <;> rfl), by repeat (first | (with_reducible first | exact HB.out | apply below_alloc | apply pw_below_drewN | apply below_drew1 | refine below_set ?_ GE120.out) | exact HB.out)⟩
            · replace c26 := Bool.eq_false_iff.mpr c26
              subst c26
              have H1 : (spec_Kept.l0 kj19 l0_4 (l0_4.length : Int) 0) = some r := by rw [if_neg (show ¬ (false = true) by decide)] at H; exact H
              clear H
              have H := H1
              clear H1
              have H' := Aside0.mk H
              clear H
              have hcz27_0 : wc.cell? ⟨gb120, 0, none⟩ = some (.int .i64 a0_0) := (blk_cell BK120.out 0).trans rfl
              have hcz27_1 : wc.cell? ⟨gb120, 1, none⟩ = some (.int .i64 a0_1) := (blk_cell BK120.out 1).trans rfl
              have hcz27_2 : wc.cell? ⟨gb120, 2, none⟩ = some (.bool a0_2) := (blk_cell BK120.out 2).trans rfl
              have hcz27_3 : wc.cell? ⟨gb120, 3, none⟩ = some (.slice A0_3 l0_3.length c0_3) := (blk_cell BK120.out 3).trans rfl
              have hcz27_4 : wc.cell? ⟨gb120, 4, none⟩ = some (.slice A0_4 l0_4.length c0_4) := (blk_cell BK120.out 4).trans rfl
              have hfz27_0 := blk_frozen BK120.out 0
              have hfz27_1 := blk_frozen BK120.out 1
              have hfz27_2 := blk_frozen BK120.out 2
              have hfz27_3 := blk_frozen BK120.out 3
              have hfz27_4 := blk_frozen BK120.out 4
              go_wp2
              go_loopg [58] kj19 (fun kq v58 w' => ∃ (x58_3 : Int), v58 = .int .i64 x58_3 ∧ Aside0 (spec_Kept.l0 kq l0_4 (l0_4.length : Int) x58_3 = some r) ∧ Aside0 (kq ≤ kj19) ∧ Aside0 (w'.heap[gb120]? = some (.cells #[.int .i64 a0_0, .int .i64 a0_1, .bool a0_2, (.slice A0_3 l0_3.length c0_3), (.slice A0_4 l0_4.length c0_4)] 29 (0, 0))) ∧ Aside0 (Below w.heap.size w w'))
              case atStart => exact ⟨(0), (by first | rfl | (simp; done) | (simp [*]; done)), H', ⟨Nat.le_refl _⟩, ⟨by (with_reducible repeat (first | refine blk_drewN ?_ _ | refine blk_drew ?_ | refine blk_alloc ?_ _)); exact BK120.out⟩, ⟨by repeat (first | (with_reducible first | exact HB.out | apply below_alloc | apply pw_below_drewN | apply below_drew1 | refine below_set ?_ GE120.out) | exact HB.out)⟩⟩
              case round =>
                clear H'
                try clear c1
                try clear c2
                try clear p2
                try clear c4
                try clear c4b0
                try clear c4b1
                try clear c7
                try clear c8
                try clear c8b0
                try clear c8b1
                try clear c9
                try clear c12
                try clear c12b0
                try clear c12b1
                try clear c13
                try clear c14
                try clear c14b0
                try clear c14b1
                try clear c17
                try clear c17b0
                try clear c17b1
                try clear c18
                try clear c18b0
                try clear c18b1
                try clear c21
                try clear c21b0
                try clear c21b1
                try clear c22
                try clear c22b0
                try clear c22b1
                try clear c26
                try clear hcz11_0
                try clear hcz11_1
                try clear hcz11_2
                try clear hcz11_3
                try clear hcz11_4
                try clear hcz15_0
                try clear hcz15_1
                try clear hcz15_2
                try clear hcz15_3
                try clear hcz15_4
                try clear hcz16_0
                try clear hcz16_1
                try clear hcz16_2
                try clear hcz16_3
                try clear hcz16_4
                try clear hcz19_0
                try clear hcz19_1
                try clear hcz19_2
                try clear hcz19_3
                try clear hcz19_4
                try clear hcz23_0
                try clear hcz23_1
                try clear hcz23_2
                try clear hcz23_3
                try clear hcz23_4
                try clear hcz24_0
                try clear hcz24_1
                try clear hcz24_2
                try clear hcz24_3
                try clear hcz24_4
                try clear hcz25_0
                try clear hcz25_1
                try clear hcz25_2
                try clear hcz25_3
                try clear hcz25_4
                try clear hcz27_0
                try clear hcz27_1
                try clear hcz27_2
                try clear hcz27_3
                try clear hcz27_4
                try clear hcz5_0
                try clear hcz5_1
                try clear hcz5_2
                try clear hcz5_3
                try clear hcz5_4
                try clear hcz6_0
                try clear hcz6_1
                try clear hcz6_2
                try clear hcz6_3
                try clear hcz6_4
                try clear hcz9_0
                try clear hcz9_1
                try clear hcz9_2
                try clear hcz9_3
                try clear hcz9_4
                try clear hfz11_0
                try clear hfz11_1
                try clear hfz11_2
                try clear hfz11_3
                try clear hfz11_4
                try clear hfz15_0
                try clear hfz15_1
                try clear hfz15_2
                try clear hfz15_3
                try clear hfz15_4
                try clear hfz16_0
                try clear hfz16_1
                try clear hfz16_2
                try clear hfz16_3
                try clear hfz16_4
                try clear hfz19_0
                try clear hfz19_1
                try clear hfz19_2
                try clear hfz19_3
                try clear hfz19_4
                try clear hfz23_0
                try clear hfz23_1
                try clear hfz23_2
                try clear hfz23_3
                try clear hfz23_4
                try clear hfz24_0
                try clear hfz24_1
                try clear hfz24_2
                try clear hfz24_3
                try clear hfz24_4
                try clear hfz25_0
                try clear hfz25_1
                try clear hfz25_2
                try clear hfz25_3
                try clear hfz25_4
                try clear hfz27_0
                try clear hfz27_1
                try clear hfz27_2
                try clear hfz27_3
                try clear hfz27_4
                try clear hfz5_0
                try clear hfz5_1
                try clear hfz5_2
                try clear hfz5_3
                try clear hfz5_4
                try clear hfz6_0
                try clear hfz6_1
                try clear hfz6_2
                try clear hfz6_3
                try clear hfz6_4
                try clear hfz9_0
                try clear hfz9_1
                try clear hfz9_2
                try clear hfz9_3
                try clear hfz9_4
                try clear p2
                obtain ⟨x58_3, rfl, HA, HK3, BK120, HB⟩ := hrel
                cases gk with
                | zero => exact absurd HA.out (by simp [spec_Kept.l0])
                | succ k3 =>
                  have H := HA.out
                  clear HA
                  simp only [spec_Kept.l0] at H
                  by_cases c28 : x58_3 < (l0_4.length : Int)
                  · rw [if_pos c28] at H
                    have c28b0 : decide (x58_3 < (l0_4.length : Int)) = true := decide_eq_true c28
                    clear c28
                    by_cases c29 : 0 ≤ x58_3
                    · rw [if_pos c29] at H
                      have c29b0 : decide (0 ≤ x58_3) = true := decide_eq_true c29
                      clear c29
                      by_cases c30 : x58_3 < (l0_4.length : Int)
                      · rw [if_pos c30] at H
                        have c30b0 : decide (x58_3 < (l0_4.length : Int)) = true := decide_eq_true c30
                        clear c30
                        replace H := Option.bind_eq_some_iff.mp H
                        obtain ⟨t123, A310, H⟩ := H
                        replace H : (if t123 = true then (spec_Kept.l0 k3 l0_4 (l0_4.length : Int) (wrap64 (x58_3 + 1))) else (some false)) = some r := H
                        have A31 := Aside0.mk A310
                        clear A310
                        by_cases c32 : t123 = true
                        · subst c32
                          have H1 : (spec_Kept.l0 k3 l0_4 (l0_4.length : Int) (wrap64 (x58_3 + 1))) = some r := by rw [if_pos rfl] at H; exact H
                          clear H
                          have H := H1
                          clear H1
                          have H' := Aside0.mk H
                          clear H
                          have p121 : 0 ≤ (x58_3 : Int) := of_decide_eq_true (by first | (with_reducible assumption) | assumption)
                          have q121 : x58_3 < (l0_4.length : Int) := of_decide_eq_true (by first | (with_reducible assumption) | assumption)
                          obtain ⟨ad121, A121_3, c121_3, A121_4, c121_4, e121, hx121_0, hx121_1, hx121_2, hx121_3, hx121_4, hl121_3, hi121_3, hl121_4, hi121_4⟩ := at_T29 HR0_4.out x58_3 p121 q121
                          cases e121
                          replace hx121_0 := (HB.out.cell (World.block_lt_of_cell? w _ hx121_0)).trans hx121_0
                          replace hx121_1 := (HB.out.cell (World.block_lt_of_cell? w _ hx121_1)).trans hx121_1
                          replace hx121_2 := (HB.out.cell (World.block_lt_of_cell? w _ hx121_2)).trans hx121_2
                          replace hx121_3 := (HB.out.cell (World.block_lt_of_cell? w _ hx121_3)).trans hx121_3
                          replace hx121_4 := (HB.out.cell (World.block_lt_of_cell? w _ hx121_4)).trans hx121_4
                          have HR121_3 := Aside0.mk hi121_3
                          have HC121_3 := Aside0.mk hl121_3
                          clear hi121_3 hl121_3
                          have HR121_4 := Aside0.mk hi121_4
                          have HC121_4 := Aside0.mk hl121_4
                          clear hi121_4 hl121_4
                          replace p121 := eq_true p121
                          replace q121 := eq_true q121
                          go_wp2_with (first | ((with_reducible refine gate_dst (N := 4) rfl ?_); (try (refine gate_guard (by rfl) ?_; dsimp only)); refine box_event ?hg (N := 4) ?hd (cs := #[.int .i64 0, .int .i64 0, .bool false, .slice none 0 0, .slice none 0 0]) (t := 29) ?hr ?_; (case hd => rfl); (case hg => rfl); (case hr => first | (go_simp; done) | (go_simp; rfl)); intro gb122 hg w33 hbox hb; have n0_ := Aside0.mk (blk_below (g := gb120) (o := .cells #[.int .i64 a0_0, .int .i64 a0_1, .bool a0_2, .slice A0_3 l0_3.length c0_3, .slice (some ad121) l0_4.length c0_4] 29 (0, 0)) (by (with_reducible repeat (first | refine blk_drewN ?_ _ | refine blk_drew ?_ | refine blk_alloc ?_ _)); exact BK120.out) hb); have n1_ := Aside0.mk (below_step (by repeat (first | (with_reducible first | exact HB.out | apply below_alloc | apply pw_below_drewN | apply below_drew1 | refine below_set ?_ GE120.out) | exact HB.out)) hb); have n2_ := Aside0.mk (hbox); have n3_ := Aside0.mk ((by rw [hg]; exact (below_size (by repeat (first | (with_reducible first | exact HB.out | apply below_alloc | apply pw_below_drewN | apply below_drew1 | refine below_set ?_ GE120.out) | exact HB.out))) : w.heap.size ≤ gb122)); have n4_ := Aside0.mk ((by rw [hg]; exact (below_size (by repeat (first | (with_reducible first | exact HB.out | apply below_alloc | apply pw_below_drewN | apply below_drew1 | refine below_set ?_ GE120.out) | exact HB.out))) : w.heap.size ≤ gb122)); have n5_ := Aside0.mk ((by rw [hg]; exact Nat.ne_of_lt (blk_lt (g := gb120) (o := .cells #[.int .i64 a0_0, .int .i64 a0_1, .bool a0_2, .slice A0_3 l0_3.length c0_3, .slice (some ad121) l0_4.length c0_4] 29 (0, 0)) (by (with_reducible repeat (first | refine blk_drewN ?_ _ | refine blk_drew ?_ | refine blk_alloc ?_ _)); exact BK120.out)) : gb120 ≠ gb122)); have n6_ := Aside0.mk ((by rw [hg]; exact Nat.ne_of_gt (blk_lt (g := gb120) (o := .cells #[.int .i64 a0_0, .int .i64 a0_1, .bool a0_2, .slice A0_3 l0_3.length c0_3, .slice (some ad121) l0_4.length c0_4] 29 (0, 0)) (by (with_reducible repeat (first | refine blk_drewN ?_ _ | refine blk_drew ?_ | refine blk_alloc ?_ _)); exact BK120.out)) : gb122 ≠ gb120)); clear BK120; clear HB; have BK120 := n0_; have HB := n1_; have BK122 := n2_; have GW122 := n3_; have GE122 := n4_; have NB120_122 := n5_; have NB122_120 := n6_; clear n0_ n1_ n2_ n3_ n4_ n5_ n6_; clear hb hbox hg; have hnb34 := NB122_120.out; have hnc34 := NB120_122.out; have hcz35_0 : w33.cell? ⟨gb122, 0, none⟩ = some (.int .i64 0) := (blk_cell BK122.out 0).trans rfl; have hcz35_1 : w33.cell? ⟨gb122, 1, none⟩ = some (.int .i64 0) := (blk_cell BK122.out 1).trans rfl; have hcz35_2 : w33.cell? ⟨gb122, 2, none⟩ = some (.bool false) := (blk_cell BK122.out 2).trans rfl; have hcz35_3 : w33.cell? ⟨gb122, 3, none⟩ = some (.slice none 0 0) := (blk_cell BK122.out 3).trans rfl; have hcz35_4 : w33.cell? ⟨gb122, 4, none⟩ = some (.slice none 0 0) := (blk_cell BK122.out 4).trans rfl; have hfz35_0 := blk_frozen BK122.out 0; have hfz35_1 := blk_frozen BK122.out 1; have hfz35_2 := blk_frozen BK122.out 2; have hfz35_3 := blk_frozen BK122.out 3; have hfz35_4 := blk_frozen BK122.out 4) | ((with_reducible refine gate_callee (f := 9) rfl ?_); refine goesL_ (some 63) rfl rfl Tryd.func9 (by kernel_rfl) rfl #[.agg #[.int .i64 ((rd_T29 l0_4 x58_3).f0), .int .i64 ((rd_T29 l0_4 x58_3).f1), .bool ((rd_T29 l0_4 x58_3).f2), .slice A121_3 ((rd_T29 l0_4 x58_3).f3).length c121_3, .slice A121_4 ((rd_T29 l0_4 x58_3).f4).length c121_4]] rfl (by (try simp only [List.map_toArray, List.map_cons, List.map_nil]); first | done | rfl | (simp only [List.length_drop, List.length_take]; rfl)) ?_; (with_reducible refine (ih k3 (by have := HJ1.out; have := HJ19.out; have := HK3.out; omega) ((rd_T29 l0_4 x58_3).f0) ((rd_T29 l0_4 x58_3).f1) ((rd_T29 l0_4 x58_3).f2) _ _ ((rd_T29 l0_4 x58_3).f3) _ _ ((rd_T29 l0_4 x58_3).f4) true _ ?side1 ?side2 ?side3 ?side4 A31.out).mono ?_); (case side1 => exact Kd.C_below HR121_3.out (by repeat (first | (with_reducible first | exact HB.out | apply below_alloc | apply pw_below_drewN | apply below_drew1 | refine below_set ?_ GE120.out | refine below_set ?_ GE122.out) | exact HB.out))); (case side2 => exact HC121_3.out); (case side3 => exact Kd.C_below HR121_4.out (by repeat (first | (with_reducible first | exact HB.out | apply below_alloc | apply pw_below_drewN | apply below_drew1 | refine below_set ?_ GE120.out | refine below_set ?_ GE122.out) | exact HB.out))); (case side4 => exact HC121_4.out); rintro e w36 ⟨rfl, hb⟩; refine ⟨_, rfl, ?_⟩; have n0_ := Aside0.mk (blk_below (g := gb120) (o := .cells #[.int .i64 a0_0, .int .i64 a0_1, .bool a0_2, .slice A0_3 l0_3.length c0_3, .slice (some ad121) l0_4.length c0_4] 29 (0, 0)) (by (with_reducible repeat (first | refine blk_drewN ?_ _ | refine blk_drew ?_ | refine blk_alloc ?_ _)); refine blk_far ?_ NB120_122.out _; (with_reducible repeat (first | refine blk_drewN ?_ _ | refine blk_drew ?_ | refine blk_alloc ?_ _)); refine blk_far ?_ NB120_122.out _; (with_reducible repeat (first | refine blk_drewN ?_ _ | refine blk_drew ?_ | refine blk_alloc ?_ _)); refine blk_far ?_ NB120_122.out _; (with_reducible repeat (first | refine blk_drewN ?_ _ | refine blk_drew ?_ | refine blk_alloc ?_ _)); refine blk_far ?_ NB120_122.out _; (with_reducible repeat (first | refine blk_drewN ?_ _ | refine blk_drew ?_ | refine blk_alloc ?_ _)); refine blk_far ?_ NB120_122.out _; (with_reducible repeat (first | refine blk_drewN ?_ _ | refine blk_drew ?_ | refine blk_alloc ?_ _)); exact BK120.out) hb); have n1_ := Aside0.mk (blk_below (g := gb122) (o := .cells #[.int .i64 ((rd_T29 l0_4 x58_3).f0), .int .i64 ((rd_T29 l0_4 x58_3).f1), .bool ((rd_T29 l0_4 x58_3).f2), .slice A121_3 ((rd_T29 l0_4 x58_3).f3).length c121_3, .slice A121_4 ((rd_T29 l0_4 x58_3).f4).length c121_4] 29 (0, 0)) (by (with_reducible repeat (first | refine blk_drewN ?_ _ | refine blk_drew ?_ | refine blk_alloc ?_ _)); refine blk_put (cs := #[.int .i64 ((rd_T29 l0_4 x58_3).f0), .int .i64 ((rd_T29 l0_4 x58_3).f1), .bool ((rd_T29 l0_4 x58_3).f2), .slice A121_3 ((rd_T29 l0_4 x58_3).f3).length c121_3, .slice none 0 0]) ?_ 4 _ rfl; (with_reducible repeat (first | refine blk_drewN ?_ _ | refine blk_drew ?_ | refine blk_alloc ?_ _)); refine blk_put (cs := #[.int .i64 ((rd_T29 l0_4 x58_3).f0), .int .i64 ((rd_T29 l0_4 x58_3).f1), .bool ((rd_T29 l0_4 x58_3).f2), .slice none 0 0, .slice none 0 0]) ?_ 3 _ rfl; (with_reducible repeat (first | refine blk_drewN ?_ _ | refine blk_drew ?_ | refine blk_alloc ?_ _)); refine blk_put (cs := #[.int .i64 ((rd_T29 l0_4 x58_3).f0), .int .i64 ((rd_T29 l0_4 x58_3).f1), .bool false, .slice none 0 0, .slice none 0 0]) ?_ 2 _ rfl; (with_reducible repeat (first | refine blk_drewN ?_ _ | refine blk_drew ?_ | refine blk_alloc ?_ _)); refine blk_put (cs := #[.int .i64 ((rd_T29 l0_4 x58_3).f0), .int .i64 0, .bool false, .slice none 0 0, .slice none 0 0]) ?_ 1 _ rfl; (with_reducible repeat (first | refine blk_drewN ?_ _ | refine blk_drew ?_ | refine blk_alloc ?_ _)); refine blk_put (cs := #[.int .i64 0, .int .i64 0, .bool false, .slice none 0 0, .slice none 0 0]) ?_ 0 _ rfl; (with_reducible repeat (first | refine blk_drewN ?_ _ | refine blk_drew ?_ | refine blk_alloc ?_ _)); exact BK122.out) hb); have n2_ := Aside0.mk (below_step (by repeat (first | (with_reducible first | exact HB.out | apply below_alloc | apply pw_below_drewN | apply below_drew1 | refine below_set ?_ GE120.out | refine below_set ?_ GE122.out) | exact HB.out)) hb); clear BK120; clear BK122; clear HB; have BK120 := n0_; have BK122 := n1_; have HB := n2_; clear n0_ n1_ n2_; (try clear hb); (try clear hb2); (try clear hk); (try clear hi)))
                          go_roundg k3
                          case measure => have := HJ1.out; have := HJ19.out; have := HK3.out; omega
                          case rel => exact ⟨(wrap64 (x58_3 + 1)), (by first | rfl | (simp; done) | (simp [*]; done)), H', ⟨by have := HJ1.out; have := HJ19.out; have := HK3.out; omega⟩, ⟨by (with_reducible repeat (first | refine blk_drewN ?_ _ | refine blk_drew ?_ | refine blk_alloc ?_ _)); exact BK120.out⟩, ⟨by repeat (first | (with_reducible first | exact HB.out | apply below_alloc | apply pw_below_drewN | apply below_drew1 | refine below_set ?_ GE120.out | refine below_set ?_ GE122.out) | exact HB.out)⟩⟩
                        · replace c32 := Bool.eq_false_iff.mpr c32
                          subst c32
                          have H1 : (some false) = some r := by rw [if_neg (show ¬ (false = true) by decide)] at H; exact H
                          clear H
                          have H := H1
                          clear H1
                          obtain rfl := Option.some.inj H
                          have p121 : 0 ≤ (x58_3 : Int) := of_decide_eq_true (by first | (with_reducible assumption) | assumption)
                          have q121 : x58_3 < (l0_4.length : Int) := of_decide_eq_true (by first | (with_reducible assumption) | assumption)
                          obtain ⟨ad121, A121_3, c121_3, A121_4, c121_4, e121, hx121_0, hx121_1, hx121_2, hx121_3, hx121_4, hl121_3, hi121_3, hl121_4, hi121_4⟩ := at_T29 HR0_4.out x58_3 p121 q121
                          cases e121
                          replace hx121_0 := (HB.out.cell (World.block_lt_of_cell? w _ hx121_0)).trans hx121_0
                          replace hx121_1 := (HB.out.cell (World.block_lt_of_cell? w _ hx121_1)).trans hx121_1
                          replace hx121_2 := (HB.out.cell (World.block_lt_of_cell? w _ hx121_2)).trans hx121_2
                          replace hx121_3 := (HB.out.cell (World.block_lt_of_cell? w _ hx121_3)).trans hx121_3
                          replace hx121_4 := (HB.out.cell (World.block_lt_of_cell? w _ hx121_4)).trans hx121_4
                          have HR121_3 := Aside0.mk hi121_3
                          have HC121_3 := Aside0.mk hl121_3
                          clear hi121_3 hl121_3
                          have HR121_4 := Aside0.mk hi121_4
                          have HC121_4 := Aside0.mk hl121_4
                          clear hi121_4 hl121_4
                          replace p121 := eq_true p121
                          replace q121 := eq_true q121
                          go_wp2_with (first | ((with_reducible refine gate_dst (N := 4) rfl ?_); (try (refine gate_guard (by rfl) ?_; dsimp only)); refine box_event ?hg (N := 4) ?hd (cs := #[.int .i64 0, .int .i64 0, .bool false, .slice none 0 0, .slice none 0 0]) (t := 29) ?hr ?_; (case hd => rfl); (case hg => rfl); (case hr => first | (go_simp; done) | (go_simp; rfl)); intro gb122 hg w37 hbox hb; have n0_ := Aside0.mk (blk_below (g := gb120) (o := .cells #[.int .i64 a0_0, .int .i64 a0_1, .bool a0_2, .slice A0_3 l0_3.length c0_3, .slice (some ad121) l0_4.length c0_4] 29 (0, 0)) (by (with_reducible repeat (first | refine blk_drewN ?_ _ | refine blk_drew ?_ | refine blk_alloc ?_ _)); exact BK120.out) hb); have n1_ := Aside0.mk (below_step (by repeat (first | (with_reducible first | exact HB.out | apply below_alloc | apply pw_below_drewN | apply below_drew1 | refine below_set ?_ GE120.out) | exact HB.out)) hb); have n2_ := Aside0.mk (hbox); have n3_ := Aside0.mk ((by rw [hg]; exact (below_size (by repeat (first | (with_reducible first | exact HB.out | apply below_alloc | apply pw_below_drewN | apply below_drew1 | refine below_set ?_ GE120.out) | exact HB.out))) : w.heap.size ≤ gb122)); have n4_ := Aside0.mk ((by rw [hg]; exact (below_size (by repeat (first | (with_reducible first | exact HB.out | apply below_alloc | apply pw_below_drewN | apply below_drew1 | refine below_set ?_ GE120.out) | exact HB.out))) : w.heap.size ≤ gb122)); have n5_ := Aside0.mk ((by rw [hg]; exact Nat.ne_of_lt (blk_lt (g := gb120) (o := .cells #[.int .i64 a0_0, .int .i64 a0_1, .bool a0_2, .slice A0_3 l0_3.length c0_3, .slice (some ad121) l0_4.length c0_4] 29 (0, 0)) (by (with_reducible repeat (first | refine blk_drewN ?_ _ | refine blk_drew ?_ | refine blk_alloc ?_ _)); exact BK120.out)) : gb120 ≠ gb122)); have n6_ := Aside0.mk ((by rw [hg]; exact Nat.ne_of_gt (blk_lt (g := gb120) (o := .cells #[.int .i64 a0_0, .int .i64 a0_1, .bool a0_2, .slice A0_3 l0_3.length c0_3, .slice (some ad121) l0_4.length c0_4] 29 (0, 0)) (by (with_reducible repeat (first | refine blk_drewN ?_ _ | refine blk_drew ?_ | refine blk_alloc ?_ _)); exact BK120.out)) : gb122 ≠ gb120)); clear BK120; clear HB; have BK120 := n0_; have HB := n1_; have BK122 := n2_; have GW122 := n3_; have GE122 := n4_; have NB120_122 := n5_; have NB122_120 := n6_; clear n0_ n1_ n2_ n3_ n4_ n5_ n6_; clear hb hbox hg; have hnb38 := NB122_120.out; have hnc38 := NB120_122.out; have hcz39_0 : w37.cell? ⟨gb122, 0, none⟩ = some (.int .i64 0) := (blk_cell BK122.out 0).trans rfl; have hcz39_1 : w37.cell? ⟨gb122, 1, none⟩ = some (.int .i64 0) := (blk_cell BK122.out 1).trans rfl; have hcz39_2 : w37.cell? ⟨gb122, 2, none⟩ = some (.bool false) := (blk_cell BK122.out 2).trans rfl; have hcz39_3 : w37.cell? ⟨gb122, 3, none⟩ = some (.slice none 0 0) := (blk_cell BK122.out 3).trans rfl; have hcz39_4 : w37.cell? ⟨gb122, 4, none⟩ = some (.slice none 0 0) := (blk_cell BK122.out 4).trans rfl; have hfz39_0 := blk_frozen BK122.out 0; have hfz39_1 := blk_frozen BK122.out 1; have hfz39_2 := blk_frozen BK122.out 2; have hfz39_3 := blk_frozen BK122.out 3; have hfz39_4 := blk_frozen BK122.out 4) | ((with_reducible refine gate_callee (f := 9) rfl ?_); refine goesL_ (some 63) rfl rfl Tryd.func9 (by kernel_rfl) rfl #[.agg #[.int .i64 ((rd_T29 l0_4 x58_3).f0), .int .i64 ((rd_T29 l0_4 x58_3).f1), .bool ((rd_T29 l0_4 x58_3).f2), .slice A121_3 ((rd_T29 l0_4 x58_3).f3).length c121_3, .slice A121_4 ((rd_T29 l0_4 x58_3).f4).length c121_4]] rfl (by (try simp only [List.map_toArray, List.map_cons, List.map_nil]); first | done | rfl | (simp only [List.length_drop, List.length_take]; rfl)) ?_; (with_reducible refine (ih k3 (by have := HJ1.out; have := HJ19.out; have := HK3.out; omega) ((rd_T29 l0_4 x58_3).f0) ((rd_T29 l0_4 x58_3).f1) ((rd_T29 l0_4 x58_3).f2) _ _ ((rd_T29 l0_4 x58_3).f3) _ _ ((rd_T29 l0_4 x58_3).f4) false _ ?side1 ?side2 ?side3 ?side4 A31.out).mono ?_); (case side1 => exact Kd.C_below HR121_3.out (by repeat (first | (with_reducible first | exact HB.out | apply below_alloc | apply pw_below_drewN | apply below_drew1 | refine below_set ?_ GE120.out | refine below_set ?_ GE122.out) | exact HB.out))); (case side2 => exact HC121_3.out); (case side3 => exact Kd.C_below HR121_4.out (by repeat (first | (with_reducible first | exact HB.out | apply below_alloc | apply pw_below_drewN | apply below_drew1 | refine below_set ?_ GE120.out | refine below_set ?_ GE122.out) | exact HB.out))); (case side4 => exact HC121_4.out); rintro e w40 ⟨rfl, hb⟩; refine ⟨_, rfl, ?_⟩; have n0_ := Aside0.mk (blk_below (g := gb120) (o := .cells #[.int .i64 a0_0, .int .i64 a0_1, .bool a0_2, .slice A0_3 l0_3.length c0_3, .slice (some ad121) l0_4.length c0_4] 29 (0, 0)) (by (with_reducible repeat (first | refine blk_drewN ?_ _ | refine blk_drew ?_ | refine blk_alloc ?_ _)); refine blk_far ?_ NB120_122.out _; (with_reducible repeat (first | refine blk_drewN ?_ _ | refine blk_drew ?_ | refine blk_alloc ?_ _)); refine blk_far ?_ NB120_122.out _; (with_reducible repeat (first | refine blk_drewN ?_ _ | refine blk_drew ?_ | refine blk_alloc ?_ _)); refine blk_far ?_ NB120_122.out _; (with_reducible repeat (first | refine blk_drewN ?_ _ | refine blk_drew ?_ | refine blk_alloc ?_ _)); refine blk_far ?_ NB120_122.out _; (with_reducible repeat (first | refine blk_drewN ?_ _ | refine blk_drew ?_ | refine blk_alloc ?_ _)); refine blk_far ?_ NB120_122.out _; (with_reducible repeat (first | refine blk_drewN ?_ _ | refine blk_drew ?_ | refine blk_alloc ?_ _)); exact BK120.out) hb); have n1_ := Aside0.mk (blk_below (g := gb122) (o := .cells #[.int .i64 ((rd_T29 l0_4 x58_3).f0), .int .i64 ((rd_T29 l0_4 x58_3).f1), .bool ((rd_T29 l0_4 x58_3).f2), .slice A121_3 ((rd_T29 l0_4 x58_3).f3).length c121_3, .slice A121_4 ((rd_T29 l0_4 x58_3).f4).length c121_4] 29 (0, 0)) (by (with_reducible repeat (first | refine blk_drewN ?_ _ | refine blk_drew ?_ | refine blk_alloc ?_ _)); refine blk_put (cs := #[.int .i64 ((rd_T29 l0_4 x58_3).f0), .int .i64 ((rd_T29 l0_4 x58_3).f1), .bool ((rd_T29 l0_4 x58_3).f2), .slice A121_3 ((rd_T29 l0_4 x58_3).f3).length c121_3, .slice none 0 0]) ?_ 4 _ rfl; (with_reducible repeat (first | refine blk_drewN ?_ _ | refine blk_drew ?_ | refine blk_alloc ?_ _)); refine blk_put (cs := #[.int .i64 ((rd_T29 l0_4 x58_3).f0), .int .i64 ((rd_T29 l0_4 x58_3).f1), .bool ((rd_T29 l0_4 x58_3).f2), .slice none 0 0, .slice none 0 0]) ?_ 3 _ rfl; (with_reducible repeat (first | refine blk_drewN ?_ _ | refine blk_drew ?_ | refine blk_alloc ?_ _)); refine blk_put (cs := #[.int .i64 ((rd_T29 l0_4 x58_3).f0), .int .i64 ((rd_T29 l0_4 x58_3).f1), .bool false, .slice none 0 0, .slice none 0 0]) ?_ 2 _ rfl; (with_reducible repeat (first | refine blk_drewN ?_ _ | refine blk_drew ?_ | refine blk_alloc ?_ _)); refine blk_put (cs := #[.int .i64 ((rd_T29 l0_4 x58_3).f0), .int .i64 0, .bool false, .slice none 0 0, .slice none 0 0]) ?_ 1 _ rfl; (with_reducible repeat (first | refine blk_drewN ?_ _ | refine blk_drew ?_ | refine blk_alloc ?_ _)); refine blk_put (cs := #[.int .i64 0, .int .i64 0, .bool false, .slice none 0 0, .slice none 0 0]) ?_ 0 _ rfl; (with_reducible repeat (first | refine blk_drewN ?_ _ | refine blk_drew ?_ | refine blk_alloc ?_ _)); exact BK122.out) hb); have n2_ := Aside0.mk (below_step (by repeat (first | (with_reducible first | exact HB.out | apply below_alloc | apply pw_below_drewN | apply below_drew1 | refine below_set ?_ GE120.out | refine below_set ?_ GE122.out) | exact HB.out)) hb); clear BK120; clear BK122; clear HB; have BK120 := n0_; have BK122 := n1_; have HB := n2_; clear n0_ n1_ n2_; (try clear hb); (try clear hb2); (try clear hk); (try clear hi)))
                          go_ret
                          exact ⟨by first | rfl | (simp [errW_none, errW_some] <;> rfl) | (simp [*, errW_none, errW_some] <;> rfl), by repeat (first | (with_reducible first | exact HB.out | apply below_alloc | apply pw_below_drewN | apply below_drew1 | refine below_set ?_ GE120.out | refine below_set ?_ GE122.out) | exact HB.out)⟩
                      · rw [if_neg c30] at H
                        exact absurd H (by simp)
                    · rw [if_neg c29] at H
                      exact absurd H (by simp)
                  · rw [if_neg c28] at H
                    have c28b0 : decide (x58_3 < (l0_4.length : Int)) = false := decide_eq_false c28
                    clear c28
                    obtain rfl := Option.some.inj H
                    go_wp2
                    go_ret
                    exact ⟨by first | rfl | (simp [errW_none, errW_some] <;> rfl) | (simp [*, errW_none, errW_some] <;> rfl), by repeat (first | (with_reducible first | exact HB.out | apply below_alloc | apply pw_below_drewN | apply below_drew1 | refine below_set ?_ GE120.out) | exact HB.out)⟩

end Go.Proofs.YtejbpbdlolehnaaDoor.PFnEncode
namespace Go.Proofs.YtejbpbdlolehnaaDoor.PFnEncode
open Go.RowKit Go.Proofs.YtejbpbdlolehnaaDoorW.PrintWords Go.Proofs.YtejbpbdlolehnaaDoorW.PrintLast Go.Proofs.YtejbpbdlolehnaaDoorW.PrintMore
attribute [local go_sem] max2_int min2_int max_two min_two max_three min_three max_four min_four   -- for this text's walks alone
set_option linter.unusedVariables false
set_option linter.unusedSimpArgs false

/-! ### spec_Same: function 13 -/
end Go.Proofs.YtejbpbdlolehnaaDoor.PFnEncode
namespace Go.Proofs.YtejbpbdlolehnaaDoor.Ber
open Go.RowKit Go.Proofs.YtejbpbdlolehnaaDoorW.PrintWords Go.Proofs.YtejbpbdlolehnaaDoor.PFnEncode Go.Proofs.YtejbpbdlolehnaaDoor.Within Go.Proofs.YtejbpbdlolehnaaDoor.Tree
set_option linter.unusedVariables false
set_option linter.unusedSimpArgs false
theorem dpx_le : ∀ x : S29, dpx x ≤ tsize x
  | ⟨a, b, c, d, l⟩ => by
    have := dpxL_le l
    rw [dpx, tsize]
    omega
where dpxL_le : ∀ l : List S29, dpxL l ≤ tsizeL l
  | [] => by rw [dpxL]; exact Nat.zero_le _
  | x :: xs => by
    have h1 := dpx_le x
    have h2 := dpxL_le xs
    rw [dpxL, tsizeL]
    omega
mutual
theorem size_eq : ∀ x : S29, tsize x < 4611686018427387904 → ∃ k, spec_Size.f k x.f0 x.f1 x.f2 x.f3 x.f4 = some (tsize x : Int)
  | ⟨a, b, c, d, l⟩, h => by
    rw [tsize] at h ⊢
    obtain ⟨k, hk⟩ := sizeL_eq l (1 + (d.length : Int)) [] (by have := len_le_tsizeL l; simp; omega) (by omega) (by omega) (by omega)
    refine ⟨k + 1, ?_⟩
    have e : wrap64 (1 + (d.length : Int)) = 1 + (d.length : Int) := by unfold wrap64; omega
    rw [spec_Size.f]
    rw [e]
    have e2 : (1 + (d.length : Int)) + (tsizeL l : Int) = ((1 + d.length + tsizeL l : Nat) : Int) := by push_cast; omega
    rw [e2] at hk
    simpa using hk
theorem sizeL_eq : ∀ (l : List S29) (acc : Int) (pre : List S29), pre.length + l.length < 4611686018427387904 → tsizeL l < 4611686018427387904 → 0 ≤ acc → acc + tsizeL l < 4611686018427387904 → ∃ k, spec_Size.l0 k acc (pre ++ l) ((pre ++ l).length : Int) (pre.length : Int) = some (acc + tsizeL l)
  | [], acc, pre, _, _, _, _ => ⟨1, by rw [spec_Size.l0]; simp [tsizeL]⟩
  | x :: xs, acc, pre, h1, h2, h3, h4 => by
    rw [tsizeL] at h2 h4 ⊢
    push_cast at h4
    rw [List.length_cons] at h1
    obtain ⟨k1, e1⟩ := size_eq x (by omega)
    have ea : wrap64 (acc + (tsize x : Int)) = acc + (tsize x : Int) := by unfold wrap64; omega
    obtain ⟨k2, e2⟩ := sizeL_eq xs (acc + (tsize x : Int)) (pre ++ [x]) (by simp; omega) (by omega) (by omega) (by omega)
    have e1' := at_rounds (fun k => spec_Size.mono x.f0 x.f1 x.f2 x.f3 x.f4 k) (Nat.le_max_left k1 k2) e1
    have e2' := at_rounds (fun k => (spec_Size.mono_l k).2 (acc + (tsize x : Int)) _ _ _) (Nat.le_max_right k1 k2) e2
    refine ⟨max k1 k2 + 1, ?_⟩
    rw [spec_Size.l0, if_pos (by simp; omega), if_pos (by omega), if_pos (by simp; omega), rd_mid, e1']
    show spec_Size.l0 _ (wrap64 (acc + (tsize x : Int))) _ _ (wrap64 ((pre.length : Int) + 1)) = _
    have ew : wrap64 ((pre.length : Int) + 1) = (((pre ++ [x]).length : Nat) : Int) := by
      unfold wrap64
      simp
      omega
    have e3 : acc + ((tsize x + tsizeL xs : Nat) : Int) = acc + (tsize x : Int) + (tsizeL xs : Int) := by push_cast; omega
    rw [ew, ea, e3]
    simpa using e2'
end
mutual
theorem deep_eq : ∀ x : S29, tsize x < 4611686018427387904 → ∃ k, spec_Deep.f k x.f0 x.f1 x.f2 x.f3 x.f4 = some (dpx x : Int)
  | ⟨a, b, c, d, l⟩, h => by
    have hle := dpx_le ⟨a, b, c, d, l⟩
    rw [tsize] at h hle
    rw [dpx] at hle ⊢
    obtain ⟨k, hk⟩ := deepL_eq l 0 [] (by have := len_le_tsizeL l; simp; omega) (by omega) (Int.le_refl 0) (by omega) (by omega)
    refine ⟨k + 1, ?_⟩
    rw [spec_Deep.f]
    have e2 : max (0 : Int) (dpxL l : Int) + 1 = ((dpxL l + 1 : Nat) : Int) := by push_cast; omega
    rw [e2] at hk
    simpa using hk
theorem deepL_eq : ∀ (l : List S29) (acc : Int) (pre : List S29), pre.length + l.length < 4611686018427387904 → tsizeL l < 4611686018427387904 → 0 ≤ acc → acc < 4611686018427387904 → dpxL l < 4611686018427387904 → ∃ k, spec_Deep.l0 k acc (pre ++ l) ((pre ++ l).length : Int) (pre.length : Int) = some (max acc (dpxL l) + 1)
  | [], acc, pre, _, _, h3, h4, h5 => ⟨1, by
    have e : wrap64 (acc + 1) = max acc ((dpxL [] : Nat) : Int) + 1 := by rw [dpxL]; unfold wrap64; omega
    rw [spec_Deep.l0, ← e]
    simp⟩
  | x :: xs, acc, pre, h1, h2, h3, h4, h5 => by
    rw [tsizeL] at h2
    rw [dpxL] at h5 ⊢
    rw [List.length_cons] at h1
    obtain ⟨k1, e1⟩ := deep_eq x (by omega)
    have em : mx acc (dpx x : Int) = max acc (dpx x : Int) := by
      unfold mx
      split <;> omega
    obtain ⟨k2, e2⟩ := deepL_eq xs (max acc (dpx x : Int)) (pre ++ [x]) (by simp; omega) (by omega) (by omega) (by omega) (by omega)
    have e1' := at_rounds (fun k => spec_Deep.mono x.f0 x.f1 x.f2 x.f3 x.f4 k) (Nat.le_max_left k1 k2) e1
    have e2' := at_rounds (fun k => (spec_Deep.mono_l k).2 (max acc (dpx x : Int)) _ _ _) (Nat.le_max_right k1 k2) e2
    refine ⟨max k1 k2 + 1, ?_⟩
    rw [spec_Deep.l0, if_pos (by simp; omega), if_pos (by omega), if_pos (by simp; omega), rd_mid, e1']
    show spec_Deep.l0 _ (mx acc (dpx x : Int)) _ _ (wrap64 ((pre.length : Int) + 1)) = _
    have ew : wrap64 ((pre.length : Int) + 1) = (((pre ++ [x]).length : Nat) : Int) := by
      unfold wrap64
      simp
      omega
    have e3 : max acc ((max (dpx x) (dpxL xs) : Nat) : Int) = max (max acc (dpx x : Int)) (dpxL xs : Int) := by omega
    rw [ew, em, e3]
    simpa using e2'
end
/-- 'fits' ends; true: the tree is good, small, and not deep. -/
theorem fits_all (x : S29) (h : tsize x < 4611686018427387904) : ∃ k b, laws_fits.f k x.f0 x.f1 x.f2 x.f3 x.f4 = some b ∧ (b = true → good x = true ∧ tsize x ≤ 5000 ∧ dpx x ≤ 20) := by
  obtain ⟨k1, e1⟩ := size_eq x h
  obtain ⟨k2, e2⟩ := deep_eq x h
  obtain ⟨k3, e3⟩ := proper_ex x h
  have e1' := at_rounds (fun k => spec_Size.mono x.f0 x.f1 x.f2 x.f3 x.f4 k) (show k1 ≤ k1 + k2 + k3 by omega) e1
  have e2' := at_rounds (fun k => spec_Deep.mono x.f0 x.f1 x.f2 x.f3 x.f4 k) (show k2 ≤ k1 + k2 + k3 by omega) e2
  have e3' := at_rounds (fun k => spec_Proper.mono x.f0 x.f1 x.f2 x.f3 x.f4 k) (show k3 ≤ k1 + k2 + k3 by omega) e3
  refine ⟨k1 + k2 + k3, (decide ((tsize x : Int) ≤ 5000) && decide ((dpx x : Int) ≤ 20) && good x), ?_, fun hb => by simp only [Bool.and_eq_true, decide_eq_true_eq] at hb; exact ⟨hb.2, by omega, by omega⟩⟩
  rw [laws_fits.f, e1', e2', e3']
  simp only [Option.bind_some]
  by_cases h1 : (tsize x : Int) ≤ 5000
  · by_cases h2 : (dpx x : Int) ≤ 20
    · simp [h1, h2]
    · simp [h1, h2]
  · simp [h1]
mutual
theorem kept_kp : ∀ x : S29, good x = true → tsize x < 4611686018427387904 → ∃ k r, spec_Kept.f k x.f0 x.f1 x.f2 x.f3 x.f4 = some r ∧ (r = true → kp x)
  | ⟨a, b, c, d, l⟩, hg, h => by
    rw [tsize] at h
    obtain ⟨k, r, hk, hr⟩ := keptL_kp l [] (by rw [good] at hg; simp only [Bool.and_eq_true] at hg; exact hg.2) (by have := len_le_tsizeL l; simp; omega) (by omega)
    have hl0 : c = false → l = [] := fun hc => by
      rw [good] at hg
      simp only [Bool.and_eq_true] at hg
      subst hc
      simpa using hg.1.2
    simp only [List.nil_append, List.length_nil] at hk
    rw [show (((0 : Nat) : Int)) = 0 from rfl] at hk
    by_cases ha : a = 0
    · cases c with
      | false =>
        have := hl0 rfl
        subst this
        have key : ∃ s, spec_Kept.j0 (k + 2) true a b false d [] = some s ∧ (s = true → (b = 1 ∧ d.length = 1) ∨ ((b = 2 ∨ b = 10) ∧ 1 ≤ d.length ∧ d.length ≤ 8) ∨ b = 4 ∨ (b = 5 ∧ d.length = 0)) := by
          rw [spec_Kept.j0, if_pos rfl]
          by_cases h1 : b = 1
          · rw [if_pos h1]
            exact ⟨_, rfl, fun h => .inl ⟨h1, by have h' : (d.length : Int) = 1 := (by simpa using h); omega⟩⟩
          rw [if_neg h1]
          by_cases h2 : b = 2
          · have e : (b == 2) = true := by simp [h2]
            rw [if_pos h2, spec_Kept.j1, if_pos e]
            by_cases h3 : (d.length : Int) ≥ 1
            · rw [if_pos h3]
              exact ⟨_, rfl, fun h => .inr (.inl ⟨.inl h2, by omega, by have h' : (d.length : Int) ≤ 8 := (by simpa using h); omega⟩)⟩
            · rw [if_neg h3]
              exact ⟨_, rfl, fun h => by cases h⟩
          rw [if_neg h2, spec_Kept.j1]
          by_cases h10 : b = 10
          · have e : (b == 10) = true := by simp [h10]
            rw [if_pos e]
            by_cases h3 : (d.length : Int) ≥ 1
            · rw [if_pos h3]
              exact ⟨_, rfl, fun h => .inr (.inl ⟨.inr h10, by omega, by have h' : (d.length : Int) ≤ 8 := (by simpa using h); omega⟩)⟩
            · rw [if_neg h3]
              exact ⟨_, rfl, fun h => by cases h⟩
          · have e : ¬ (b == 10) = true := by simpa using h10
            rw [if_neg e]
            by_cases h4 : b = 4
            · rw [if_pos h4]
              exact ⟨_, rfl, fun _ => .inr (.inr (.inl h4))⟩
            rw [if_neg h4]
            by_cases h5 : b = 5
            · rw [if_pos h5]
              exact ⟨_, rfl, fun h => .inr (.inr (.inr ⟨h5, by simpa using h⟩))⟩
            · rw [if_neg h5]
              exact ⟨_, rfl, fun h => by cases h⟩
        obtain ⟨s, e0, hs⟩ := key
        refine ⟨k + 3, s, ?_, fun h => ?_⟩
        · rw [spec_Kept.f, if_pos ha]
          exact e0
        · rw [kp]
          exact ⟨fun _ _ => hs h, fun _ hc => absurd hc (by simp), by rw [kpL]; trivial⟩
      | true =>
        have key : ∃ s, spec_Kept.j0 (k + 2) false a b true d l = some s ∧ (s = true → (b = 16 ∨ b = 17) ∧ kpL l) := by
          rw [spec_Kept.j0, if_neg Bool.false_ne_true, if_pos ha]
          by_cases h16 : b = 16
          · rw [if_pos h16, spec_Kept.j2, if_neg Bool.false_ne_true]
            exact ⟨r, hk, fun h => ⟨.inl h16, hr h⟩⟩
          · rw [if_neg h16, spec_Kept.j2]
            by_cases h17 : b = 17
            · have e : ¬ (b != 17) = true := by simp [h17]
              rw [if_neg e]
              exact ⟨r, hk, fun h => ⟨.inr h17, hr h⟩⟩
            · have e : (b != 17) = true := by simpa using h17
              rw [if_pos e]
              exact ⟨_, rfl, fun h => by cases h⟩
        obtain ⟨s, e0, hs⟩ := key
        refine ⟨k + 3, s, ?_, fun h => ?_⟩
        · rw [spec_Kept.f, if_pos ha]
          exact e0
        · rw [kp]
          exact ⟨fun _ hc => absurd hc (by simp), fun _ _ => (hs h).1, (hs h).2⟩
    · have key : spec_Kept.j0 (k + 2) false a b c d l = some r := by
        rw [spec_Kept.j0, if_neg Bool.false_ne_true, if_neg ha, spec_Kept.j2, if_neg Bool.false_ne_true]
        exact hk
      refine ⟨k + 3, r, ?_, fun h => ?_⟩
      · rw [spec_Kept.f, if_neg ha]
        exact key
      · rw [kp]
        exact ⟨fun h0 => absurd h0 ha, fun h0 => absurd h0 ha, hr h⟩
theorem keptL_kp : ∀ (l : List S29) (pre : List S29), goodL l = true → pre.length + l.length < 4611686018427387904 → tsizeL l < 4611686018427387904 → ∃ k r, spec_Kept.l0 k (pre ++ l) ((pre ++ l).length : Int) (pre.length : Int) = some r ∧ (r = true → kpL l)
  | [], pre, _, _, _ => ⟨1, true, by rw [spec_Kept.l0]; simp, fun _ => by rw [kpL]; trivial⟩
  | x :: xs, pre, hg, h1, h2 => by
    rw [goodL, Bool.and_eq_true] at hg
    rw [tsizeL] at h2
    rw [List.length_cons] at h1
    obtain ⟨k1, r1, e1, g1⟩ := kept_kp x hg.1 (by omega)
    obtain ⟨k2, r2, e2, g2⟩ := keptL_kp xs (pre ++ [x]) hg.2 (by simp; omega) (by omega)
    have e1' := at_rounds (fun k => (spec_Kept.mono_l k).1 x.f0 x.f1 x.f2 x.f3 x.f4) (Nat.le_max_left k1 k2) e1
    have e2' := at_rounds (fun k => (spec_Kept.mono_l k).2.2.2.2 _ _ _) (Nat.le_max_right k1 k2) e2
    have ew : wrap64 ((pre.length : Int) + 1) = (((pre ++ [x]).length : Nat) : Int) := by
      unfold wrap64
      simp
      omega
    refine ⟨max k1 k2 + 1, if r1 = true then r2 else false, ?_, fun h => ?_⟩
    · rw [spec_Kept.l0, if_pos (by simp; omega), if_pos (by omega), if_pos (by simp; omega), rd_mid, e1']
      show (if r1 = true then spec_Kept.l0 _ _ _ (wrap64 ((pre.length : Int) + 1)) else some false) = _
      rw [ew]
      cases r1
      · rfl
      · simpa using e2'
    · rw [kpL]
      cases r1 with
      | false => exact absurd h (by simp)
      | true => exact ⟨g1 rfl, g2 (by simpa using h)⟩
end
end Go.Proofs.YtejbpbdlolehnaaDoor.Ber
namespace Go.Proofs.YtejbpbdlolehnaaDoor.Ber
open Go.RowKit Go.Proofs.YtejbpbdlolehnaaDoorW.PrintWords Go.Proofs.YtejbpbdlolehnaaDoor.PFnEncode Go.Proofs.YtejbpbdlolehnaaDoor.Within Go.Proofs.YtejbpbdlolehnaaDoor.Tree Go.Proofs.YtejbpbdlolehnaaDoor.Num Go.Proofs.YtejbpbdlolehnaaDoor.Ident
set_option linter.unusedVariables false
set_option linter.unusedSimpArgs false
mutual
/-- all data are bytes -/
def inB : S25 → Prop
  | ⟨_, _, _, d, l⟩ => (∀ y ∈ d, 0 ≤ y ∧ y < 256) ∧ inBL l
def inBL : List S25 → Prop
  | [] => True
  | x :: xs => inB x ∧ inBL xs
end
theorem inBL_of : ∀ {l : List S25}, (∀ x ∈ l, inB x) → inBL l
  | [], _ => by rw [inBL]; trivial
  | x :: xs, h => by rw [inBL]; exact ⟨h x List.mem_cons_self, inBL_of (fun y hy => h y (List.mem_cons_of_mem _ hy))⟩
theorem low_in (t : Int) (n : Nat) : ∀ y ∈ low t n, 0 ≤ y ∧ y < 256 := by
  intro y hy
  rw [low, List.mem_map] at hy
  obtain ⟨i, _, rfl⟩ := hy
  cases i with
  | zero => rw [dig]; omega
  | succ i => rw [dig]; omega
theorem identT_in (a b : Int) (c : Bool) (a0 : 0 ≤ a) (a1 : a ≤ 3) (b0 : 0 ≤ b) : ∀ y ∈ identT a b c, 0 ≤ y ∧ y < 256 := by
  intro y hy
  unfold identT cb at hy
  by_cases h : b < 31
  · rw [if_pos h] at hy
    rw [List.mem_singleton.1 hy]
    cases c
    · simp; omega
    · simp; omega
  · rw [if_neg h] at hy
    rcases List.mem_cons.1 hy with rfl | hy
    · cases c
      · simp; omega
      · simp; omega
    · exact low_in _ _ y (List.mem_reverse.1 hy)
theorem lenBytes_in (n : Nat) (hn : n < 256 ^ 8) : ∀ y ∈ lenBytes n, 0 ≤ y ∧ y < 256 := by
  intro y hy
  unfold lenBytes at hy
  by_cases h : n < 128
  · rw [if_pos h] at hy
    rw [List.mem_singleton.1 hy]
    omega
  · rw [if_neg h] at hy
    rcases List.mem_cons.1 hy with rfl | hy
    · have := nd_le 7 n hn
      omega
    · exact be_range _ _ y hy
mutual
theorem bytesT_in : ∀ p : S25, good (mir p) = true → inB p → (bytesT (mir p)).length < 256 ^ 8 → ∀ y ∈ bytesT (mir p), 0 ≤ y ∧ y < 256
  | ⟨a, b, c, d, l⟩, hg, hi, hl => by
    have hgl := goodL_of' hg
    rw [mir, good] at hg
    simp only [Bool.and_eq_true, decide_eq_true_eq] at hg
    obtain ⟨⟨⟨⟨⟨a0, a1⟩, b0⟩, b1⟩, hc⟩, _⟩ := hg
    rw [inB] at hi
    rw [mir, bytesT] at hl ⊢
    have hl2 : (d ++ bytesL (mirL l)).length < 256 ^ 8 := by rw [List.length_append] at hl; omega
    have hl3 : (bytesL (mirL l)).length < 256 ^ 8 := by rw [List.length_append] at hl2; omega
    intro y hy
    rcases List.mem_append.1 hy with hy | hy
    · rcases List.mem_append.1 hy with hy | hy
      · exact identT_in a b c a0 a1 b0 y hy
      · exact lenBytes_in _ hl2 y hy
    · rcases List.mem_append.1 hy with hy | hy
      · exact hi.1 y hy
      · exact bytesL_in l hgl hi.2 hl3 y hy
theorem bytesL_in : ∀ l : List S25, goodL (mirL l) = true → inBL l → (bytesL (mirL l)).length < 256 ^ 8 → ∀ y ∈ bytesL (mirL l), 0 ≤ y ∧ y < 256
  | [], _, _, _ => by rw [mirL, bytesL]; intro y hy; cases hy
  | x :: xs, hg, hi, hl => by
    rw [mirL, goodL, Bool.and_eq_true] at hg
    rw [inBL] at hi
    rw [mirL, bytesL] at hl ⊢
    rw [List.length_append] at hl
    intro y hy
    rcases List.mem_append.1 hy with hy | hy
    · exact bytesT_in x hg.1 hi.1 (by omega) y hy
    · exact bytesL_in xs hg.2 hi.2 (by omega) y hy
theorem goodL_of' {a b : Int} {c : Bool} {d : List Int} {l : List S25} (h : good (mir ⟨a, b, c, d, l⟩) = true) : goodL (mirL l) = true := by
  rw [mir, good] at h
  simp only [Bool.and_eq_true] at h
  exact h.2
end
end Go.Proofs.YtejbpbdlolehnaaDoor.Ber
namespace Go.Proofs.YtejbpbdlolehnaaDoor.Open
open Go.RowKit Go.Proofs.YtejbpbdlolehnaaDoorW.PrintWords Go.Proofs.YtejbpbdlolehnaaDoor.PFnEncode Go.Proofs.YtejbpbdlolehnaaDoor.Within
set_option linter.unusedVariables false
set_option linter.unusedSimpArgs false
theorem wf_u8 {x : Int} (h : (Lit.int .u8 x).wf = true) : 0 ≤ x ∧ x < 256 := by
  simp only [Lit.wf, IntKind.min, IntKind.max, IntKind.signed, IntKind.bits, Bool.and_eq_true, decide_eq_true_eq] at h
  simp at h
  omega
section
variable {H : Type} {enc : TypeId × Value → H} {W : World}
theorem opensIn (N : Nat) : Opens enc Tryd.prog W N 25 k25 (fun x => lens x = true ∧ Ber.inB x) := by
  refine Opens.fix (F := F25) (fun N k hsz h => ?_) N
  have hs : Opens enc Tryd.prog W (N + 1) 23 (Kd.slice 25 k) _ := Opens.slice h Tryd.underlying23 (hsz.trans (by kernel_rfl)) (of_decide_eq_true (by kernel_rfl))
  have hb : Opens enc Tryd.prog W (N + 1) 22 (Kd.slice 5 (Kd.int .u8)) _ := Opens.slice (opens_int N Tryd.underlying5) Tryd.underlying22 (by kernel_rfl) (of_decide_eq_true (by kernel_rfl))
  have hst := Opens.struct (P := Tryd.prog) Tryd.underlying25 (OpensFrom.cons (opens_int (N + 1) (k := .i64) Tryd.underlying3)
    (OpensFrom.cons (opens_int (N + 1) (k := .i64) Tryd.underlying3)
      (OpensFrom.cons (opens_bool (N + 1) Tryd.underlying4)
        (OpensFrom.cons hb (OpensFrom.one hs (by kernel_rfl) (by kernel_rfl)) (by kernel_rfl)) (by kernel_rfl)) (by kernel_rfl)) (by kernel_rfl))
  refine ((hst.iso (fun x : S25 => (x.f0, x.f1, x.f2, x.f3, x.f4)) (fun y => ⟨y.1, y.2.1, y.2.2.1, y.2.2.2.1, y.2.2.2.2⟩) (fun _ => rfl)).down (by omega)).imp ?_
  rintro ⟨a, b, c, d, l⟩ ⟨_, _, _, ⟨h3, h6⟩, h4, h5⟩
  refine ⟨?_, ?_⟩
  · rw [lens, lensL_all]
    simp only [Bool.and_eq_true, decide_eq_true_eq]
    exact ⟨⟨h3, h4⟩, List.all_eq_true.2 (fun x hx => (h5 x hx).1)⟩
  · rw [Ber.inB]
    exact ⟨fun y hy => wf_u8 (h6 y hy), Ber.inBL_of (fun x hx => (h5 x hx).2)⟩
end
end Go.Proofs.YtejbpbdlolehnaaDoor.Open
