/- Parts of the proof of one law, in the order in which they build. Plain maths: the reference's Size, Deep, Proper end at every tree that is not longer than 2^62; Proper answers true at good trees alone; so 'fits' ends, and true means good. -/
import Derived.Test.YtejbpbdlolehnaaDoorAny1
import Derived.Test.YtejbpbdlolehnaaDoorAny2
import Derived.Test.YtejbpbdlolehnaaDoorAny3
import Derived.Test.YtejbpbdlolehnaaDoorAny4
import Derived.Test.YtejbpbdlolehnaaDoorAny6
import Derived.Test.YtejbpbdlolehnaaDoorAny11
namespace Go.Proofs.YtejbpbdlolehnaaDoor.Tree
open Go.RowKit Go.Proofs.YtejbpbdlolehnaaDoorW.PrintWords Go.Proofs.YtejbpbdlolehnaaDoor.PFnEncode Go.Proofs.YtejbpbdlolehnaaDoor.Within
set_option linter.unusedVariables false
set_option linter.unusedSimpArgs false

theorem len_le_tsizeL : ∀ l : List S29, l.length ≤ tsizeL l
  | [] => Nat.le_refl _
  | x :: xs => by
    have := len_le_tsizeL xs
    rw [tsizeL, List.length_cons]
    have h : 1 ≤ tsize x := by obtain ⟨a, b, c, d, l⟩ := x; rw [tsize]; omega
    omega

theorem rd_mid (pre : List S29) (x : S29) (xs : List S29) : rd_T29 (pre ++ x :: xs) (pre.length : Int) = x := by
  rw [rd_T29, Int.toNat_natCast, List.getD_eq_getElem?_getD, List.getElem?_append_right (Nat.le_refl _), Nat.sub_self]
  rfl

mutual
theorem proper_ex : ∀ x : S29, tsize x < 4611686018427387904 → ∃ k, spec_Proper.f k x.f0 x.f1 x.f2 x.f3 x.f4 = some (good x)
  | ⟨a, b, c, d, l⟩, h => by
    rw [tsize] at h
    obtain ⟨k, hk⟩ := properL_ex l [] (by have := len_le_tsizeL l; simp; omega) (by omega)
    have hj : ∀ v, spec_Proper.j0 (k + 1) v a b c d l = if v = true then some false else some (goodL l) := fun v => by
      rw [spec_Proper.j0]
      simp only [List.nil_append, List.length_nil] at hk
      rw [show (((0 : Nat) : Int)) = 0 from rfl] at hk
      rw [hk]
    refine ⟨k + 2, ?_⟩
    rw [spec_Proper.f]
    simp only [hj, good]
    by_cases h0 : a < 0
    · simp [h0, show ¬ 0 ≤ a by omega]
    by_cases h1 : a > 3
    · simp [h0, h1, show ¬ a ≤ 3 by omega]
    by_cases h2 : b < 0
    · simp [h0, h1, h2, show ¬ 0 ≤ b by omega]
    by_cases h3 : b ≥ 268435456
    · simp [h0, h1, h2, h3, show ¬ b < 268435456 by omega]
    have g0 : 0 ≤ a := by omega
    have g1 : a ≤ 3 := by omega
    have g2 : 0 ≤ b := by omega
    have g3 : b < 268435456 := by omega
    rw [if_neg h0, if_neg h1, if_neg h2, if_neg h3]
    cases c with
    | true =>
      by_cases h4 : (d.length : Int) > 0
      · have : ¬ d.length = 0 := by omega
        simp [h4, g0, g1, g2, g3, this]
      · have : d.length = 0 := by omega
        simp [h4, g0, g1, g2, g3, this]
    | false =>
      by_cases h4 : (l.length : Int) > 0
      · have : ¬ l.length = 0 := by omega
        simp [h4, g0, g1, g2, g3, this]
      · have : l.length = 0 := by omega
        simp [h4, g0, g1, g2, g3, this]
theorem properL_ex : ∀ (l : List S29) (pre : List S29), pre.length + l.length < 4611686018427387904 → tsizeL l < 4611686018427387904 → ∃ k, spec_Proper.l0 k (pre ++ l) ((pre ++ l).length : Int) (pre.length : Int) = some (goodL l)
  | [], pre, _, _ => ⟨1, by rw [spec_Proper.l0]; simp [goodL]⟩
  | x :: xs, pre, h1, h2 => by
    rw [tsizeL] at h2
    rw [List.length_cons] at h1
    obtain ⟨k1, e1⟩ := proper_ex x (by omega)
    obtain ⟨k2, e2⟩ := properL_ex xs (pre ++ [x]) (by simp; omega) (by omega)
    have e1' := at_rounds (fun k => spec_Proper.mono x.f0 x.f1 x.f2 x.f3 x.f4 k) (Nat.le_max_left k1 k2) e1
    have e2' := at_rounds (fun k => (spec_Proper.mono_l k).2.2 _ _ _) (Nat.le_max_right k1 k2) e2
    refine ⟨max k1 k2 + 1, ?_⟩
    rw [spec_Proper.l0, if_pos (by simp; omega), if_pos (by omega), if_pos (by simp; omega), rd_mid, e1']
    show (if good x = true then spec_Proper.l0 _ _ _ (wrap64 ((pre.length : Int) + 1)) else some false) = some (goodL (x :: xs))
    have ew : wrap64 ((pre.length : Int) + 1) = (((pre ++ [x]).length : Nat) : Int) := by
      unfold wrap64
      simp
      omega
    rw [ew, goodL]
    by_cases hg : good x = true
    · rw [if_pos hg, hg, Bool.true_and]
      simpa using e2'
    · rw [if_neg hg]
      simp [hg]
end

end Go.Proofs.YtejbpbdlolehnaaDoor.Tree
namespace Go.Proofs.YtejbpbdlolehnaaDoor.PFnEncode
open Go.RowKit Go.Proofs.YtejbpbdlolehnaaDoorW.PrintWords Go.Proofs.YtejbpbdlolehnaaDoorW.PrintLast Go.Proofs.YtejbpbdlolehnaaDoorW.PrintMore
attribute [local go_sem] max2_int min2_int max_two min_two max_three min_three max_four min_four   -- for this text's walks alone
set_option linter.unusedVariables false
set_option linter.unusedSimpArgs false

/-! ### spec_Kept: function 9 -/
mutual
def spec_Kept.j0 : Nat → Bool → Int → Int → Bool → List Int → List (S29) → Option (Bool)
  | 0, _, _, _, _, _, _ => none
  | k + 1, x12, x121000, x121001, x121002, x121003, x121004 => if x12 = true then (if x121001 = 1 then (some ((x121003.length : Int) == 1)) else (if x121001 = 2 then (spec_Kept.j1 k x121001 (x121001 == 2) x121000 x121001 x121002 x121003 x121004) else (spec_Kept.j1 k x121001 (x121001 == 10) x121000 x121001 x121002 x121003 x121004))) else (if x121000 = 0 then (if x121001 = 16 then (spec_Kept.j2 k false x121000 x121001 x121002 x121003 x121004) else (spec_Kept.j2 k (x121001 != 17) x121000 x121001 x121002 x121003 x121004)) else (spec_Kept.j2 k false x121000 x121001 x121002 x121003 x121004))
def spec_Kept.j1 : Nat → Int → Bool → Int → Int → Bool → List Int → List (S29) → Option (Bool)
  | 0, _, _, _, _, _, _, _ => none
  | k + 1, x14, x21, x121000, x121001, x121002, x121003, x121004 => if x21 = true then (if (x121003.length : Int) ≥ 1 then (some (decide ((x121003.length : Int) ≤ 8))) else (some false)) else (if x14 = 4 then (some true) else (if x14 = 5 then (some ((x121003.length : Int) == 0)) else (some false)))
def spec_Kept.j2 : Nat → Bool → Int → Int → Bool → List Int → List (S29) → Option (Bool)
  | 0, _, _, _, _, _, _ => none
  | k + 1, x54, x121000, x121001, x121002, x121003, x121004 => if x54 = true then (some false) else (spec_Kept.l0 k x121004 (x121004.length : Int) 0)
def spec_Kept.l0 : Nat → List (S29) → Int → Int → Option (Bool)
  | 0, _, _, _ => none
  | k + 1, x56, x57, x58 => if x58 < x57 then (if 0 ≤ x58 then (if x58 < (x56.length : Int) then ((spec_Kept.f k ((rd_T29 x56 x58).f0) ((rd_T29 x56 x58).f1) ((rd_T29 x56 x58).f2) ((rd_T29 x56 x58).f3) ((rd_T29 x56 x58).f4)).bind fun t123 => (if t123 = true then (spec_Kept.l0 k x56 x57 (wrap64 (x58 + 1))) else (some false))) else (none)) else (none)) else (some true)
def spec_Kept.f : Nat → Int → Int → Bool → List Int → List (S29) → Option (Bool)
  | 0, _, _, _, _, _ => none
  | k + 1, a0_0, a0_1, a0_2, l0_3, l0_4 => if a0_0 = 0 then (spec_Kept.j0 k (!a0_2) a0_0 a0_1 a0_2 l0_3 l0_4) else (spec_Kept.j0 k false a0_0 a0_1 a0_2 l0_3 l0_4)
end
theorem spec_Kept.mono_l : ∀ k, (∀ y0 y1 y2 y3 y4, LeO (spec_Kept.f k y0 y1 y2 y3 y4) (spec_Kept.f (k + 1) y0 y1 y2 y3 y4)) ∧ (∀ y0 y1 y2 y3 y4 y5, LeO (spec_Kept.j0 k y0 y1 y2 y3 y4 y5) (spec_Kept.j0 (k + 1) y0 y1 y2 y3 y4 y5)) ∧ (∀ y0 y1 y2 y3 y4 y5 y6, LeO (spec_Kept.j1 k y0 y1 y2 y3 y4 y5 y6) (spec_Kept.j1 (k + 1) y0 y1 y2 y3 y4 y5 y6)) ∧ (∀ y0 y1 y2 y3 y4 y5, LeO (spec_Kept.j2 k y0 y1 y2 y3 y4 y5) (spec_Kept.j2 (k + 1) y0 y1 y2 y3 y4 y5)) ∧ (∀ y0 y1 y2, LeO (spec_Kept.l0 k y0 y1 y2) (spec_Kept.l0 (k + 1) y0 y1 y2))
  | 0 => ⟨fun _ _ _ _ _ r h => by simp [spec_Kept.f] at h, fun _ _ _ _ _ _ r h => by simp [spec_Kept.j0] at h, fun _ _ _ _ _ _ _ r h => by simp [spec_Kept.j1] at h, fun _ _ _ _ _ _ r h => by simp [spec_Kept.j2] at h, fun _ _ _ r h => by simp [spec_Kept.l0] at h⟩
  | k + 1 => by
    obtain ⟨ih0, ih1, ih2, ih3, ih4⟩ := spec_Kept.mono_l k
    refine ⟨?_, ?_, ?_, ?_, ?_⟩
    · intro y0 y1 y2 y3 y4
      unfold spec_Kept.f
      repeat' first
      | (with_reducible exact ih0 _ _ _ _ _)
      | (with_reducible exact ih1 _ _ _ _ _ _)
      | (with_reducible exact ih2 _ _ _ _ _ _ _)
      | (with_reducible exact ih3 _ _ _ _ _ _)
      | (with_reducible exact ih4 _ _ _)
      | (with_reducible exact LeO.refl _)
      | (with_reducible exact LeO.none _)
      | (with_reducible refine LeO.ite ?_ ?_)
      | (with_reducible refine LeO.bind ?_ (fun _ => ?_))
      | exact ih0 _ _ _ _ _
      | exact ih1 _ _ _ _ _ _
      | exact ih2 _ _ _ _ _ _ _
      | exact ih3 _ _ _ _ _ _
      | exact ih4 _ _ _
      | exact LeO.none _
      | refine LeO.ite ?_ ?_
      | refine LeO.bind ?_ (fun _ => ?_)
    · intro y0 y1 y2 y3 y4 y5
      unfold spec_Kept.j0
      repeat' first
      | (with_reducible exact ih0 _ _ _ _ _)
      | (with_reducible exact ih1 _ _ _ _ _ _)
      | (with_reducible exact ih2 _ _ _ _ _ _ _)
      | (with_reducible exact ih3 _ _ _ _ _ _)
      | (with_reducible exact ih4 _ _ _)
      | (with_reducible exact LeO.refl _)
      | (with_reducible exact LeO.none _)
      | (with_reducible refine LeO.ite ?_ ?_)
      | (with_reducible refine LeO.bind ?_ (fun _ => ?_))
      | exact ih0 _ _ _ _ _
      | exact ih1 _ _ _ _ _ _
      | exact ih2 _ _ _ _ _ _ _
      | exact ih3 _ _ _ _ _ _
      | exact ih4 _ _ _
      | exact LeO.none _
      | refine LeO.ite ?_ ?_
      | refine LeO.bind ?_ (fun _ => ?_)
    · intro y0 y1 y2 y3 y4 y5 y6
      unfold spec_Kept.j1
      repeat' first
      | (with_reducible exact ih0 _ _ _ _ _)
      | (with_reducible exact ih1 _ _ _ _ _ _)
      | (with_reducible exact ih2 _ _ _ _ _ _ _)
      | (with_reducible exact ih3 _ _ _ _ _ _)
      | (with_reducible exact ih4 _ _ _)
      | (with_reducible exact LeO.refl _)
      | (with_reducible exact LeO.none _)
      | (with_reducible refine LeO.ite ?_ ?_)
      | (with_reducible refine LeO.bind ?_ (fun _ => ?_))
      | exact ih0 _ _ _ _ _
      | exact ih1 _ _ _ _ _ _
      | exact ih2 _ _ _ _ _ _ _
      | exact ih3 _ _ _ _ _ _
      | exact ih4 _ _ _
      | exact LeO.none _
      | refine LeO.ite ?_ ?_
      | refine LeO.bind ?_ (fun _ => ?_)
    · intro y0 y1 y2 y3 y4 y5
      unfold spec_Kept.j2
      repeat' first
      | (with_reducible exact ih0 _ _ _ _ _)
      | (with_reducible exact ih1 _ _ _ _ _ _)
      | (with_reducible exact ih2 _ _ _ _ _ _ _)
      | (with_reducible exact ih3 _ _ _ _ _ _)
      | (with_reducible exact ih4 _ _ _)
      | (with_reducible exact LeO.refl _)
      | (with_reducible exact LeO.none _)
      | (with_reducible refine LeO.ite ?_ ?_)
      | (with_reducible refine LeO.bind ?_ (fun _ => ?_))
      | exact ih0 _ _ _ _ _
      | exact ih1 _ _ _ _ _ _
      | exact ih2 _ _ _ _ _ _ _
      | exact ih3 _ _ _ _ _ _
      | exact ih4 _ _ _
      | exact LeO.none _
      | refine LeO.ite ?_ ?_
      | refine LeO.bind ?_ (fun _ => ?_)
    · intro y0 y1 y2
      unfold spec_Kept.l0
      repeat' first
      | (with_reducible exact ih0 _ _ _ _ _)
      | (with_reducible exact ih1 _ _ _ _ _ _)
      | (with_reducible exact ih2 _ _ _ _ _ _ _)
      | (with_reducible exact ih3 _ _ _ _ _ _)
      | (with_reducible exact ih4 _ _ _)
      | (with_reducible exact LeO.refl _)
      | (with_reducible exact LeO.none _)
      | (with_reducible refine LeO.ite ?_ ?_)
      | (with_reducible refine LeO.bind ?_ (fun _ => ?_))
      | exact ih0 _ _ _ _ _
      | exact ih1 _ _ _ _ _ _
      | exact ih2 _ _ _ _ _ _ _
      | exact ih3 _ _ _ _ _ _
      | exact ih4 _ _ _
      | exact LeO.none _
      | refine LeO.ite ?_ ?_
      | refine LeO.bind ?_ (fun _ => ?_)
set_option maxHeartbeats 8000000 in
set_option maxRecDepth 100000 in
theorem spec_Kept.calls (k : Nat) : ∀ (a0_0 : Int) (a0_1 : Int) (a0_2 : Bool) (A0_3 : Option Addr) (c0_3 : Nat) (l0_3 : List Int) (A0_4 : Option Addr) (c0_4 : Nat) (l0_4 : List (S29)) (r : Bool) (w : World) (hr0_3 : Kd.C (Kd.int .u8) w A0_3 l0_3.length l0_3) (hc0_3 : l0_3.length ≤ c0_3) (hr0_4 : Kd.C k29 w A0_4 l0_4.length l0_4) (hc0_4 : l0_4.length ≤ c0_4) (h : spec_Kept.f k a0_0 a0_1 a0_2 l0_3 l0_4 = some r),
    Calls Tryd.prog 9 #[.agg #[.int .i64 a0_0, .int .i64 a0_1, .bool a0_2, .slice A0_3 l0_3.length c0_3, .slice A0_4 l0_4.length c0_4]] w fun e w' => e = .returned (.bool r) ∧ Below w.heap.size w w' := by
  induction k using Nat.strongRecOn with
  | _ k ih =>
  intro a0_0 a0_1 a0_2 A0_3 c0_3 l0_3 A0_4 c0_4 l0_4 r w hr0_3 hc0_3 hr0_4 hc0_4 h
  cases k with
  | zero => exact absurd h (by simp [spec_Kept.f])
  | succ k =>
  simp only [spec_Kept.f] at h
  have hu29 := Tryd.underlying29
  have HR0_3 := Aside0.mk hr0_3
  have HC0_3 := Aside0.mk hc0_3
  clear hr0_3 hc0_3
  have HR0_4 := Aside0.mk hr0_4
  have HC0_4 := Aside0.mk hc0_4
  clear hr0_4 hc0_4
  have HB := Aside0.mk (Below.refl w.heap.size w)
  have H : (if a0_0 = 0 then (spec_Kept.j0 k (!a0_2) a0_0 a0_1 a0_2 l0_3 l0_4) else (spec_Kept.j0 k false a0_0 a0_1 a0_2 l0_3 l0_4)) = some r := h
  clear h
  have HC2 := Aside0.mk H
  clear H
  go_enter Tryd.func9, Tryd.ntmps9
  go_upto_region 1 with (first | ((with_reducible refine gate_dst (N := 1) rfl ?_); (try (refine gate_guard (by rfl) ?_; dsimp only)); refine box_event ?hg (N := 1) ?hd (cs := #[.int .i64 a0_0, .int .i64 a0_1, .bool a0_2, .slice A0_3 l0_3.length c0_3, .slice A0_4 l0_4.length c0_4]) (t := 29) ?hr ?_; (case hd => rfl); (case hg => rfl); (case hr => first | (go_simp; done) | (go_simp; rfl)); intro gb120 hg w3 hbox hb; have n0_ := Aside0.mk (below_step (by repeat (first | (with_reducible first | exact HB.out | apply below_alloc | apply pw_below_drewN | apply below_drew1) | exact HB.out)) hb); have n1_ := Aside0.mk (hbox); have n2_ := Aside0.mk ((by rw [hg]; exact (below_size (by repeat (first | (with_reducible first | exact HB.out | apply below_alloc | apply pw_below_drewN | apply below_drew1) | exact HB.out))) : w.heap.size ≤ gb120)); have n3_ := Aside0.mk ((by rw [hg]; exact (below_size (by repeat (first | (with_reducible first | exact HB.out | apply below_alloc | apply pw_below_drewN | apply below_drew1) | exact HB.out))) : w.heap.size ≤ gb120)); clear HB; have HB := n0_; have BK120 := n1_; have GW120 := n2_; have GE120 := n3_; clear n0_ n1_ n2_ n3_; clear hb hbox hg))
  (try simp only [Act.put, List.setIfInBounds_toArray, List.set_cons_zero, List.set_cons_succ])
  go_cut [12] (fun v12 wc => ∃ (kq : Nat) (x12_1 : Bool), v12 = .bool x12_1 ∧ Aside0 (spec_Kept.j0 kq x12_1 a0_0 a0_1 a0_2 l0_3 l0_4 = some r) ∧ Aside0 (kq ≤ k) ∧ Aside0 (wc.heap[gb120]? = some (.cells #[.int .i64 a0_0, .int .i64 a0_1, .bool a0_2, (.slice A0_3 l0_3.length c0_3), (.slice A0_4 l0_4.length c0_4)] 29 (0, 0))) ∧ Aside0 (Below w.heap.size w wc))
  case first =>
    have H := HC2.out
    clear HC2
    by_cases c4 : a0_0 = 0
    · rw [if_pos c4] at H
      have c4b0 : (a0_0 == 0) = true := beq_iff_eq.mpr c4
      have c4b1 : (a0_0 != 0) = false := bne_eq_false_iff_eq.mpr c4
      clear c4
      (first | rw [c4b0] | (simp only [i64_w, i32_w]; rw [c4b0]) | skip)
      have H' := Aside0.mk H
      clear H
      have hcz5_0 : w3.cell? ⟨gb120, 0, none⟩ = some (.int .i64 a0_0) := (blk_cell BK120.out 0).trans rfl
      have hcz5_1 : w3.cell? ⟨gb120, 1, none⟩ = some (.int .i64 a0_1) := (blk_cell BK120.out 1).trans rfl
      have hcz5_2 : w3.cell? ⟨gb120, 2, none⟩ = some (.bool a0_2) := (blk_cell BK120.out 2).trans rfl
      have hcz5_3 : w3.cell? ⟨gb120, 3, none⟩ = some (.slice A0_3 l0_3.length c0_3) := (blk_cell BK120.out 3).trans rfl
      have hcz5_4 : w3.cell? ⟨gb120, 4, none⟩ = some (.slice A0_4 l0_4.length c0_4) := (blk_cell BK120.out 4).trans rfl
      have hfz5_0 := blk_frozen BK120.out 0
      have hfz5_1 := blk_frozen BK120.out 1
      have hfz5_2 := blk_frozen BK120.out 2
      have hfz5_3 := blk_frozen BK120.out 3
      have hfz5_4 := blk_frozen BK120.out 4
      go_wp2
      go_meet
      case rel => exact ⟨_, (!a0_2), (by first | rfl | (simp; done) | (simp [*]; done)), H', ⟨by first | omega | exact Nat.le_refl _⟩, ⟨by (with_reducible repeat (first | refine blk_drewN ?_ _ | refine blk_drew ?_ | refine blk_alloc ?_ _)); exact BK120.out⟩, ⟨by repeat (first | (with_reducible first | exact HB.out | apply below_alloc | apply pw_below_drewN | apply below_drew1 | refine below_set ?_ GE120.out) | exact HB.out)⟩⟩
    · rw [if_neg c4] at H
      have c4b0 : (a0_0 == 0) = false := beq_eq_false_iff_ne.mpr c4
      have c4b1 : (a0_0 != 0) = true := bne_iff_ne.mpr c4
      (first | rw [c4b0] | (simp only [i64_w, i32_w]; rw [c4b0]) | skip)
      have H' := Aside0.mk H
      clear H
      have hcz6_0 : w3.cell? ⟨gb120, 0, none⟩ = some (.int .i64 a0_0) := (blk_cell BK120.out 0).trans rfl
      have hcz6_1 : w3.cell? ⟨gb120, 1, none⟩ = some (.int .i64 a0_1) := (blk_cell BK120.out 1).trans rfl
      have hcz6_2 : w3.cell? ⟨gb120, 2, none⟩ = some (.bool a0_2) := (blk_cell BK120.out 2).trans rfl
      have hcz6_3 : w3.cell? ⟨gb120, 3, none⟩ = some (.slice A0_3 l0_3.length c0_3) := (blk_cell BK120.out 3).trans rfl
      have hcz6_4 : w3.cell? ⟨gb120, 4, none⟩ = some (.slice A0_4 l0_4.length c0_4) := (blk_cell BK120.out 4).trans rfl
      have hfz6_0 := blk_frozen BK120.out 0
      have hfz6_1 := blk_frozen BK120.out 1
      have hfz6_2 := blk_frozen BK120.out 2
      have hfz6_3 := blk_frozen BK120.out 3
      have hfz6_4 := blk_frozen BK120.out 4
      go_wp2
      go_meet
      case rel => exact ⟨_, (false), (by first | rfl | (simp; done) | (simp [*]; done)), H', ⟨by first | omega | exact Nat.le_refl _⟩, ⟨by (with_reducible repeat (first | refine blk_drewN ?_ _ | refine blk_drew ?_ | refine blk_alloc ?_ _)); exact BK120.out⟩, ⟨by repeat (first | (with_reducible first | exact HB.out | apply below_alloc | apply pw_below_drewN | apply below_drew1 | refine below_set ?_ GE120.out) | exact HB.out)⟩⟩
  case rest =>
    clear HC2
    try clear p2
    try clear c4
    try clear c4b0
    try clear c4b1
    try clear hcz5_0
    try clear hcz5_1
    try clear hcz5_2
    try clear hcz5_3
    try clear hcz5_4
    try clear hcz6_0
    try clear hcz6_1
    try clear hcz6_2
    try clear hcz6_3
    try clear hcz6_4
    try clear hfz5_0
    try clear hfz5_1
    try clear hfz5_2
    try clear hfz5_3
    try clear hfz5_4
    try clear hfz6_0
    try clear hfz6_1
    try clear hfz6_2
    try clear hfz6_3
    try clear hfz6_4
    obtain ⟨kq, x12_1, rfl, HA, HJ1, BK120, HB⟩ := hcut
    cases kq with
    | zero => exact absurd HA.out (by simp [spec_Kept.j0])
    | succ kj1 =>
      have H := HA.out
      clear HA
      simp only [spec_Kept.j0] at H
      by_cases c7 : x12_1 = true
      · subst c7
        have H1 : (if a0_1 = 1 then (some ((l0_3.length : Int) == 1)) else (if a0_1 = 2 then (spec_Kept.j1 kj1 a0_1 (a0_1 == 2) a0_0 a0_1 a0_2 l0_3 l0_4) else (spec_Kept.j1 kj1 a0_1 (a0_1 == 10) a0_0 a0_1 a0_2 l0_3 l0_4))) = some r := by rw [if_pos rfl] at H; exact H
        clear H
        have H := H1
        clear H1
        by_cases c8 : a0_1 = 1
        · rw [if_pos c8] at H
          have c8b0 : (a0_1 == 1) = true := beq_iff_eq.mpr c8
          have c8b1 : (a0_1 != 1) = false := bne_eq_false_iff_eq.mpr c8
          clear c8
          obtain rfl := Option.some.inj H
          have hcz9_0 : wc.cell? ⟨gb120, 0, none⟩ = some (.int .i64 a0_0) := (blk_cell BK120.out 0).trans rfl
          have hcz9_1 : wc.cell? ⟨gb120, 1, none⟩ = some (.int .i64 a0_1) := (blk_cell BK120.out 1).trans rfl
          have hcz9_2 : wc.cell? ⟨gb120, 2, none⟩ = some (.bool a0_2) := (blk_cell BK120.out 2).trans rfl
          have hcz9_3 : wc.cell? ⟨gb120, 3, none⟩ = some (.slice A0_3 l0_3.length c0_3) := (blk_cell BK120.out 3).trans rfl
          have hcz9_4 : wc.cell? ⟨gb120, 4, none⟩ = some (.slice A0_4 l0_4.length c0_4) := (blk_cell BK120.out 4).trans rfl
          have hfz9_0 := blk_frozen BK120.out 0
          have hfz9_1 := blk_frozen BK120.out 1
          have hfz9_2 := blk_frozen BK120.out 2
          have hfz9_3 := blk_frozen BK120.out 3
          have hfz9_4 := blk_frozen BK120.out 4
          go_wp2
          go_ret
          exact ⟨by first | rfl | (simp [errW_none, errW_some] <;> rfl) | (simp [*, errW_none, errW_some] <;> rfl), by repeat (first | (with_reducible first | exact HB.out | apply below_alloc | apply pw_below_drewN | apply below_drew1 | refine below_set ?_ GE120.out) | exact HB.out)⟩
        · rw [if_neg c8] at H
          have c8b0 : (a0_1 == 1) = false := beq_eq_false_iff_ne.mpr c8
          have c8b1 : (a0_1 != 1) = true := bne_iff_ne.mpr c8
          have HC10 := Aside0.mk H
          clear H
          have hcz11_0 : wc.cell? ⟨gb120, 0, none⟩ = some (.int .i64 a0_0) := (blk_cell BK120.out 0).trans rfl
          have hcz11_1 : wc.cell? ⟨gb120, 1, none⟩ = some (.int .i64 a0_1) := (blk_cell BK120.out 1).trans rfl
          have hcz11_2 : wc.cell? ⟨gb120, 2, none⟩ = some (.bool a0_2) := (blk_cell BK120.out 2).trans rfl
          have hcz11_3 : wc.cell? ⟨gb120, 3, none⟩ = some (.slice A0_3 l0_3.length c0_3) := (blk_cell BK120.out 3).trans rfl
          have hcz11_4 : wc.cell? ⟨gb120, 4, none⟩ = some (.slice A0_4 l0_4.length c0_4) := (blk_cell BK120.out 4).trans rfl
          have hfz11_0 := blk_frozen BK120.out 0
          have hfz11_1 := blk_frozen BK120.out 1
          have hfz11_2 := blk_frozen BK120.out 2
          have hfz11_3 := blk_frozen BK120.out 3
          have hfz11_4 := blk_frozen BK120.out 4
          go_upto_if 21 with (fail)
          go_cut [21] (fun v21 wc => ∃ (kq : Nat) (x21_9 : Bool), v21 = .bool x21_9 ∧ Aside0 (spec_Kept.j1 kq a0_1 x21_9 a0_0 a0_1 a0_2 l0_3 l0_4 = some r) ∧ Aside0 (kq ≤ kj1) ∧ Aside0 (wc.heap[gb120]? = some (.cells #[.int .i64 a0_0, .int .i64 a0_1, .bool a0_2, (.slice A0_3 l0_3.length c0_3), (.slice A0_4 l0_4.length c0_4)] 29 (0, 0))) ∧ Aside0 (Below w.heap.size w wc))
          case first =>
            have H := HC10.out
            clear HC10
            by_cases c12 : a0_1 = 2
            · rw [if_pos c12] at H
              have c12b0 : (a0_1 == 2) = true := beq_iff_eq.mpr c12
              have c12b1 : (a0_1 != 2) = false := bne_eq_false_iff_eq.mpr c12
              clear c12
              (first | rw [c12b0] | (simp only [i64_w, i32_w]; rw [c12b0]) | skip)
              have H' := Aside0.mk H
              clear H
              go_wp2
              go_meet
              case rel => exact ⟨_, ((a0_1 == 2)), (by first | rfl | (simp; done) | (simp [*]; done)), H', ⟨by have := HJ1.out; first | omega | exact Nat.le_refl _⟩, ⟨by (with_reducible repeat (first | refine blk_drewN ?_ _ | refine blk_drew ?_ | refine blk_alloc ?_ _)); exact BK120.out⟩, ⟨by repeat (first | (with_reducible first | exact HB.out | apply below_alloc | apply pw_below_drewN | apply below_drew1 | refine below_set ?_ GE120.out) | exact HB.out)⟩⟩
            · rw [if_neg c12] at H
              have c12b0 : (a0_1 == 2) = false := beq_eq_false_iff_ne.mpr c12
              have c12b1 : (a0_1 != 2) = true := bne_iff_ne.mpr c12
              (first | rw [c12b0] | (simp only [i64_w, i32_w]; rw [c12b0]) | skip)
              have H' := Aside0.mk H
              clear H
              go_wp2
              go_meet
              case rel => exact ⟨_, ((a0_1 == 10)), (by first | rfl | (simp; done) | (simp [*]; done)), H', ⟨by have := HJ1.out; first | omega | exact Nat.le_refl _⟩, ⟨by (with_reducible repeat (first | refine blk_drewN ?_ _ | refine blk_drew ?_ | refine blk_alloc ?_ _)); exact BK120.out⟩, ⟨by repeat (first | (with_reducible first | exact HB.out | apply below_alloc | apply pw_below_drewN | apply below_drew1 | refine below_set ?_ GE120.out) | exact HB.out)⟩⟩
          case rest =>
            clear HC10
            try clear c1
            try clear p2
            try clear c4
            try clear c4b0
            try clear c4b1
            try clear c7
            try clear c8
            try clear c8b0
            try clear c8b1
            try clear c9
            try clear c12
            try clear c12b0
            try clear c12b1
            try clear hcz11_0
            try clear hcz11_1
            try clear hcz11_2
            try clear hcz11_3
            try clear hcz11_4
            try clear hcz5_0
            try clear hcz5_1
            try clear hcz5_2
            try clear hcz5_3
            try clear hcz5_4
            try clear hcz6_0
            try clear hcz6_1
            try clear hcz6_2
            try clear hcz6_3
            try clear hcz6_4
            try clear hcz9_0
            try clear hcz9_1
            try clear hcz9_2
            try clear hcz9_3
            try clear hcz9_4
            try clear hfz11_0
            try clear hfz11_1
            try clear hfz11_2
            try clear hfz11_3
            try clear hfz11_4
            try clear hfz5_0
            try clear hfz5_1
            try clear hfz5_2
            try clear hfz5_3
            try clear hfz5_4
            try clear hfz6_0
            try clear hfz6_1
            try clear hfz6_2
            try clear hfz6_3
            try clear hfz6_4
            try clear hfz9_0
            try clear hfz9_1
            try clear hfz9_2
            try clear hfz9_3
            try clear hfz9_4
            try clear p2
            obtain ⟨kq, x21_9, rfl, HA, HJ9, BK120, HB⟩ := hcut
            cases kq with
            | zero => exact absurd HA.out (by simp [spec_Kept.j1])
            | succ kj9 =>
              have H := HA.out
              clear HA
              simp only [spec_Kept.j1] at H
              by_cases c13 : x21_9 = true
              · subst c13
                have H1 : (if (l0_3.length : Int) ≥ 1 then (some (decide ((l0_3.length : Int) ≤ 8))) else (some false)) = some r := by rw [if_pos rfl] at H; exact H
                clear H
                have H := H1
                clear H1
                by_cases c14 : (l0_3.length : Int) ≥ 1
                · rw [if_pos c14] at H
                  have c14b0 : decide (1 ≤ (l0_3.length : Int)) = true := decide_eq_true c14
                  have c14b1 : decide (1 ≤ l0_3.length) = true := decide_eq_true (by omega)
                  clear c14
                  obtain rfl := Option.some.inj H
                  have hcz15_0 : wc.cell? ⟨gb120, 0, none⟩ = some (.int .i64 a0_0) := (blk_cell BK120.out 0).trans rfl
                  have hcz15_1 : wc.cell? ⟨gb120, 1, none⟩ = some (.int .i64 a0_1) := (blk_cell BK120.out 1).trans rfl
                  have hcz15_2 : wc.cell? ⟨gb120, 2, none⟩ = some (.bool a0_2) := (blk_cell BK120.out 2).trans rfl
                  have hcz15_3 : wc.cell? ⟨gb120, 3, none⟩ = some (.slice A0_3 l0_3.length c0_3) := (blk_cell BK120.out 3).trans rfl
                  have hcz15_4 : wc.cell? ⟨gb120, 4, none⟩ = some (.slice A0_4 l0_4.length c0_4) := (blk_cell BK120.out 4).trans rfl
                  have hfz15_0 := blk_frozen BK120.out 0
                  have hfz15_1 := blk_frozen BK120.out 1
                  have hfz15_2 := blk_frozen BK120.out 2
                  have hfz15_3 := blk_frozen BK120.out 3
                  have hfz15_4 := blk_frozen BK120.out 4
                  go_wp2
                  go_ret
                  exact ⟨by first | rfl | (simp [errW_none, errW_some] <;> rfl) | (simp [*, errW_none, errW_some] <;> rfl), by repeat (first | (with_reducible first | exact HB.out | apply below_alloc | apply pw_below_drewN | apply below_drew1 | refine below_set ?_ GE120.out) | exact HB.out)⟩
                · rw [if_neg c14] at H
                  have c14b0 : decide (1 ≤ (l0_3.length : Int)) = false := decide_eq_false c14
                  have c14b1 : decide (1 ≤ l0_3.length) = false := decide_eq_false (by omega)
                  clear c14
                  obtain rfl := Option.some.inj H
                  have hcz16_0 : wc.cell? ⟨gb120, 0, none⟩ = some (.int .i64 a0_0) := (blk_cell BK120.out 0).trans rfl
                  have hcz16_1 : wc.cell? ⟨gb120, 1, none⟩ = some (.int .i64 a0_1) := (blk_cell BK120.out 1).trans rfl
                  have hcz16_2 : wc.cell? ⟨gb120, 2, none⟩ = some (.bool a0_2) := (blk_cell BK120.out 2).trans rfl
                  have hcz16_3 : wc.cell? ⟨gb120, 3, none⟩ = some (.slice A0_3 l0_3.length c0_3) := (blk_cell BK120.out 3).trans rfl
                  have hcz16_4 : wc.cell? ⟨gb120, 4, none⟩ = some (.slice A0_4 l0_4.length c0_4) := (blk_cell BK120.out 4).trans rfl
                  have hfz16_0 := blk_frozen BK120.out 0
                  have hfz16_1 := blk_frozen BK120.out 1
                  have hfz16_2 := blk_frozen BK120.out 2
                  have hfz16_3 := blk_frozen BK120.out 3
                  have hfz16_4 := blk_frozen BK120.out 4
                  go_wp2
                  go_ret
                  exact ⟨by first | rfl | (simp [errW_none, errW_some] <;> rfl) | (simp [*, errW_none, errW_some] <;> rfl), by repeat (first | (with_reducible first | exact HB.out | apply below_alloc | apply pw_below_drewN | apply below_drew1 | refine below_set ?_ GE120.out) | exact HB.out)⟩
              · replace c13 := Bool.eq_false_iff.mpr c13
                subst c13
                have H1 : (if a0_1 = 4 then (some true) else (if a0_1 = 5 then (some ((l0_3.length : Int) == 0)) else (some false))) = some r := by rw [if_neg (show ¬ (false = true) by decide)] at H; exact H
                clear H
                have H := H1
                clear H1
                by_cases c17 : a0_1 = 4
                · rw [if_pos c17] at H
                  have c17b0 : (a0_1 == 4) = true := beq_iff_eq.mpr c17
                  have c17b1 : (a0_1 != 4) = false := bne_eq_false_iff_eq.mpr c17
                  clear c17
                  obtain rfl := Option.some.inj H
                  go_wp2
                  go_ret
                  exact ⟨by first | rfl | (simp [errW_none, errW_some] <;> rfl) | (simp [*, errW_none, errW_some] <;> rfl), by repeat (first | (with_reducible first | exact HB.out | apply below_alloc | apply pw_below_drewN | apply below_drew1 | refine below_set ?_ GE120.out) | exact HB.out)⟩
                · rw [if_neg c17] at H
                  have c17b0 : (a0_1 == 4) = false := beq_eq_false_iff_ne.mpr c17
                  have c17b1 : (a0_1 != 4) = true := bne_iff_ne.mpr c17
                  by_cases c18 : a0_1 = 5
                  · rw [if_pos c18] at H
                    have c18b0 : (a0_1 == 5) = true := beq_iff_eq.mpr c18
                    have c18b1 : (a0_1 != 5) = false := bne_eq_false_iff_eq.mpr c18
                    clear c18
                    obtain rfl := Option.some.inj H
                    have hcz19_0 : wc.cell? ⟨gb120, 0, none⟩ = some (.int .i64 a0_0) := (blk_cell BK120.out 0).trans rfl
                    have hcz19_1 : wc.cell? ⟨gb120, 1, none⟩ = some (.int .i64 a0_1) := (blk_cell BK120.out 1).trans rfl
                    have hcz19_2 : wc.cell? ⟨gb120, 2, none⟩ = some (.bool a0_2) := (blk_cell BK120.out 2).trans rfl
                    have hcz19_3 : wc.cell? ⟨gb120, 3, none⟩ = some (.slice A0_3 l0_3.length c0_3) := (blk_cell BK120.out 3).trans rfl
                    have hcz19_4 : wc.cell? ⟨gb120, 4, none⟩ = some (.slice A0_4 l0_4.length c0_4) := (blk_cell BK120.out 4).trans rfl
                    have hfz19_0 := blk_frozen BK120.out 0
                    have hfz19_1 := blk_frozen BK120.out 1
                    have hfz19_2 := blk_frozen BK120.out 2
                    have hfz19_3 := blk_frozen BK120.out 3
                    have hfz19_4 := blk_frozen BK120.out 4
                    go_wp2
                    go_ret
                    exact ⟨by first | rfl | (simp [errW_none, errW_some] <;> rfl) | (simp [*, errW_none, errW_some] <;> rfl), by repeat (first | (with_reducible first | exact HB.out | apply below_alloc | apply pw_below_drewN | apply below_drew1 | refine below_set ?_ GE120.out) | exact HB.out)⟩
                  · rw [if_neg c18] at H
                    have c18b0 : (a0_1 == 5) = false := beq_eq_false_iff_ne.mpr c18
                    have c18b1 : (a0_1 != 5) = true := bne_iff_ne.mpr c18
                    obtain rfl := Option.some.inj H
                    go_wp2
                    go_ret
                    exact ⟨by first | rfl | (simp [errW_none, errW_some] <;> rfl) | (simp [*, errW_none, errW_some] <;> rfl), by repeat (first | (with_reducible first | exact HB.out | apply below_alloc | apply pw_below_drewN | apply below_drew1 | refine below_set ?_ GE120.out) | exact HB.out)⟩
      · replace c7 := Bool.eq_false_iff.mpr c7
        subst c7
        have H1 : (if a0_0 = 0 then (if a0_1 = 16 then (spec_Kept.j2 kj1 false a0_0 a0_1 a0_2 l0_3 l0_4) else (spec_Kept.j2 kj1 (a0_1 != 17) a0_0 a0_1 a0_2 l0_3 l0_4)) else (spec_Kept.j2 kj1 false a0_0 a0_1 a0_2 l0_3 l0_4)) = some r := by rw [if_neg (show ¬ (false = true) by decide)] at H; exact H
        clear H
        have H := H1
        clear H1
        have HC20 := Aside0.mk H
        clear H
        go_upto_region 13 with (fail)
        go_cut [54] (fun v54 wc => ∃ (kq : Nat) (x54_19 : Bool), v54 = .bool x54_19 ∧ Aside0 (spec_Kept.j2 kq x54_19 a0_0 a0_1 a0_2 l0_3 l0_4 = some r) ∧ Aside0 (kq ≤ kj1) ∧ Aside0 (wc.heap[gb120]? = some (.cells #[.int .i64 a0_0, .int .i64 a0_1, .bool a0_2, (.slice A0_3 l0_3.length c0_3), (.slice A0_4 l0_4.length c0_4)] 29 (0, 0))) ∧ Aside0 (Below w.heap.size w wc))
        case first =>
          have H := HC20.out
          clear HC20
          by_cases c21 : a0_0 = 0
          · rw [if_pos c21] at H
            have c21b0 : (a0_0 == 0) = true := beq_iff_eq.mpr c21
            have c21b1 : (a0_0 != 0) = false := bne_eq_false_iff_eq.mpr c21
            clear c21
            (first | rw [c21b0] | (simp only [i64_w, i32_w]; rw [c21b0]) | skip)
            by_cases c22 : a0_1 = 16
            · rw [if_pos c22] at H
              have c22b0 : (a0_1 == 16) = true := beq_iff_eq.mpr c22
              have c22b1 : (a0_1 != 16) = false := bne_eq_false_iff_eq.mpr c22
              clear c22
              have H' := Aside0.mk H
              clear H
              have hcz23_0 : wc.cell? ⟨gb120, 0, none⟩ = some (.int .i64 a0_0) := (blk_cell BK120.out 0).trans rfl
              have hcz23_1 : wc.cell? ⟨gb120, 1, none⟩ = some (.int .i64 a0_1) := (blk_cell BK120.out 1).trans rfl
              have hcz23_2 : wc.cell? ⟨gb120, 2, none⟩ = some (.bool a0_2) := (blk_cell BK120.out 2).trans rfl
              have hcz23_3 : wc.cell? ⟨gb120, 3, none⟩ = some (.slice A0_3 l0_3.length c0_3) := (blk_cell BK120.out 3).trans rfl
              have hcz23_4 : wc.cell? ⟨gb120, 4, none⟩ = some (.slice A0_4 l0_4.length c0_4) := (blk_cell BK120.out 4).trans rfl
              have hfz23_0 := blk_frozen BK120.out 0
              have hfz23_1 := blk_frozen BK120.out 1
              have hfz23_2 := blk_frozen BK120.out 2
              have hfz23_3 := blk_frozen BK120.out 3
              have hfz23_4 := blk_frozen BK120.out 4
              go_wp2
              go_meet
              case rel => exact ⟨_, (false), (by first | rfl | (simp; done) | (simp [*]; done)), H', ⟨by have := HJ1.out; first | omega | exact Nat.le_refl _⟩, ⟨by (with_reducible repeat (first | refine blk_drewN ?_ _ | refine blk_drew ?_ | refine blk_alloc ?_ _)); exact BK120.out⟩, ⟨by repeat (first | (with_reducible first | exact HB.out | apply below_alloc | apply pw_below_drewN | apply below_drew1 | refine below_set ?_ GE120.out) | exact HB.out)⟩⟩
            · rw [if_neg c22] at H
              have c22b0 : (a0_1 == 16) = false := beq_eq_false_iff_ne.mpr c22
              have c22b1 : (a0_1 != 16) = true := bne_iff_ne.mpr c22
              have H' := Aside0.mk H
              clear H
              have hcz24_0 : wc.cell? ⟨gb120, 0, none⟩ = some (.int .i64 a0_0) := (blk_cell BK120.out 0).trans rfl
              have hcz24_1 : wc.cell? ⟨gb120, 1, none⟩ = some (.int .i64 a0_1) := (blk_cell BK120.out 1).trans rfl
              have hcz24_2 : wc.cell? ⟨gb120, 2, none⟩ = some (.bool a0_2) := (blk_cell BK120.out 2).trans rfl
              have hcz24_3 : wc.cell? ⟨gb120, 3, none⟩ = some (.slice A0_3 l0_3.length c0_3) := (blk_cell BK120.out 3).trans rfl
              have hcz24_4 : wc.cell? ⟨gb120, 4, none⟩ = some (.slice A0_4 l0_4.length c0_4) := (blk_cell BK120.out 4).trans rfl
              have hfz24_0 := blk_frozen BK120.out 0
              have hfz24_1 := blk_frozen BK120.out 1
              have hfz24_2 := blk_frozen BK120.out 2
              have hfz24_3 := blk_frozen BK120.out 3
              have hfz24_4 := blk_frozen BK120.out 4
              go_wp2
              go_meet
              case rel => exact ⟨_, ((a0_1 != 17)), (by first | rfl | (simp; done) | (simp [*]; done)), H', ⟨by have := HJ1.out; first | omega | exact Nat.le_refl _⟩, ⟨by (with_reducible repeat (first | refine blk_drewN ?_ _ | refine blk_drew ?_ | refine blk_alloc ?_ _)); exact BK120.out⟩, ⟨by repeat (first | (with_reducible first | exact HB.out | apply below_alloc | apply pw_below_drewN | apply below_drew1 | refine below_set ?_ GE120.out) | exact HB.out)⟩⟩
          · rw [if_neg c21] at H
            have c21b0 : (a0_0 == 0) = false := beq_eq_false_iff_ne.mpr c21
            have c21b1 : (a0_0 != 0) = true := bne_iff_ne.mpr c21
            (first | rw [c21b0] | (simp only [i64_w, i32_w]; rw [c21b0]) | skip)
            have H' := Aside0.mk H
            clear H
            have hcz25_0 : wc.cell? ⟨gb120, 0, none⟩ = some (.int .i64 a0_0) := (blk_cell BK120.out 0).trans rfl
            have hcz25_1 : wc.cell? ⟨gb120, 1, none⟩ = some (.int .i64 a0_1) := (blk_cell BK120.out 1).trans rfl
            have hcz25_2 : wc.cell? ⟨gb120, 2, none⟩ = some (.bool a0_2) := (blk_cell BK120.out 2).trans rfl
            have hcz25_3 : wc.cell? ⟨gb120, 3, none⟩ = some (.slice A0_3 l0_3.length c0_3) := (blk_cell BK120.out 3).trans rfl
            have hcz25_4 : wc.cell? ⟨gb120, 4, none⟩ = some (.slice A0_4 l0_4.length c0_4) := (blk_cell BK120.out 4).trans rfl
            have hfz25_0 := blk_frozen BK120.out 0
            have hfz25_1 := blk_frozen BK120.out 1
            have hfz25_2 := blk_frozen BK120.out 2
            have hfz25_3 := blk_frozen BK120.out 3
            have hfz25_4 := blk_frozen BK120.out 4
            go_wp2
            go_meet
            case rel => exact ⟨_, (false), (by first | rfl | (simp; done) | (simp [*]; done)), H', ⟨by have := HJ1.out; first | omega | exact Nat.le_refl _⟩, ⟨by (with_reducible repeat (first | refine blk_drewN ?_ _ | refine blk_drew ?_ | refine blk_alloc ?_ _)); exact BK120.out⟩, ⟨by repeat (first | (with_reducible first | exact HB.out | apply below_alloc | apply pw_below_drewN | apply below_drew1 | refine below_set ?_ GE120.out) | exact HB.out)⟩⟩
        case rest =>
          clear HC20
          try clear c1
          try clear c2
          try clear p2
          try clear c4
          try clear c4b0
          try clear c4b1
          try clear c7
          try clear c8
          try clear c8b0
          try clear c8b1
          try clear c9
          try clear c12
          try clear c12b0
          try clear c12b1
          try clear c13
          try clear c14
          try clear c14b0
          try clear c14b1
          try clear c17
          try clear c17b0
          try clear c17b1
          try clear c18
          try clear c18b0
          try clear c18b1
          try clear c21
          try clear c21b0
          try clear c21b1
          try clear c22
          try clear c22b0
          try clear c22b1
          try clear hcz11_0
          try clear hcz11_1
          try clear hcz11_2
          try clear hcz11_3
          try clear hcz11_4
          try clear hcz15_0
          try clear hcz15_1
          try clear hcz15_2
          try clear hcz15_3
          try clear hcz15_4
          try clear hcz16_0
          try clear hcz16_1
          try clear hcz16_2
          try clear hcz16_3
          try clear hcz16_4
          try clear hcz19_0
          try clear hcz19_1
          try clear hcz19_2
          try clear hcz19_3
          try clear hcz19_4
          try clear hcz23_0
          try clear hcz23_1
          try clear hcz23_2
          try clear hcz23_3
          try clear hcz23_4
          try clear hcz24_0
          try clear hcz24_1
          try clear hcz24_2
          try clear hcz24_3
          try clear hcz24_4
          try clear hcz25_0
          try clear hcz25_1
          try clear hcz25_2
          try clear hcz25_3
          try clear hcz25_4
          try clear hcz5_0
          try clear hcz5_1
          try clear hcz5_2
          try clear hcz5_3
          try clear hcz5_4
          try clear hcz6_0
          try clear hcz6_1
          try clear hcz6_2
          try clear hcz6_3
          try clear hcz6_4
          try clear hcz9_0
          try clear hcz9_1
          try clear hcz9_2
          try clear hcz9_3
          try clear hcz9_4
          try clear hfz11_0
          try clear hfz11_1
          try clear hfz11_2
          try clear hfz11_3
          try clear hfz11_4
          try clear hfz15_0
          try clear hfz15_1
          try clear hfz15_2
          try clear hfz15_3
          try clear hfz15_4
          try clear hfz16_0
          try clear hfz16_1
          try clear hfz16_2
          try clear hfz16_3
          try clear hfz16_4
          try clear hfz19_0
          try clear hfz19_1
          try clear hfz19_2
          try clear hfz19_3
          try clear hfz19_4
          try clear hfz23_0
          try clear hfz23_1
          try clear hfz23_2
          try clear hfz23_3
          try clear hfz23_4
          try clear hfz24_0
          try clear hfz24_1
          try clear hfz24_2
          try clear hfz24_3
          try clear hfz24_4
          try clear hfz25_0
          try clear hfz25_1
          try clear hfz25_2
          try clear hfz25_3
          try clear hfz25_4
          try clear hfz5_0
          try clear hfz5_1
          try clear hfz5_2
          try clear hfz5_3
          try clear hfz5_4
          try clear hfz6_0
          try clear hfz6_1
          try clear hfz6_2
          try clear hfz6_3
          try clear hfz6_4
          try clear hfz9_0
          try clear hfz9_1
          try clear hfz9_2
          try clear hfz9_3
          try clear hfz9_4
          try clear p2
          obtain ⟨kq, x54_19, rfl, HA, HJ19, BK120, HB⟩ := hcut
          cases kq with
          | zero => exact absurd HA.out (by simp [spec_Kept.j2])
          | succ kj19 =>
            have H := HA.out
            clear HA
            simp only [spec_Kept.j2] at H
            by_cases c26 : x54_19 = true
            · subst c26
              have H1 : (some false) = some r := by rw [if_pos rfl] at H; exact H
              clear H
              have H := H1
              clear H1
              obtain rfl := Option.some.inj H
              go_wp2
              go_ret
              exact ⟨by first | rfl | (simp [errW_none, errW_some] <;> rfl) | (simp [*, errW_none, errW_some] <;> rfl), by repeat (first | (with_reducible first | exact HB.out | apply below_alloc | apply pw_below_drewN | apply below_drew1 | refine below_set ?_ GE120.out) | exact HB.out)⟩
            · replace c26 := Bool.eq_false_iff.mpr c26
              subst c26
              have H1 : (spec_Kept.l0 kj19 l0_4 (l0_4.length : Int) 0) = some r := by rw [if_neg (show ¬ (false = true) by decide)] at H; exact H
              clear H
              have H := H1
              clear H1
              have H' := Aside0.mk H
              clear H
              have hcz27_0 : wc.cell? ⟨gb120, 0, none⟩ = some (.int .i64 a0_0) := (blk_cell BK120.out 0).trans rfl
              have hcz27_1 : wc.cell? ⟨gb120, 1, none⟩ = some (.int .i64 a0_1) := (blk_cell BK120.out 1).trans rfl
              have hcz27_2 : wc.cell? ⟨gb120, 2, none⟩ = some (.bool a0_2) := (blk_cell BK120.out 2).trans rfl
              have hcz27_3 : wc.cell? ⟨gb120, 3, none⟩ = some (.slice A0_3 l0_3.length c0_3) := (blk_cell BK120.out 3).trans rfl
              have hcz27_4 : wc.cell? ⟨gb120, 4, none⟩ = some (.slice A0_4 l0_4.length c0_4) := (blk_cell BK120.out 4).trans rfl
              have hfz27_0 := blk_frozen BK120.out 0
              have hfz27_1 := blk_frozen BK120.out 1
              have hfz27_2 := blk_frozen BK120.out 2
              have hfz27_3 := blk_frozen BK120.out 3
              have hfz27_4 := blk_frozen BK120.out 4
              go_wp2
              go_loopg [58] kj19 (fun kq v58 w' => ∃ (x58_3 : Int), v58 = .int .i64 x58_3 ∧ Aside0 (spec_Kept.l0 kq l0_4 (l0_4.length : Int) x58_3 = some r) ∧ Aside0 (kq ≤ kj19) ∧ Aside0 (w'.heap[gb120]? = some (.cells #[.int .i64 a0_0, .int .i64 a0_1, .bool a0_2, (.slice A0_3 l0_3.length c0_3), (.slice A0_4 l0_4.length c0_4)] 29 (0, 0))) ∧ Aside0 (Below w.heap.size w w'))
              case atStart => exact ⟨(0), (by first | rfl | (simp; done) | (simp [*]; done)), H', ⟨Nat.le_refl _⟩, ⟨by (with_reducible repeat (first | refine blk_drewN ?_ _ | refine blk_drew ?_ | refine blk_alloc ?_ _)); exact BK120.out⟩, ⟨by repeat (first | (with_reducible first | exact HB.out | apply below_alloc | apply pw_below_drewN | apply below_drew1 | refine below_set ?_ GE120.out) | exact HB.out)⟩⟩
              case round =>
                clear H'
                try clear c1
                try clear c2
                try clear p2
                try clear c4
                try clear c4b0
                try clear c4b1
                try clear c7
                try clear c8
                try clear c8b0
                try clear c8b1
                try clear c9
                try clear c12
                try clear c12b0
                try clear c12b1
                try clear c13
                try clear c14
                try clear c14b0
                try clear c14b1
                try clear c17
                try clear c17b0
                try clear c17b1
                try clear c18
                try clear c18b0
                try clear c18b1
                try clear c21
                try clear c21b0
                try clear c21b1
                try clear c22
                try clear c22b0
                try clear c22b1
                try clear c26
                try clear hcz11_0
                try clear hcz11_1
                try clear hcz11_2
                try clear hcz11_3
                try clear hcz11_4
                try clear hcz15_0
                try clear hcz15_1
                try clear hcz15_2
                try clear hcz15_3
                try clear hcz15_4
                try clear hcz16_0
                try clear hcz16_1
                try clear hcz16_2
                try clear hcz16_3
                try clear hcz16_4
                try clear hcz19_0
                try clear hcz19_1
                try clear hcz19_2
                try clear hcz19_3
                try clear hcz19_4
                try clear hcz23_0
                try clear hcz23_1
                try clear hcz23_2
                try clear hcz23_3
                try clear hcz23_4
                try clear hcz24_0
                try clear hcz24_1
                try clear hcz24_2
                try clear hcz24_3
                try clear hcz24_4
                try clear hcz25_0
                try clear hcz25_1
                try clear hcz25_2
                try clear hcz25_3
                try clear hcz25_4
                try clear hcz27_0
                try clear hcz27_1
                try clear hcz27_2
                try clear hcz27_3
                try clear hcz27_4
                try clear hcz5_0
                try clear hcz5_1
                try clear hcz5_2
                try clear hcz5_3
                try clear hcz5_4
                try clear hcz6_0
                try clear hcz6_1
                try clear hcz6_2
                try clear hcz6_3
                try clear hcz6_4
                try clear hcz9_0
                try clear hcz9_1
                try clear hcz9_2
                try clear hcz9_3
                try clear hcz9_4
                try clear hfz11_0
                try clear hfz11_1
                try clear hfz11_2
                try clear hfz11_3
                try clear hfz11_4
                try clear hfz15_0
                try clear hfz15_1
                try clear hfz15_2
                try clear hfz15_3
                try clear hfz15_4
                try clear hfz16_0
                try clear hfz16_1
                try clear hfz16_2
                try clear hfz16_3
                try clear hfz16_4
                try clear hfz19_0
                try clear hfz19_1
                try clear hfz19_2
                try clear hfz19_3
                try clear hfz19_4
                try clear hfz23_0
                try clear hfz23_1
                try clear hfz23_2
                try clear hfz23_3
                try clear hfz23_4
                try clear hfz24_0
                try clear hfz24_1
                try clear hfz24_2
                try clear hfz24_3
                try clear hfz24_4
                try clear hfz25_0
                try clear hfz25_1
                try clear hfz25_2
                try clear hfz25_3
                try clear hfz25_4
                try clear hfz27_0
                try clear hfz27_1
                try clear hfz27_2
                try clear hfz27_3
                try clear hfz27_4
                try clear hfz5_0
                try clear hfz5_1
                try clear hfz5_2
                try clear hfz5_3
                try clear hfz5_4
                try clear hfz6_0
                try clear hfz6_1
                try clear hfz6_2
                try clear hfz6_3
                try clear hfz6_4
                try clear hfz9_0
                try clear hfz9_1
                try clear hfz9_2
                try clear hfz9_3
                try clear hfz9_4
                try clear p2
                obtain ⟨x58_3, rfl, HA, HK3, BK120, HB⟩ := hrel
                cases gk with
                | zero => exact absurd HA.out (by simp [spec_Kept.l0])
                | succ k3 =>
                  have H := HA.out
                  clear HA
                  simp only [spec_Kept.l0] at H
                  by_cases c28 : x58_3 < (l0_4.length : Int)
                  · rw [if_pos c28] at H
                    have c28b0 : decide (x58_3 < (l0_4.length : Int)) = true := decide_eq_true c28
                    clear c28
                    by_cases c29 : 0 ≤ x58_3
                    · rw [if_pos c29] at H
                      have c29b0 : decide (0 ≤ x58_3) = true := decide_eq_true c29
                      clear c29
                      by_cases c30 : x58_3 < (l0_4.length : Int)
                      · rw [if_pos c30] at H
                        have c30b0 : decide (x58_3 < (l0_4.length : Int)) = true := decide_eq_true c30
                        clear c30
                        replace H := Option.bind_eq_some_iff.mp H
                        obtain ⟨t123, A310, H⟩ := H
                        replace H : (if t123 = true then (spec_Kept.l0 k3 l0_4 (l0_4.length : Int) (wrap64 (x58_3 + 1))) else (some false)) = some r := H
                        have A31 := Aside0.mk A310
                        clear A310
                        by_cases c32 : t123 = true
                        · subst c32
                          have H1 : (spec_Kept.l0 k3 l0_4 (l0_4.length : Int) (wrap64 (x58_3 + 1))) = some r := by rw [if_pos rfl] at H; exact H
                          clear H
                          have H := H1
                          clear H1
                          have H' := Aside0.mk H
                          clear H
                          have p121 : 0 ≤ (x58_3 : Int) := of_decide_eq_true (by first | (with_reducible assumption) | assumption)
                          have q121 : x58_3 < (l0_4.length : Int) := of_decide_eq_true (by first | (with_reducible assumption) | assumption)
                          obtain ⟨ad121, A121_3, c121_3, A121_4, c121_4, e121, hx121_0, hx121_1, hx121_2, hx121_3, hx121_4, hl121_3, hi121_3, hl121_4, hi121_4⟩ := at_T29 HR0_4.out x58_3 p121 q121
                          cases e121
                          replace hx121_0 := (HB.out.cell (World.block_lt_of_cell? w _ hx121_0)).trans hx121_0
                          replace hx121_1 := (HB.out.cell (World.block_lt_of_cell? w _ hx121_1)).trans hx121_1
                          replace hx121_2 := (HB.out.cell (World.block_lt_of_cell? w _ hx121_2)).trans hx121_2
                          replace hx121_3 := (HB.out.cell (World.block_lt_of_cell? w _ hx121_3)).trans hx121_3
                          replace hx121_4 := (HB.out.cell (World.block_lt_of_cell? w _ hx121_4)).trans hx121_4
                          have HR121_3 := Aside0.mk hi121_3
                          have HC121_3 := Aside0.mk hl121_3
                          clear hi121_3 hl121_3
                          have HR121_4 := Aside0.mk hi121_4
                          have HC121_4 := Aside0.mk hl121_4
                          clear hi121_4 hl121_4
                          replace p121 := eq_true p121
                          replace q121 := eq_true q121
                          go_wp2_with (first | ((with_reducible refine gate_dst (N := 4) rfl ?_); (try (refine gate_guard (by rfl) ?_; dsimp only)); refine box_event ?hg (N := 4) ?hd (cs := #[.int .i64 0, .int .i64 0, .bool false, .slice none 0 0, .slice none 0 0]) (t := 29) ?hr ?_; (case hd => rfl); (case hg => rfl); (case hr => first | (go_simp; done) | (go_simp; rfl)); intro gb122 hg w33 hbox hb; have n0_ := Aside0.mk (blk_below (g := gb120) (o := .cells #[.int .i64 a0_0, .int .i64 a0_1, .bool a0_2, .slice A0_3 l0_3.length c0_3, .slice (some ad121) l0_4.length c0_4] 29 (0, 0)) (by (with_reducible repeat (first | refine blk_drewN ?_ _ | refine blk_drew ?_ | refine blk_alloc ?_ _)); exact BK120.out) hb); have n1_ := Aside0.mk (below_step (by repeat (first | (with_reducible first | exact HB.out | apply below_alloc | apply pw_below_drewN | apply below_drew1 | refine below_set ?_ GE120.out) | exact HB.out)) hb); have n2_ := Aside0.mk (hbox); have n3_ := Aside0.mk ((by rw [hg]; exact (below_size (by repeat (first | (with_reducible first | exact HB.out | apply below_alloc | apply pw_below_drewN | apply below_drew1 | refine below_set ?_ GE120.out) | exact HB.out))) : w.heap.size ≤ gb122)); have n4_ := Aside0.mk ((by rw [hg]; exact (below_size (by repeat (first | (with_reducible first | exact HB.out | apply below_alloc | apply pw_below_drewN | apply below_drew1 | refine below_set ?_ GE120.out) | exact HB.out))) : w.heap.size ≤ gb122)); have n5_ := Aside0.mk ((by rw [hg]; exact Nat.ne_of_lt (blk_lt (g := gb120) (o := .cells #[.int .i64 a0_0, .int .i64 a0_1, .bool a0_2, .slice A0_3 l0_3.length c0_3, .slice (some ad121) l0_4.length c0_4] 29 (0, 0)) (by (with_reducible repeat (first | refine blk_drewN ?_ _ | refine blk_drew ?_ | refine blk_alloc ?_ _)); exact BK120.out)) : gb120 ≠ gb122)); have n6_ := Aside0.mk ((by rw [hg]; exact Nat.ne_of_gt (blk_lt (g := gb120) (o := .cells #[.int .i64 a0_0, .int .i64 a0_1, .bool a0_2, .slice A0_3 l0_3.length c0_3, .slice (some ad121) l0_4.length c0_4] 29 (0, 0)) (by (with_reducible repeat (first | refine blk_drewN ?_ _ | refine blk_drew ?_ | refine blk_alloc ?_ _)); exact BK120.out)) : gb122 ≠ gb120)); clear BK120; clear HB; have BK120 := n0_; have HB := n1_; have BK122 := n2_; have GW122 := n3_; have GE122 := n4_; have NB120_122 := n5_; have NB122_120 := n6_; clear n0_ n1_ n2_ n3_ n4_ n5_ n6_; clear hb hbox hg; have hnb34 := NB122_120.out; have hnc34 := NB120_122.out; have hcz35_0 : w33.cell? ⟨gb122, 0, none⟩ = some (.int .i64 0) := (blk_cell BK122.out 0).trans rfl; have hcz35_1 : w33.cell? ⟨gb122, 1, none⟩ = some (.int .i64 0) := (blk_cell BK122.out 1).trans rfl; have hcz35_2 : w33.cell? ⟨gb122, 2, none⟩ = some (.bool false) := (blk_cell BK122.out 2).trans rfl; have hcz35_3 : w33.cell? ⟨gb122, 3, none⟩ = some (.slice none 0 0) := (blk_cell BK122.out 3).trans rfl; have hcz35_4 : w33.cell? ⟨gb122, 4, none⟩ = some (.slice none 0 0) := (blk_cell BK122.out 4).trans rfl; have hfz35_0 := blk_frozen BK122.out 0; have hfz35_1 := blk_frozen BK122.out 1; have hfz35_2 := blk_frozen BK122.out 2; have hfz35_3 := blk_frozen BK122.out 3; have hfz35_4 := blk_frozen BK122.out 4) | ((with_reducible refine gate_callee (f := 9) rfl ?_); refine goesL_ (some 63) rfl rfl Tryd.func9 (by kernel_rfl) rfl #[.agg #[.int .i64 ((rd_T29 l0_4 x58_3).f0), .int .i64 ((rd_T29 l0_4 x58_3).f1), .bool ((rd_T29 l0_4 x58_3).f2), .slice A121_3 ((rd_T29 l0_4 x58_3).f3).length c121_3, .slice A121_4 ((rd_T29 l0_4 x58_3).f4).length c121_4]] rfl (by (try simp only [List.map_toArray, List.map_cons, List.map_nil]); first | done | rfl | (simp only [List.length_drop, List.length_take]; rfl)) ?_; (with_reducible refine (ih k3 (by have := HJ1.out; have := HJ19.out; have := HK3.out; omega) ((rd_T29 l0_4 x58_3).f0) ((rd_T29 l0_4 x58_3).f1) ((rd_T29 l0_4 x58_3).f2) _ _ ((rd_T29 l0_4 x58_3).f3) _ _ ((rd_T29 l0_4 x58_3).f4) true _ ?side1 ?side2 ?side3 ?side4 A31.out).mono ?_); (case side1 => exact Kd.C_below HR121_3.out (by repeat (first | (with_reducible first | exact HB.out | apply below_alloc | apply pw_below_drewN | apply below_drew1 | refine below_set ?_ GE120.out | refine below_set ?_ GE122.out) | exact HB.out))); (case side2 => exact HC121_3.out); (case side3 => exact Kd.C_below HR121_4.out (by repeat (first | (with_reducible first | exact HB.out | apply below_alloc | apply pw_below_drewN | apply below_drew1 | refine below_set ?_ GE120.out | refine below_set ?_ GE122.out) | exact HB.out))); (case side4 => exact HC121_4.out); rintro e w36 ⟨rfl, hb⟩; refine ⟨_, rfl, ?_⟩; have n0_ := Aside0.mk (blk_below (g := gb120) (o := .cells #[.int .i64 a0_0, .int .i64 a0_1, .bool a0_2, .slice A0_3 l0_3.length c0_3, .slice (some ad121) l0_4.length c0_4] 29 (0, 0)) (by (with_reducible repeat (first | refine blk_drewN ?_ _ | refine blk_drew ?_ | refine blk_alloc ?_ _)); refine blk_far ?_ NB120_122.out _; (with_reducible repeat (first | refine blk_drewN ?_ _ | refine blk_drew ?_ | refine blk_alloc ?_ _)); refine blk_far ?_ NB120_122.out _; (with_reducible repeat (first | refine blk_drewN ?_ _ | refine blk_drew ?_ | refine blk_alloc ?_ _)); refine blk_far ?_ NB120_122.out _; (with_reducible repeat (first | refine blk_drewN ?_ _ | refine blk_drew ?_ | refine blk_alloc ?_ _)); refine blk_far ?_ NB120_122.out _; (with_reducible repeat (first | refine blk_drewN ?_ _ | refine blk_drew ?_ | refine blk_alloc ?_ _)); refine blk_far ?_ NB120_122.out _; (with_reducible repeat (first | refine blk_drewN ?_ _ | refine blk_drew ?_ | refine blk_alloc ?_ _)); exact BK120.out) hb); have n1_ := Aside0.mk (blk_below (g := gb122) (o := .cells #[.int .i64 ((rd_T29 l0_4 x58_3).f0), .int .i64 ((rd_T29 l0_4 x58_3).f1), .bool ((rd_T29 l0_4 x58_3).f2), .slice A121_3 ((rd_T29 l0_4 x58_3).f3).length c121_3, .slice A121_4 ((rd_T29 l0_4 x58_3).f4).length c121_4] 29 (0, 0)) (by (with_reducible repeat (first | refine blk_drewN ?_ _ | refine blk_drew ?_ | refine blk_alloc ?_ _)); refine blk_put (cs := #[.int .i64 ((rd_T29 l0_4 x58_3).f0), .int .i64 ((rd_T29 l0_4 x58_3).f1), .bool ((rd_T29 l0_4 x58_3).f2), .slice A121_3 ((rd_T29 l0_4 x58_3).f3).length c121_3, .slice none 0 0]) ?_ 4 _ rfl; (with_reducible repeat (first | refine blk_drewN ?_ _ | refine blk_drew ?_ | refine blk_alloc ?_ _)); refine blk_put (cs := #[.int .i64 ((rd_T29 l0_4 x58_3).f0), .int .i64 ((rd_T29 l0_4 x58_3).f1), .bool ((rd_T29 l0_4 x58_3).f2), .slice none 0 0, .slice none 0 0]) ?_ 3 _ rfl; (with_reducible repeat (first | refine blk_drewN ?_ _ | refine blk_drew ?_ | refine blk_alloc ?_ _)); refine blk_put (cs := #[.int .i64 ((rd_T29 l0_4 x58_3).f0), .int .i64 ((rd_T29 l0_4 x58_3).f1), .bool false, .slice none 0 0, .slice none 0 0]) ?_ 2 _ rfl; (with_reducible repeat (first | refine blk_drewN ?_ _ | refine blk_drew ?_ | refine blk_alloc ?_ _)); refine blk_put (cs := #[.int .i64 ((rd_T29 l0_4 x58_3).f0), .int .i64 0, .bool false, .slice none 0 0, .slice none 0 0]) ?_ 1 _ rfl; (with_reducible repeat (first | refine blk_drewN ?_ _ | refine blk_drew ?_ | refine blk_alloc ?_ _)); refine blk_put (cs := #[.int .i64 0, .int .i64 0, .bool false, .slice none 0 0, .slice none 0 0]) ?_ 0 _ rfl; (with_reducible repeat (first | refine blk_drewN ?_ _ | refine blk_drew ?_ | refine blk_alloc ?_ _)); exact BK122.out) hb); have n2_ := Aside0.mk (below_step (by repeat (first | (with_reducible first | exact HB.out | apply below_alloc | apply pw_below_drewN | apply below_drew1 | refine below_set ?_ GE120.out | refine below_set ?_ GE122.out) | exact HB.out)) hb); clear BK120; clear BK122; clear HB; have BK120 := n0_; have BK122 := n1_; have HB := n2_; clear n0_ n1_ n2_; (try clear hb); (try clear hb2); (try clear hk); (try clear hi)))
                          go_roundg k3
                          case measure => have := HJ1.out; have := HJ19.out; have := HK3.out; omega
                          case rel => exact ⟨(wrap64 (x58_3 + 1)), (by first | rfl | (simp; done) | (simp [*]; done)), H', ⟨by have := HJ1.out; have := HJ19.out; have := HK3.out; omega⟩, ⟨by (with_reducible repeat (first | refine blk_drewN ?_ _ | refine blk_drew ?_ | refine blk_alloc ?_ _)); exact BK120.out⟩, ⟨by repeat (first | (with_reducible first | exact HB.out | apply below_alloc | apply pw_below_drewN | apply below_drew1 | refine below_set ?_ GE120.out | refine below_set ?_ GE122.out) | exact HB.out)⟩⟩
                        · replace c32 := Bool.eq_false_iff.mpr c32
                          subst c32
                          have H1 : (some false) = some r := by rw [if_neg (show ¬ (false = true) by decide)] at H; exact H
                          clear H
                          have H := H1
                          clear H1
                          obtain rfl := Option.some.inj H
                          have p121 : 0 ≤ (x58_3 : Int) := of_decide_eq_true (by first | (with_reducible assumption) | assumption)
                          have q121 : x58_3 < (l0_4.length : Int) := of_decide_eq_true (by first | (with_reducible assumption) | assumption)
                          obtain ⟨ad121, A121_3, c121_3, A121_4, c121_4, e121, hx121_0, hx121_1, hx121_2, hx121_3, hx121_4, hl121_3, hi121_3, hl121_4, hi121_4⟩ := at_T29 HR0_4.out x58_3 p121 q121
                          cases e121
                          replace hx121_0 := (HB.out.cell (World.block_lt_of_cell? w _ hx121_0)).trans hx121_0
                          replace hx121_1 := (HB.out.cell (World.block_lt_of_cell? w _ hx121_1)).trans hx121_1
                          replace hx121_2 := (HB.out.cell (World.block_lt_of_cell? w _ hx121_2)).trans hx121_2
                          replace hx121_3 := (HB.out.cell (World.block_lt_of_cell? w _ hx121_3)).trans hx121_3
                          replace hx121_4 := (HB.out.cell (World.block_lt_of_cell? w _ hx121_4)).trans hx121_4
                          have HR121_3 := Aside0.mk hi121_3
                          have HC121_3 := Aside0.mk hl121_3
                          clear hi121_3 hl121_3
                          have HR121_4 := Aside0.mk hi121_4
                          have HC121_4 := Aside0.mk hl121_4
                          clear hi121_4 hl121_4
                          replace p121 := eq_true p121
                          replace q121 := eq_true q121
                          go_wp2_with (first | ((with_reducible refine gate_dst (N := 4) rfl ?_); (try (refine gate_guard (by rfl) ?_; dsimp only)); refine box_event ?hg (N := 4) ?hd (cs := #[.int .i64 0, .int .i64 0, .bool false, .slice none 0 0, .slice none 0 0]) (t := 29) ?hr ?_; (case hd => rfl); (case hg => rfl); (case hr => first | (go_simp; done) | (go_simp; rfl)); intro gb122 hg w37 hbox hb; have n0_ := Aside0.mk (blk_below (g := gb120) (o := .cells #[.int .i64 a0_0, .int .i64 a0_1, .bool a0_2, .slice A0_3 l0_3.length c0_3, .slice (some ad121) l0_4.length c0_4] 29 (0, 0)) (by (with_reducible repeat (first | refine blk_drewN ?_ _ | refine blk_drew ?_ | refine blk_alloc ?_ _)); exact BK120.out) hb); have n1_ := Aside0.mk (below_step (by repeat (first | (with_reducible first | exact HB.out | apply below_alloc | apply pw_below_drewN | apply below_drew1 | refine below_set ?_ GE120.out) | exact HB.out)) hb); have n2_ := Aside0.mk (hbox); have n3_ := Aside0.mk ((by rw [hg]; exact (below_size (by repeat (first | (with_reducible first | exact HB.out | apply below_alloc | apply pw_below_drewN | apply below_drew1 | refine below_set ?_ GE120.out) | exact HB.out))) : w.heap.size ≤ gb122)); have n4_ := Aside0.mk ((by rw [hg]; exact (below_size (by repeat (first | (with_reducible first | exact HB.out | apply below_alloc | apply pw_below_drewN | apply below_drew1 | refine below_set ?_ GE120.out) | exact HB.out))) : w.heap.size ≤ gb122)); have n5_ := Aside0.mk ((by rw [hg]; exact Nat.ne_of_lt (blk_lt (g := gb120) (o := .cells #[.int .i64 a0_0, .int .i64 a0_1, .bool a0_2, .slice A0_3 l0_3.length c0_3, .slice (some ad121) l0_4.length c0_4] 29 (0, 0)) (by (with_reducible repeat (first | refine blk_drewN ?_ _ | refine blk_drew ?_ | refine blk_alloc ?_ _)); exact BK120.out)) : gb120 ≠ gb122)); have n6_ := Aside0.mk ((by rw [hg]; exact Nat.ne_of_gt (blk_lt (g := gb120) (o := .cells #[.int .i64 a0_0, .int .i64 a0_1, .bool a0_2, .slice A0_3 l0_3.length c0_3, .slice (some ad121) l0_4.length c0_4] 29 (0, 0)) (by (with_reducible repeat (first | refine blk_drewN ?_ _ | refine blk_drew ?_ | refine blk_alloc ?_ _)); exact BK120.out)) : gb122 ≠ gb120)); clear BK120; clear HB; have BK120 := n0_; have HB := n1_; have BK122 := n2_; have GW122 := n3_; have GE122 := n4_; have NB120_122 := n5_; have NB122_120 := n6_; clear n0_ n1_ n2_ n3_ n4_ n5_ n6_; clear hb hbox hg; have hnb38 := NB122_120.out; have hnc38 := NB120_122.out; have hcz39_0 : w37.cell? ⟨gb122, 0, none⟩ = some (.int .i64 0) := (blk_cell BK122.out 0).trans rfl; have hcz39_1 : w37.cell? ⟨gb122, 1, none⟩ = some (.int .i64 0) := (blk_cell BK122.out 1).trans rfl; have hcz39_2 : w37.cell? ⟨gb122, 2, none⟩ = some (.bool false) := (blk_cell BK122.out 2).trans rfl; have hcz39_3 : w37.cell? ⟨gb122, 3, none⟩ = some (.slice none 0 0) := (blk_cell BK122.out 3).trans rfl; have hcz39_4 : w37.cell? ⟨gb122, 4, none⟩ = some (.slice none 0 0) := (blk_cell BK122.out 4).trans rfl; have hfz39_0 := blk_frozen BK122.out 0; have hfz39_1 := blk_frozen BK122.out 1; have hfz39_2 := blk_frozen BK122.out 2; have hfz39_3 := blk_frozen BK122.out 3; have hfz39_4 := blk_frozen BK122.out 4) | ((with_reducible refine gate_callee (f := 9) rfl ?_); refine goesL_ (some 63) rfl rfl Tryd.func9 (by kernel_rfl) rfl #[.agg #[.int .i64 ((rd_T29 l0_4 x58_3).f0), .int .i64 ((rd_T29 l0_4 x58_3).f1), .bool ((rd_T29 l0_4 x58_3).f2), .slice A121_3 ((rd_T29 l0_4 x58_3).f3).length c121_3, .slice A121_4 ((rd_T29 l0_4 x58_3).f4).length c121_4]] rfl (by (try simp only [List.map_toArray, List.map_cons, List.map_nil]); first | done | rfl | (simp only [List.length_drop, List.length_take]; rfl)) ?_; (with_reducible refine (ih k3 (by have := HJ1.out; have := HJ19.out; have := HK3.out; omega) ((rd_T29 l0_4 x58_3).f0) ((rd_T29 l0_4 x58_3).f1) ((rd_T29 l0_4 x58_3).f2) _ _ ((rd_T29 l0_4 x58_3).f3) _ _ ((rd_T29 l0_4 x58_3).f4) false _ ?side1 ?side2 ?side3 ?side4 A31.out).mono ?_); (case side1 => exact Kd.C_below HR121_3.out (by repeat (first | (with_reducible first | exact HB.out | apply below_alloc | apply pw_below_drewN | apply below_drew1 | refine below_set ?_ GE120.out | refine below_set ?_ GE122.out) | exact HB.out))); (case side2 => exact HC121_3.out); (case side3 => exact Kd.C_below HR121_4.out (by repeat (first | (with_reducible first | exact HB.out | apply below_alloc | apply pw_below_drewN | apply below_drew1 | refine below_set ?_ GE120.out | refine below_set ?_ GE122.out) | exact HB.out))); (case side4 => exact HC121_4.out); rintro e w40 ⟨rfl, hb⟩; refine ⟨_, rfl, ?_⟩; have n0_ := Aside0.mk (blk_below (g := gb120) (o := .cells #[.int .i64 a0_0, .int .i64 a0_1, .bool a0_2, .slice A0_3 l0_3.length c0_3, .slice (some ad121) l0_4.length c0_4] 29 (0, 0)) (by (with_reducible repeat (first | refine blk_drewN ?_ _ | refine blk_drew ?_ | refine blk_alloc ?_ _)); refine blk_far ?_ NB120_122.out _; (with_reducible repeat (first | refine blk_drewN ?_ _ | refine blk_drew ?_ | refine blk_alloc ?_ _)); refine blk_far ?_ NB120_122.out _; (with_reducible repeat (first | refine blk_drewN ?_ _ | refine blk_drew ?_ | refine blk_alloc ?_ _)); refine blk_far ?_ NB120_122.out _; (with_reducible repeat (first | refine blk_drewN ?_ _ | refine blk_drew ?_ | refine blk_alloc ?_ _)); refine blk_far ?_ NB120_122.out _; (with_reducible repeat (first | refine blk_drewN ?_ _ | refine blk_drew ?_ | refine blk_alloc ?_ _)); refine blk_far ?_ NB120_122.out _; (with_reducible repeat (first | refine blk_drewN ?_ _ | refine blk_drew ?_ | refine blk_alloc ?_ _)); exact BK120.out) hb); have n1_ := Aside0.mk (blk_below (g := gb122) (o := .cells #[.int .i64 ((rd_T29 l0_4 x58_3).f0), .int .i64 ((rd_T29 l0_4 x58_3).f1), .bool ((rd_T29 l0_4 x58_3).f2), .slice A121_3 ((rd_T29 l0_4 x58_3).f3).length c121_3, .slice A121_4 ((rd_T29 l0_4 x58_3).f4).length c121_4] 29 (0, 0)) (by (with_reducible repeat (first | refine blk_drewN ?_ _ | refine blk_drew ?_ | refine blk_alloc ?_ _)); refine blk_put (cs := #[.int .i64 ((rd_T29 l0_4 x58_3).f0), .int .i64 ((rd_T29 l0_4 x58_3).f1), .bool ((rd_T29 l0_4 x58_3).f2), .slice A121_3 ((rd_T29 l0_4 x58_3).f3).length c121_3, .slice none 0 0]) ?_ 4 _ rfl; (with_reducible repeat (first | refine blk_drewN ?_ _ | refine blk_drew ?_ | refine blk_alloc ?_ _)); refine blk_put (cs := #[.int .i64 ((rd_T29 l0_4 x58_3).f0), .int .i64 ((rd_T29 l0_4 x58_3).f1), .bool ((rd_T29 l0_4 x58_3).f2), .slice none 0 0, .slice none 0 0]) ?_ 3 _ rfl; (with_reducible repeat (first | refine blk_drewN ?_ _ | refine blk_drew ?_ | refine blk_alloc ?_ _)); refine blk_put (cs := #[.int .i64 ((rd_T29 l0_4 x58_3).f0), .int .i64 ((rd_T29 l0_4 x58_3).f1), .bool false, .slice none 0 0, .slice none 0 0]) ?_ 2 _ rfl; (with_reducible repeat (first | refine blk_drewN ?_ _ | refine blk_drew ?_ | refine blk_alloc ?_ _)); refine blk_put (cs := #[.int .i64 ((rd_T29 l0_4 x58_3).f0), .int .i64 0, .bool false, .slice none 0 0, .slice none 0 0]) ?_ 1 _ rfl; (with_reducible repeat (first | refine blk_drewN ?_ _ | refine blk_drew ?_ | refine blk_alloc ?_ _)); refine blk_put (cs := #[.int .i64 0, .int .i64 0, .bool false, .slice none 0 0, .slice none 0 0]) ?_ 0 _ rfl; (with_reducible repeat (first | refine blk_drewN ?_ _ | refine blk_drew ?_ | refine blk_alloc ?_ _)); exact BK122.out) hb); have n2_ := Aside0.mk (below_step (by repeat (first | (with_reducible first | exact HB.out | apply below_alloc | apply pw_below_drewN | apply below_drew1 | refine below_set ?_ GE120.out | refine below_set ?_ GE122.out) | exact HB.out)) hb); clear BK120; clear BK122; clear HB; have BK120 := n0_; have BK122 := n1_; have HB := n2_; clear n0_ n1_ n2_; (try clear hb); (try clear hb2); (try clear hk); (try clear hi)))
                          go_ret
                          exact ⟨by first | rfl | (simp [errW_none, errW_some] <;> rfl) | (simp [*, errW_none, errW_some] <;> rfl), by repeat (first | (with_reducible first | exact HB.out | apply below_alloc | apply pw_below_drewN | apply below_drew1 | refine below_set ?_ GE120.out | refine below_set ?_ GE122.out) | exact HB.out)⟩
                      · rw [if_neg c30] at H
                        exact absurd H (by simp)
                    · rw [if_neg c29] at H
                      exact absurd H (by simp)
                  · rw [if_neg c28] at H
                    have c28b0 : decide (x58_3 < (l0_4.length : Int)) = false := decide_eq_false c28
                    clear c28
                    obtain rfl := Option.some.inj H
                    go_wp2
                    go_ret
                    exact ⟨by first | rfl | (simp [errW_none, errW_some] <;> rfl) | (simp [*, errW_none, errW_some] <;> rfl), by repeat (first | (with_reducible first | exact HB.out | apply below_alloc | apply pw_below_drewN | apply below_drew1 | refine below_set ?_ GE120.out) | exact HB.out)⟩

end Go.Proofs.YtejbpbdlolehnaaDoor.PFnEncode
