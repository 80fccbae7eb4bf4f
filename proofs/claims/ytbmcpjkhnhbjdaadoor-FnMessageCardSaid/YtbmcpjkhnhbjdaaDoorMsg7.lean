/- Parts of the proof of one law, in the order in which they build. spec.Identifier's bytes are those of the package's identifier. · The bytes of a packet as data; the reference's Bytes gives them. -/
import Derived.Test.YtbmcpjkhnhbjdaaDoorMsg1
import Derived.Test.YtbmcpjkhnhbjdaaDoorMsg2
import Derived.Test.YtbmcpjkhnhbjdaaDoorMsg3
import Derived.Test.YtbmcpjkhnhbjdaaDoorMsg4
import Derived.Test.YtbmcpjkhnhbjdaaDoorMsg5
import Derived.Test.YtbmcpjkhnhbjdaaDoorMsg6
namespace Go.Proofs.YtbmcpjkhnhbjdaaDoor.PFnEncode
open Go.RowKit Go.Proofs.YtbmcpjkhnhbjdaaDoorW.PrintWords Go.Proofs.YtbmcpjkhnhbjdaaDoorW.PrintLast Go.Proofs.YtbmcpjkhnhbjdaaDoorW.PrintMore
attribute [local go_sem] max2_int min2_int max_two min_two max_three min_three max_four min_four   -- for this text's walks alone
set_option linter.unusedVariables false
set_option linter.unusedSimpArgs false

/-! ### spec_Group: function 86 -/
-- NOT PRINTED: function 60 (spec_listed)

-- NOT PRINTED: function 24 (spec_Modify)

-- NOT PRINTED: function 6 (laws_FnModify)

-- NOT PRINTED: function 61 (goldap_NewExtendedRequest)

-- NOT PRINTED: function 106 (bytes_Buffer_tryGrowByReslice)

/-! ### bytes_Buffer_Len: function 111 -/
-- NOT PRINTED: function 112 (bytes_Buffer_Reset)

-- NOT PRINTED: function 113 (bytes_growSlice)

-- NOT PRINTED: function 107 (bytes_Buffer_grow)

-- NOT PRINTED: function 88 (bytes_Buffer_Write)

-- NOT PRINTED: function 87 (asn1ber_Encode)

-- NOT PRINTED: function 62 (asn1ber_NewString)

-- NOT PRINTED: function 25 (impl_Extended)

/-! ### goldap_NewPasswordModifyRequest: function 63 -/
-- NOT PRINTED: function 26 (impl_NewPassword)

-- NOT PRINTED: function 27 (spec_Extended)

/-! ### spec_Identifier: function 89 -/
mutual
def spec_Identifier.j0 : Nat → Int → Int → Int → Bool → List Int → List (S33) → Option (List Int)
  | 0, _, _, _, _, _, _ => none
  | k + 1, x3, x320000, x320001, x320002, x320003, x320004 => if x320001 < 31 then (some (([Go.bits .or .u8 x3 ((x320001) % 256)] : List Int))) else (spec_Identifier.l0 k x3 (([(Go.bits .and .i64 x320001 127) % 256] : List Int)) (x320001 / 128))
def spec_Identifier.l0 : Nat → Int → List Int → Int → Option (List Int)
  | 0, _, _, _ => none
  | k + 1, x3, x4, x5 => if x5 > 0 then ((some (([Go.bits .or .u8 128 ((Go.bits .and .i64 x5 127) % 256)] : List Int) : List Int)).bind fun y326 => (if y326.length + x4.length < 140737488355328 then (spec_Identifier.l0 k x3 (y326 ++ x4) (x5 / 128)) else (none))) else ((some (([Go.bits .or .u8 x3 31] : List Int) : List Int)).bind fun y332 => (if y332.length + x4.length < 140737488355328 then (some (y332 ++ x4)) else (none)))
end
def spec_Identifier.f (k : Nat) (a0_0 : Int) (a0_1 : Int) (a0_2 : Bool) (l0_3 : List Int) (l0_4 : List (S33)) : Option (List Int) := if a0_2 = true then (spec_Identifier.j0 k (Go.bits .or .u8 ((wrap64 (a0_0 * 64)) % 256) 32) a0_0 a0_1 a0_2 l0_3 l0_4) else (spec_Identifier.j0 k ((wrap64 (a0_0 * 64)) % 256) a0_0 a0_1 a0_2 l0_3 l0_4)
theorem spec_Identifier.mono_l : ∀ k, (∀ y0 y1 y2 y3 y4 y5, LeO (spec_Identifier.j0 k y0 y1 y2 y3 y4 y5) (spec_Identifier.j0 (k + 1) y0 y1 y2 y3 y4 y5)) ∧ (∀ y0 y1 y2, LeO (spec_Identifier.l0 k y0 y1 y2) (spec_Identifier.l0 (k + 1) y0 y1 y2))
  | 0 => ⟨fun _ _ _ _ _ _ r h => by simp [spec_Identifier.j0] at h, fun _ _ _ r h => by simp [spec_Identifier.l0] at h⟩
  | k + 1 => by
    obtain ⟨ih0, ih1⟩ := spec_Identifier.mono_l k
    refine ⟨?_, ?_⟩
    · intro y0 y1 y2 y3 y4 y5
      unfold spec_Identifier.j0
      repeat' first
      | (with_reducible exact ih0 _ _ _ _ _ _)
      | (with_reducible exact ih1 _ _ _)
      | (with_reducible exact LeO.refl _)
      | (with_reducible exact LeO.none _)
      | (with_reducible refine LeO.ite ?_ ?_)
      | (with_reducible refine LeO.bind ?_ (fun _ => ?_))
      | exact ih0 _ _ _ _ _ _
      | exact ih1 _ _ _
      | exact LeO.none _
      | refine LeO.ite ?_ ?_
      | refine LeO.bind ?_ (fun _ => ?_)
    · intro y0 y1 y2
      unfold spec_Identifier.l0
      repeat' first
      | (with_reducible exact ih0 _ _ _ _ _ _)
      | (with_reducible exact ih1 _ _ _)
      | (with_reducible exact LeO.refl _)
      | (with_reducible exact LeO.none _)
      | (with_reducible refine LeO.ite ?_ ?_)
      | (with_reducible refine LeO.bind ?_ (fun _ => ?_))
      | exact ih0 _ _ _ _ _ _
      | exact ih1 _ _ _
      | exact LeO.none _
      | refine LeO.ite ?_ ?_
      | refine LeO.bind ?_ (fun _ => ?_)
theorem spec_Identifier.mono : ∀ a0 a1 a2 a3 a4 k, LeO (spec_Identifier.f k a0 a1 a2 a3 a4) (spec_Identifier.f (k + 1) a0 a1 a2 a3 a4) := by
  intro a0 a1 a2 a3 a4 k
  obtain ⟨ih0, ih1⟩ := spec_Identifier.mono_l k
  unfold spec_Identifier.f
  repeat' first
      | (with_reducible exact ih0 _ _ _ _ _ _)
      | (with_reducible exact ih1 _ _ _)
      | (with_reducible exact LeO.refl _)
      | (with_reducible exact LeO.none _)
      | (with_reducible refine LeO.ite ?_ ?_)
      | (with_reducible refine LeO.bind ?_ (fun _ => ?_))
      | exact ih0 _ _ _ _ _ _
      | exact ih1 _ _ _
      | exact LeO.none _
      | refine LeO.ite ?_ ?_
      | refine LeO.bind ?_ (fun _ => ?_)
set_option maxHeartbeats 8000000 in
set_option maxRecDepth 100000 in
theorem spec_Identifier.calls (k : Nat) (a0_0 : Int) (a0_1 : Int) (a0_2 : Bool) (A0_3 : Option Addr) (c0_3 : Nat) (l0_3 : List Int) (A0_4 : Option Addr) (c0_4 : Nat) (l0_4 : List (S33)) (r : List Int) (w : World) (hr0_3 : Kd.C (Kd.int .u8) w A0_3 l0_3.length l0_3) (hc0_3 : l0_3.length ≤ c0_3) (hr0_4 : Kd.C k33 w A0_4 l0_4.length l0_4) (hc0_4 : l0_4.length ≤ c0_4) (h : spec_Identifier.f k a0_0 a0_1 a0_2 l0_3 l0_4 = some r) :
    Calls Tryd.prog 89 #[.agg #[.int .i64 a0_0, .int .i64 a0_1, .bool a0_2, .slice A0_3 l0_3.length c0_3, .slice A0_4 l0_4.length c0_4]] w fun e w' => ∃ v0_ : Value, e = .returned (v0_) ∧ Kd.R (Kd.int .u8) 5 w' w.heap.size (fun _ => True) v0_ r ∧ Below w.heap.size w w' := by
  have hu33 := Tryd.underlying33
  have HR0_3 := Aside0.mk hr0_3
  have HC0_3 := Aside0.mk hc0_3
  clear hr0_3 hc0_3
  have HR0_4 := Aside0.mk hr0_4
  have HC0_4 := Aside0.mk hc0_4
  clear hr0_4 hc0_4
  have HB := Aside0.mk (Below.refl w.heap.size w)
  have H : (if a0_2 = true then (spec_Identifier.j0 k (Go.bits .or .u8 ((wrap64 (a0_0 * 64)) % 256) 32) a0_0 a0_1 a0_2 l0_3 l0_4) else (spec_Identifier.j0 k ((wrap64 (a0_0 * 64)) % 256) a0_0 a0_1 a0_2 l0_3 l0_4)) = some r := h
  clear h
  have HC2 := Aside0.mk H
  clear H
  go_enter Tryd.func89, Tryd.ntmps89
  go_upto_if 11 with (first | ((with_reducible refine gate_dst (N := 1) rfl ?_); refine box_event ?hg (N := 1) ?hd (cs := #[.int .i64 a0_0, .int .i64 a0_1, .bool a0_2, .slice A0_3 l0_3.length c0_3, .slice A0_4 l0_4.length c0_4]) (t := 33) ?hr ?_; (case hd => rfl); (case hg => rfl); (case hr => first | (go_simp; done) | (go_simp; rfl)); intro gb319 hg w3 hbox hb; have n0_ := Aside0.mk (below_step (by repeat (first | (with_reducible first | exact HB.out | apply below_alloc | apply pw_below_drewN | apply below_drew1) | exact HB.out)) hb); have n1_ := Aside0.mk (hbox); have n2_ := Aside0.mk ((by rw [hg]; exact (below_size (by repeat (first | (with_reducible first | exact HB.out | apply below_alloc | apply pw_below_drewN | apply below_drew1) | exact HB.out))) : w.heap.size ≤ gb319)); have n3_ := Aside0.mk ((by rw [hg]; exact (below_size (by repeat (first | (with_reducible first | exact HB.out | apply below_alloc | apply pw_below_drewN | apply below_drew1) | exact HB.out))) : w.heap.size ≤ gb319)); clear HB; have HB := n0_; have BK319 := n1_; have GW319 := n2_; have GE319 := n3_; clear n0_ n1_ n2_ n3_; clear hb hbox hg; have hcz4_0 : w3.cell? ⟨gb319, 0, none⟩ = some (.int .i64 a0_0) := (blk_cell BK319.out 0).trans rfl; have hcz4_1 : w3.cell? ⟨gb319, 1, none⟩ = some (.int .i64 a0_1) := (blk_cell BK319.out 1).trans rfl; have hcz4_2 : w3.cell? ⟨gb319, 2, none⟩ = some (.bool a0_2) := (blk_cell BK319.out 2).trans rfl; have hcz4_3 : w3.cell? ⟨gb319, 3, none⟩ = some (.slice A0_3 l0_3.length c0_3) := (blk_cell BK319.out 3).trans rfl; have hcz4_4 : w3.cell? ⟨gb319, 4, none⟩ = some (.slice A0_4 l0_4.length c0_4) := (blk_cell BK319.out 4).trans rfl; have hfz4_0 := blk_frozen BK319.out 0; have hfz4_1 := blk_frozen BK319.out 1; have hfz4_2 := blk_frozen BK319.out 2; have hfz4_3 := blk_frozen BK319.out 3; have hfz4_4 := blk_frozen BK319.out 4))
  (try simp only [Act.put, List.setIfInBounds_toArray, List.set_cons_zero, List.set_cons_succ])
  go_cut [3] (fun v3 wc => ∃ (kq : Nat) (x3_1 : Int), v3 = .int .u8 x3_1 ∧ Aside0 (spec_Identifier.j0 kq x3_1 a0_0 a0_1 a0_2 l0_3 l0_4 = some r) ∧ Aside0 (kq ≤ k) ∧ Aside0 (wc.heap[gb319]? = some (.cells #[.int .i64 a0_0, .int .i64 a0_1, .bool a0_2, (.slice A0_3 l0_3.length c0_3), (.slice A0_4 l0_4.length c0_4)] 33 (0, 0))) ∧ Aside0 (Below w.heap.size w wc))
  case first =>
    have H := HC2.out
    clear HC2
    by_cases c5 : a0_2 = true
    · subst c5
      have H1 : (spec_Identifier.j0 k (Go.bits .or .u8 ((wrap64 (a0_0 * 64)) % 256) 32) a0_0 a0_1 true l0_3 l0_4) = some r := by rw [if_pos rfl] at H; exact H
      clear H
      have H := H1
      clear H1
      have H' := Aside0.mk H
      clear H
      go_wp2
      go_meet
      case rel => exact ⟨_, (Go.bits .or .u8 ((wrap64 (a0_0 * 64)) % 256) 32), (by first | rfl | (simp; done) | (simp [*]; done)), H', ⟨by first | omega | exact Nat.le_refl _⟩, ⟨by (with_reducible repeat (first | refine blk_drewN ?_ _ | refine blk_drew ?_ | refine blk_alloc ?_ _)); exact BK319.out⟩, ⟨by repeat (first | (with_reducible first | exact HB.out | apply below_alloc | apply pw_below_drewN | apply below_drew1 | refine below_set ?_ GE319.out) | exact HB.out)⟩⟩
    · replace c5 := Bool.eq_false_iff.mpr c5
      subst c5
      have H1 : (spec_Identifier.j0 k ((wrap64 (a0_0 * 64)) % 256) a0_0 a0_1 false l0_3 l0_4) = some r := by rw [if_neg (show ¬ (false = true) by decide)] at H; exact H
      clear H
      have H := H1
      clear H1
      have H' := Aside0.mk H
      clear H
      go_wp2
      go_meet
      case rel => exact ⟨_, ((wrap64 (a0_0 * 64)) % 256), (by first | rfl | (simp; done) | (simp [*]; done)), H', ⟨by first | omega | exact Nat.le_refl _⟩, ⟨by (with_reducible repeat (first | refine blk_drewN ?_ _ | refine blk_drew ?_ | refine blk_alloc ?_ _)); exact BK319.out⟩, ⟨by repeat (first | (with_reducible first | exact HB.out | apply below_alloc | apply pw_below_drewN | apply below_drew1 | refine below_set ?_ GE319.out) | exact HB.out)⟩⟩
  case rest =>
    clear HC2
    try clear p2
    try clear c5
    try clear hcz4_0
    try clear hcz4_1
    try clear hcz4_2
    try clear hcz4_3
    try clear hcz4_4
    try clear hfz4_0
    try clear hfz4_1
    try clear hfz4_2
    try clear hfz4_3
    try clear hfz4_4
    obtain ⟨kq, x3_1, rfl, HA, HJ1, BK319, HB⟩ := hcut
    cases kq with
    | zero => exact absurd HA.out (by simp [spec_Identifier.j0])
    | succ kj1 =>
      have H := HA.out
      clear HA
      simp only [spec_Identifier.j0] at H
      by_cases c6 : a0_1 < 31
      · rw [if_pos c6] at H
        have c6b0 : decide (a0_1 < 31) = true := decide_eq_true c6
        clear c6
        obtain ⟨y320, hy320⟩ : ∃ y_ : List Int, y_ = (([Go.bits .or .u8 x3_1 ((a0_1) % 256)] : List Int)) := ⟨_, rfl⟩
        replace H : (some y320) = some r := by first | (rw [hy320]; with_reducible exact H) | (have H2_ := (Option.bind_some _ _).symm.trans H; rw [hy320]; with_reducible exact H2_) | (have H2_ := (Option.bind_some _ _).symm.trans H; with_reducible exact H2_) | with_reducible exact H | (rw [hy320]; exact H) | exact H
        have Ny320 := Aside0.mk hy320
        clear hy320
        obtain rfl := Option.some.inj H
        have hcz7_0 : wc.cell? ⟨gb319, 0, none⟩ = some (.int .i64 a0_0) := (blk_cell BK319.out 0).trans rfl
        have hcz7_1 : wc.cell? ⟨gb319, 1, none⟩ = some (.int .i64 a0_1) := (blk_cell BK319.out 1).trans rfl
        have hcz7_2 : wc.cell? ⟨gb319, 2, none⟩ = some (.bool a0_2) := (blk_cell BK319.out 2).trans rfl
        have hcz7_3 : wc.cell? ⟨gb319, 3, none⟩ = some (.slice A0_3 l0_3.length c0_3) := (blk_cell BK319.out 3).trans rfl
        have hcz7_4 : wc.cell? ⟨gb319, 4, none⟩ = some (.slice A0_4 l0_4.length c0_4) := (blk_cell BK319.out 4).trans rfl
        have hfz7_0 := blk_frozen BK319.out 0
        have hfz7_1 := blk_frozen BK319.out 1
        have hfz7_2 := blk_frozen BK319.out 2
        have hfz7_3 := blk_frozen BK319.out 3
        have hfz7_4 := blk_frozen BK319.out 4
        go_wp2_with (first | ((with_reducible refine gate_dst (N := 22) rfl ?_); refine Kd.R_lit (Kd.int .u8) _ 5 ?hg (N := 22) ?hd (xs := ([Go.bits .or .u8 x3_1 ((a0_1) % 256)] : List Int)) (inner := [.int .u8 (Go.bits .or .u8 x3_1 ((a0_1) % 256))]) (ok := fun _ => True) (okp := fun _ => True) ?hr ?hp (fun _ hk => hk) trivial (Below.refl _ _) (Nat.le_refl _) (by simp) ?_; (case hd => rfl); (case hg => rfl); (case hr => first | (go_simp; done) | (go_simp; rfl)); (case hp => exact (Reps.one (show Kd.M (Kd.int .u8) _ _ _ (Go.bits .or .u8 x3_1 ((a0_1) % 256)) [.int .u8 (Go.bits .or .u8 x3_1 ((a0_1) % 256))] from rfl) (Reps.none _ _))); intro v321 w8 ho9 hb hg_ hnew_; clear hg_ hnew_; (first | rw [← Ny320.out] at ho9 | (simp only [Int.reduceToNat] at ho9; rw [← Ny320.out] at ho9)); have n0_ := Aside0.mk (Kd.R_lower ho9 (below_size (by repeat (first | (with_reducible first | exact HB.out | apply below_alloc | apply pw_below_drewN | apply below_drew1 | refine below_set ?_ GE319.out) | exact HB.out)))); have n1_ := Aside0.mk (blk_below (g := gb319) (o := .cells #[.int .i64 a0_0, .int .i64 a0_1, .bool a0_2, .slice A0_3 l0_3.length c0_3, .slice A0_4 l0_4.length c0_4] 33 (0, 0)) (by (with_reducible repeat (first | refine blk_drewN ?_ _ | refine blk_drew ?_ | refine blk_alloc ?_ _)); exact BK319.out) hb); have n2_ := Aside0.mk (below_step (by repeat (first | (with_reducible first | exact HB.out | apply below_alloc | apply pw_below_drewN | apply below_drew1 | refine below_set ?_ GE319.out) | exact HB.out)) hb); clear BK319; clear HB; have HO322 := n0_; have BK319 := n1_; have HB := n2_; clear n0_ n1_ n2_; clear hb ho9))
        go_ret
        exact ⟨_, by first | rfl | (simp [errW_none, errW_some] <;> rfl) | (simp [*, errW_none, errW_some] <;> rfl), by (with_reducible repeat (first | apply Kd.R_alloc | apply Kd.R_drewN | apply Kd.R_drew)); exact HO322.out, by repeat (first | (with_reducible first | exact HB.out | apply below_alloc | apply pw_below_drewN | apply below_drew1 | refine below_set ?_ GE319.out) | exact HB.out)⟩
      · rw [if_neg c6] at H
        have c6b0 : decide (a0_1 < 31) = false := decide_eq_false c6
        clear c6
        obtain ⟨y323, hy323⟩ : ∃ y_ : List Int, y_ = (([(Go.bits .and .i64 a0_1 127) % 256] : List Int)) := ⟨_, rfl⟩
        replace H : (spec_Identifier.l0 kj1 x3_1 y323 (a0_1 / 128)) = some r := by first | (rw [hy323]; with_reducible exact H) | (have H2_ := (Option.bind_some _ _).symm.trans H; rw [hy323]; with_reducible exact H2_) | (have H2_ := (Option.bind_some _ _).symm.trans H; with_reducible exact H2_) | with_reducible exact H | (rw [hy323]; exact H) | exact H
        have Ny323 := Aside0.mk hy323
        clear hy323
        have H' := Aside0.mk H
        clear H
        have hcz10_0 : wc.cell? ⟨gb319, 0, none⟩ = some (.int .i64 a0_0) := (blk_cell BK319.out 0).trans rfl
        have hcz10_1 : wc.cell? ⟨gb319, 1, none⟩ = some (.int .i64 a0_1) := (blk_cell BK319.out 1).trans rfl
        have hcz10_2 : wc.cell? ⟨gb319, 2, none⟩ = some (.bool a0_2) := (blk_cell BK319.out 2).trans rfl
        have hcz10_3 : wc.cell? ⟨gb319, 3, none⟩ = some (.slice A0_3 l0_3.length c0_3) := (blk_cell BK319.out 3).trans rfl
        have hcz10_4 : wc.cell? ⟨gb319, 4, none⟩ = some (.slice A0_4 l0_4.length c0_4) := (blk_cell BK319.out 4).trans rfl
        have hfz10_0 := blk_frozen BK319.out 0
        have hfz10_1 := blk_frozen BK319.out 1
        have hfz10_2 := blk_frozen BK319.out 2
        have hfz10_3 := blk_frozen BK319.out 3
        have hfz10_4 := blk_frozen BK319.out 4
        go_wp2_with (first | ((with_reducible refine gate_dst (N := 27) rfl ?_); refine Kd.R_lit (Kd.int .u8) _ 5 ?hg (N := 27) ?hd (xs := ([(Go.bits .and .i64 a0_1 127) % 256] : List Int)) (inner := [.int .u8 ((Go.bits .and .i64 a0_1 127) % 256)]) (ok := fun _ => True) (okp := fun _ => True) ?hr ?hp (fun _ hk => hk) trivial (Below.refl _ _) (Nat.le_refl _) (by simp) ?_; (case hd => rfl); (case hg => rfl); (case hr => first | (go_simp; done) | (go_simp; rfl)); (case hp => exact (Reps.one (show Kd.M (Kd.int .u8) _ _ _ ((Go.bits .and .i64 a0_1 127) % 256) [.int .u8 ((Go.bits .and .i64 a0_1 127) % 256)] from rfl) (Reps.none _ _))); intro v324 w11 ho12 hb hg_ hnew_; clear hg_ hnew_; (first | rw [← Ny323.out] at ho12 | (simp only [Int.reduceToNat] at ho12; rw [← Ny323.out] at ho12)); have n0_ := Aside0.mk (Kd.R_lower ho12 (below_size (by repeat (first | (with_reducible first | exact HB.out | apply below_alloc | apply pw_below_drewN | apply below_drew1 | refine below_set ?_ GE319.out) | exact HB.out)))); have n1_ := Aside0.mk (blk_below (g := gb319) (o := .cells #[.int .i64 a0_0, .int .i64 a0_1, .bool a0_2, .slice A0_3 l0_3.length c0_3, .slice A0_4 l0_4.length c0_4] 33 (0, 0)) (by (with_reducible repeat (first | refine blk_drewN ?_ _ | refine blk_drew ?_ | refine blk_alloc ?_ _)); exact BK319.out) hb); have n2_ := Aside0.mk (below_step (by repeat (first | (with_reducible first | exact HB.out | apply below_alloc | apply pw_below_drewN | apply below_drew1 | refine below_set ?_ GE319.out) | exact HB.out)) hb); clear BK319; clear HB; have HO325 := n0_; have BK319 := n1_; have HB := n2_; clear n0_ n1_ n2_; clear hb ho12; have hcz13_0 : w11.cell? ⟨gb319, 0, none⟩ = some (.int .i64 a0_0) := (blk_cell BK319.out 0).trans rfl; have hcz13_1 : w11.cell? ⟨gb319, 1, none⟩ = some (.int .i64 a0_1) := (blk_cell BK319.out 1).trans rfl; have hcz13_2 : w11.cell? ⟨gb319, 2, none⟩ = some (.bool a0_2) := (blk_cell BK319.out 2).trans rfl; have hcz13_3 : w11.cell? ⟨gb319, 3, none⟩ = some (.slice A0_3 l0_3.length c0_3) := (blk_cell BK319.out 3).trans rfl; have hcz13_4 : w11.cell? ⟨gb319, 4, none⟩ = some (.slice A0_4 l0_4.length c0_4) := (blk_cell BK319.out 4).trans rfl; have hfz13_0 := blk_frozen BK319.out 0; have hfz13_1 := blk_frozen BK319.out 1; have hfz13_2 := blk_frozen BK319.out 2; have hfz13_3 := blk_frozen BK319.out 3; have hfz13_4 := blk_frozen BK319.out 4))
        go_loopg [4, 5] kj1 (fun kq v4 v5 w' => ∃ (x4_2 : List Int) (x5_2 : Int), v5 = .int .i64 x5_2 ∧ Aside0 (spec_Identifier.l0 kq x3_1 x4_2 x5_2 = some r) ∧ Aside0 (kq ≤ kj1) ∧ Aside0 (Kd.R (Kd.int .u8) 5 w' w.heap.size (fun _ => True) v4 x4_2) ∧ Aside0 (w'.heap[gb319]? = some (.cells #[.int .i64 a0_0, .int .i64 a0_1, .bool a0_2, (.slice A0_3 l0_3.length c0_3), (.slice A0_4 l0_4.length c0_4)] 33 (0, 0))) ∧ Aside0 (Below w.heap.size w w'))
        case atStart => exact ⟨(y323), (a0_1 / 128), (by first | rfl | (simp; done) | (simp [*]; done)), H', ⟨Nat.le_refl _⟩, ⟨by (with_reducible repeat (first | apply Kd.R_alloc | apply Kd.R_drewN | apply Kd.R_drew)); exact HO325.out⟩, ⟨by (with_reducible repeat (first | refine blk_drewN ?_ _ | refine blk_drew ?_ | refine blk_alloc ?_ _)); exact BK319.out⟩, ⟨by repeat (first | (with_reducible first | exact HB.out | apply below_alloc | apply pw_below_drewN | apply below_drew1 | refine below_set ?_ GE319.out) | exact HB.out)⟩⟩
        case round =>
          clear H'
          try clear p2
          try clear c5
          try clear c6
          try clear c6b0
          try clear p6
          try clear c8
          try clear hcz10_0
          try clear hcz10_1
          try clear hcz10_2
          try clear hcz10_3
          try clear hcz10_4
          try clear hcz13_0
          try clear hcz13_1
          try clear hcz13_2
          try clear hcz13_3
          try clear hcz13_4
          try clear hcz4_0
          try clear hcz4_1
          try clear hcz4_2
          try clear hcz4_3
          try clear hcz4_4
          try clear hcz7_0
          try clear hcz7_1
          try clear hcz7_2
          try clear hcz7_3
          try clear hcz7_4
          try clear hfz10_0
          try clear hfz10_1
          try clear hfz10_2
          try clear hfz10_3
          try clear hfz10_4
          try clear hfz13_0
          try clear hfz13_1
          try clear hfz13_2
          try clear hfz13_3
          try clear hfz13_4
          try clear hfz4_0
          try clear hfz4_1
          try clear hfz4_2
          try clear hfz4_3
          try clear hfz4_4
          try clear hfz7_0
          try clear hfz7_1
          try clear hfz7_2
          try clear hfz7_3
          try clear hfz7_4
          try clear p2
          obtain ⟨x4_2, x5_2, rfl, HA, HK2, HO_4, BK319, HB⟩ := hrel
          cases gk with
          | zero => exact absurd HA.out (by simp [spec_Identifier.l0])
          | succ k2 =>
            have H := HA.out
            clear HA
            simp only [spec_Identifier.l0] at H
            by_cases c14 : x5_2 > 0
            · rw [if_pos c14] at H
              have c14b0 : decide (0 < x5_2) = true := decide_eq_true c14
              clear c14
              obtain ⟨y326, hy326⟩ : ∃ y_ : List Int, y_ = (([Go.bits .or .u8 128 ((Go.bits .and .i64 x5_2 127) % 256)] : List Int)) := ⟨_, rfl⟩
              replace H : (if y326.length + x4_2.length < 140737488355328 then (spec_Identifier.l0 k2 x3_1 (y326 ++ x4_2) (x5_2 / 128)) else (none)) = some r := by first | (rw [hy326]; with_reducible exact H) | (have H2_ := (Option.bind_some _ _).symm.trans H; rw [hy326]; with_reducible exact H2_) | (have H2_ := (Option.bind_some _ _).symm.trans H; with_reducible exact H2_) | with_reducible exact H | (rw [hy326]; exact H) | exact H
              have Ny326 := Aside0.mk hy326
              clear hy326
              by_cases c15 : y326.length + x4_2.length < 140737488355328
              · rw [if_pos c15] at H
                have LMc15 := Aside0.mk c15
                clear c15
                obtain ⟨y329, hy329⟩ : ∃ y_ : List Int, y_ = (y326 ++ x4_2) := ⟨_, rfl⟩
                replace H : (spec_Identifier.l0 k2 x3_1 y329 (x5_2 / 128)) = some r := by first | (rw [hy329]; with_reducible exact H) | (have H2_ := (Option.bind_some _ _).symm.trans H; rw [hy329]; with_reducible exact H2_) | (have H2_ := (Option.bind_some _ _).symm.trans H; with_reducible exact H2_) | with_reducible exact H | (rw [hy329]; exact H) | exact H
                have Ny329 := Aside0.mk hy329
                clear hy329
                have H' := Aside0.mk H
                clear H
                go_wp2_with (first | ((with_reducible refine gate_dst (N := 39) rfl ?_); refine Kd.R_lit (Kd.int .u8) _ 5 ?hg (N := 39) ?hd (xs := ([Go.bits .or .u8 128 ((Go.bits .and .i64 x5_2 127) % 256)] : List Int)) (inner := [.int .u8 (Go.bits .or .u8 128 ((Go.bits .and .i64 x5_2 127) % 256))]) (ok := fun _ => True) (okp := fun _ => True) ?hr ?hp (fun _ hk => hk) trivial (Below.refl _ _) (Nat.le_refl _) (by simp) ?_; (case hd => rfl); (case hg => rfl); (case hr => first | (go_simp; done) | (go_simp; rfl)); (case hp => exact (Reps.one (show Kd.M (Kd.int .u8) _ _ _ (Go.bits .or .u8 128 ((Go.bits .and .i64 x5_2 127) % 256)) [.int .u8 (Go.bits .or .u8 128 ((Go.bits .and .i64 x5_2 127) % 256))] from rfl) (Reps.none _ _))); intro v327 w16 ho17 hb hg_ hnew_; clear hg_ hnew_; (first | rw [← Ny326.out] at ho17 | (simp only [Int.reduceToNat] at ho17; rw [← Ny326.out] at ho17)); have n0_ := Aside0.mk (Kd.R_elder' (by (with_reducible repeat (first | apply Kd.R_alloc | apply Kd.R_drewN | apply Kd.R_drew)); exact HO_4.out) (Kd.R_base ho17) hb); have n1_ := Aside0.mk (Kd.R_lower (Kd.R_new' ho17 (Kd.R_lt (by (with_reducible repeat (first | apply Kd.R_alloc | apply Kd.R_drewN | apply Kd.R_drew)); exact HO_4.out))) (below_size (by repeat (first | (with_reducible first | exact HB.out | apply below_alloc | apply pw_below_drewN | apply below_drew1 | refine below_set ?_ GE319.out) | exact HB.out)))); have n2_ := Aside0.mk (blk_below (g := gb319) (o := .cells #[.int .i64 a0_0, .int .i64 a0_1, .bool a0_2, .slice A0_3 l0_3.length c0_3, .slice A0_4 l0_4.length c0_4] 33 (0, 0)) (by (with_reducible repeat (first | refine blk_drewN ?_ _ | refine blk_drew ?_ | refine blk_alloc ?_ _)); exact BK319.out) hb); have n3_ := Aside0.mk (below_step (by repeat (first | (with_reducible first | exact HB.out | apply below_alloc | apply pw_below_drewN | apply below_drew1 | refine below_set ?_ GE319.out) | exact HB.out)) hb); clear HO_4; clear BK319; clear HB; have HO_4 := n0_; have HO328 := n1_; have BK319 := n2_; have HB := n3_; clear n0_ n1_ n2_ n3_; clear hb ho17; obtain ⟨Ao19, co19, eo19⟩ := Kd.R_slice HO_4.out; subst eo19) | ((with_reducible refine gate_builtin (b := .append) (xs := #[.tmp 39, .tmp 40]) rfl ?_); at_builtin; refine Kd.R_append_rows (Kd.int .u8) (w0 := w) w.heap.size rfl (.tmp 39) (.tmp 40) 24 5 (.int .u8 0) 1 rfl Tryd.underlying24 info5 rfl (by decide) (by omega) v327 y326 x4_2 _ _ _ (fun k_ => some k_ ≠ (.slice Ao19 x4_2.length co19 : Value).ownBlock) (fun _ => False) rfl rfl ?aO ?aR (fun _ _ h => h) (fun _ h => h.elim) ?aF ?aB ?aS ?aL ?_; (case aR => repeat (first | exact (Kd.R_reads' HO_4.out).2.2 | (with_reducible refine Kd.C_alloc ?_ _) | (with_reducible refine Kd.C_drewN ?_ _) | (with_reducible refine Kd.C_drew ?_))); (case aB => exact (by repeat (first | (with_reducible first | exact HB.out | apply below_alloc | apply pw_below_drewN | apply below_drew1 | refine below_set ?_ GE319.out) | exact HB.out))); (case aF => exact (fun k_ hk => Kd.fresh' (Kd.R_lt (by (with_reducible repeat (first | apply Kd.R_alloc | apply Kd.R_drewN | apply Kd.R_drew)); exact HO_4.out)) k_ hk)); (case aO => exact (by (with_reducible repeat (first | apply Kd.R_alloc | apply Kd.R_drewN | apply Kd.R_drew)); exact Kd.R_mono HO328.out (fun _ hk => hk.2))); (case aS => exact (below_size (by repeat (first | (with_reducible first | exact HB.out | apply below_alloc | apply pw_below_drewN | apply below_drew1 | refine below_set ?_ GE319.out) | exact HB.out)))); (case aL => have := LMc15.out; omega); intro v330 w18 ho hb hg hat; rw [← Ny329.out] at ho; have n0_ := Aside0.mk (Kd.R_after (ok := (fun _ => True)) (by (with_reducible repeat (first | apply Kd.R_alloc | apply Kd.R_drewN | apply Kd.R_drew)); exact HO_4.out) hg hat); have n1_ := Aside0.mk (blk_grown (g := gb319) (o := .cells #[.int .i64 a0_0, .int .i64 a0_1, .bool a0_2, .slice A0_3 l0_3.length c0_3, .slice A0_4 l0_4.length c0_4] 33 (0, 0)) (by (with_reducible repeat (first | refine blk_drewN ?_ _ | refine blk_drew ?_ | refine blk_alloc ?_ _)); exact BK319.out) hg (Kd.R_ne HO328.out BK319.out (by decide))); have n2_ := Aside0.mk (hb); have n3_ := Aside0.mk (ho); clear HO_4; clear BK319; clear HB; clear HO328; have HO_4 := n0_; have BK319 := n1_; have HB := n2_; have HO331 := n3_; clear n0_ n1_ n2_ n3_; clear ho hb hg hat))
                go_roundg k2
                case measure => have := HJ1.out; have := HK2.out; omega
                case rel => exact ⟨(y329), (x5_2 / 128), (by first | rfl | (simp; done) | (simp [*]; done)), H', ⟨by have := HJ1.out; have := HK2.out; omega⟩, ⟨by (with_reducible repeat (first | apply Kd.R_alloc | apply Kd.R_drewN | apply Kd.R_drew)); exact Kd.R_mono HO331.out (fun _ hk => trivial)⟩, ⟨by (with_reducible repeat (first | refine blk_drewN ?_ _ | refine blk_drew ?_ | refine blk_alloc ?_ _)); exact BK319.out⟩, ⟨by repeat (first | (with_reducible first | exact HB.out | apply below_alloc | apply pw_below_drewN | apply below_drew1 | refine below_set ?_ GE319.out) | exact HB.out)⟩⟩
              · rw [if_neg c15] at H
                exact absurd H (by simp)
            · rw [if_neg c14] at H
              have c14b0 : decide (0 < x5_2) = false := decide_eq_false c14
              clear c14
              obtain ⟨y332, hy332⟩ : ∃ y_ : List Int, y_ = (([Go.bits .or .u8 x3_1 31] : List Int)) := ⟨_, rfl⟩
              replace H : (if y332.length + x4_2.length < 140737488355328 then (some (y332 ++ x4_2)) else (none)) = some r := by first | (rw [hy332]; with_reducible exact H) | (have H2_ := (Option.bind_some _ _).symm.trans H; rw [hy332]; with_reducible exact H2_) | (have H2_ := (Option.bind_some _ _).symm.trans H; with_reducible exact H2_) | with_reducible exact H | (rw [hy332]; exact H) | exact H
              have Ny332 := Aside0.mk hy332
              clear hy332
              by_cases c20 : y332.length + x4_2.length < 140737488355328
              · rw [if_pos c20] at H
                have LMc20 := Aside0.mk c20
                clear c20
                obtain ⟨y335, hy335⟩ : ∃ y_ : List Int, y_ = (y332 ++ x4_2) := ⟨_, rfl⟩
                replace H : (some y335) = some r := by first | (rw [hy335]; with_reducible exact H) | (have H2_ := (Option.bind_some _ _).symm.trans H; rw [hy335]; with_reducible exact H2_) | (have H2_ := (Option.bind_some _ _).symm.trans H; with_reducible exact H2_) | with_reducible exact H | (rw [hy335]; exact H) | exact H
                have Ny335 := Aside0.mk hy335
                clear hy335
                obtain rfl := Option.some.inj H
                go_wp2_with (first | ((with_reducible refine gate_dst (N := 44) rfl ?_); refine Kd.R_lit (Kd.int .u8) _ 5 ?hg (N := 44) ?hd (xs := ([Go.bits .or .u8 x3_1 31] : List Int)) (inner := [.int .u8 (Go.bits .or .u8 x3_1 31)]) (ok := fun _ => True) (okp := fun _ => True) ?hr ?hp (fun _ hk => hk) trivial (Below.refl _ _) (Nat.le_refl _) (by simp) ?_; (case hd => rfl); (case hg => rfl); (case hr => first | (go_simp; done) | (go_simp; rfl)); (case hp => exact (Reps.one (show Kd.M (Kd.int .u8) _ _ _ (Go.bits .or .u8 x3_1 31) [.int .u8 (Go.bits .or .u8 x3_1 31)] from rfl) (Reps.none _ _))); intro v333 w21 ho22 hb hg_ hnew_; clear hg_ hnew_; (first | rw [← Ny332.out] at ho22 | (simp only [Int.reduceToNat] at ho22; rw [← Ny332.out] at ho22)); have n0_ := Aside0.mk (Kd.R_elder' (by (with_reducible repeat (first | apply Kd.R_alloc | apply Kd.R_drewN | apply Kd.R_drew)); exact HO_4.out) (Kd.R_base ho22) hb); have n1_ := Aside0.mk (Kd.R_lower (Kd.R_new' ho22 (Kd.R_lt (by (with_reducible repeat (first | apply Kd.R_alloc | apply Kd.R_drewN | apply Kd.R_drew)); exact HO_4.out))) (below_size (by repeat (first | (with_reducible first | exact HB.out | apply below_alloc | apply pw_below_drewN | apply below_drew1 | refine below_set ?_ GE319.out) | exact HB.out)))); have n2_ := Aside0.mk (blk_below (g := gb319) (o := .cells #[.int .i64 a0_0, .int .i64 a0_1, .bool a0_2, .slice A0_3 l0_3.length c0_3, .slice A0_4 l0_4.length c0_4] 33 (0, 0)) (by (with_reducible repeat (first | refine blk_drewN ?_ _ | refine blk_drew ?_ | refine blk_alloc ?_ _)); exact BK319.out) hb); have n3_ := Aside0.mk (below_step (by repeat (first | (with_reducible first | exact HB.out | apply below_alloc | apply pw_below_drewN | apply below_drew1 | refine below_set ?_ GE319.out) | exact HB.out)) hb); clear HO_4; clear BK319; clear HB; have HO_4 := n0_; have HO334 := n1_; have BK319 := n2_; have HB := n3_; clear n0_ n1_ n2_ n3_; clear hb ho22; obtain ⟨Ao24, co24, eo24⟩ := Kd.R_slice HO_4.out; subst eo24) | ((with_reducible refine gate_builtin (b := .append) (xs := #[.tmp 44, .tmp 45]) rfl ?_); at_builtin; refine Kd.R_append_rows (Kd.int .u8) (w0 := w) w.heap.size rfl (.tmp 44) (.tmp 45) 24 5 (.int .u8 0) 1 rfl Tryd.underlying24 info5 rfl (by decide) (by omega) v333 y332 x4_2 _ _ _ (fun k_ => some k_ ≠ (.slice Ao24 x4_2.length co24 : Value).ownBlock) (fun _ => False) rfl rfl ?aO ?aR (fun _ _ h => h) (fun _ h => h.elim) ?aF ?aB ?aS ?aL ?_; (case aR => repeat (first | exact (Kd.R_reads' HO_4.out).2.2 | (with_reducible refine Kd.C_alloc ?_ _) | (with_reducible refine Kd.C_drewN ?_ _) | (with_reducible refine Kd.C_drew ?_))); (case aB => exact (by repeat (first | (with_reducible first | exact HB.out | apply below_alloc | apply pw_below_drewN | apply below_drew1 | refine below_set ?_ GE319.out) | exact HB.out))); (case aF => exact (fun k_ hk => Kd.fresh' (Kd.R_lt (by (with_reducible repeat (first | apply Kd.R_alloc | apply Kd.R_drewN | apply Kd.R_drew)); exact HO_4.out)) k_ hk)); (case aO => exact (by (with_reducible repeat (first | apply Kd.R_alloc | apply Kd.R_drewN | apply Kd.R_drew)); exact Kd.R_mono HO334.out (fun _ hk => hk.2))); (case aS => exact (below_size (by repeat (first | (with_reducible first | exact HB.out | apply below_alloc | apply pw_below_drewN | apply below_drew1 | refine below_set ?_ GE319.out) | exact HB.out)))); (case aL => have := LMc20.out; omega); intro v336 w23 ho hb hg hat; rw [← Ny335.out] at ho; have n0_ := Aside0.mk (Kd.R_after (ok := (fun _ => True)) (by (with_reducible repeat (first | apply Kd.R_alloc | apply Kd.R_drewN | apply Kd.R_drew)); exact HO_4.out) hg hat); have n1_ := Aside0.mk (blk_grown (g := gb319) (o := .cells #[.int .i64 a0_0, .int .i64 a0_1, .bool a0_2, .slice A0_3 l0_3.length c0_3, .slice A0_4 l0_4.length c0_4] 33 (0, 0)) (by (with_reducible repeat (first | refine blk_drewN ?_ _ | refine blk_drew ?_ | refine blk_alloc ?_ _)); exact BK319.out) hg (Kd.R_ne HO334.out BK319.out (by decide))); have n2_ := Aside0.mk (hb); have n3_ := Aside0.mk (ho); clear HO_4; clear BK319; clear HB; clear HO334; have HO_4 := n0_; have BK319 := n1_; have HB := n2_; have HO337 := n3_; clear n0_ n1_ n2_ n3_; clear ho hb hg hat))
                go_ret
                exact ⟨_, by first | rfl | (simp [errW_none, errW_some] <;> rfl) | (simp [*, errW_none, errW_some] <;> rfl), by (with_reducible repeat (first | apply Kd.R_alloc | apply Kd.R_drewN | apply Kd.R_drew)); exact Kd.R_mono HO337.out (fun _ hk => trivial), by repeat (first | (with_reducible first | exact HB.out | apply below_alloc | apply pw_below_drewN | apply below_drew1 | refine below_set ?_ GE319.out) | exact HB.out)⟩
              · rw [if_neg c20] at H
                exact absurd H (by simp)

/-! ### spec_Length: function 90 -/
def spec_Length.l0 : Nat → Int → List Int → Option (List Int)
  | 0, _, _ => none
  | k + 1, x0, x3 => if x0 > 0 then ((some (([(x0) % 256] : List Int) : List Int)).bind fun y341 => (if y341.length + x3.length < 140737488355328 then (spec_Length.l0 k (x0 / 256) (y341 ++ x3)) else (none))) else ((some (([Go.bits .or .u8 128 (((x3.length : Int)) % 256)] : List Int) : List Int)).bind fun y347 => (if y347.length + x3.length < 140737488355328 then (some (y347 ++ x3)) else (none)))
def spec_Length.f (k : Nat) (a0 : Int) : Option (List Int) := if a0 < 128 then (some (([(a0) % 256] : List Int))) else (spec_Length.l0 k a0 ([] : List Int))
theorem spec_Length.mono_l : ∀ k, (∀ y0 y1, LeO (spec_Length.l0 k y0 y1) (spec_Length.l0 (k + 1) y0 y1))
  | 0 => fun _ _ r h => by simp [spec_Length.l0] at h
  | k + 1 => by
    have ih0 := spec_Length.mono_l k
    · intro y0 y1
      unfold spec_Length.l0
      repeat' first
      | (with_reducible exact ih0 _ _)
      | (with_reducible exact LeO.refl _)
      | (with_reducible exact LeO.none _)
      | (with_reducible refine LeO.ite ?_ ?_)
      | (with_reducible refine LeO.bind ?_ (fun _ => ?_))
      | exact ih0 _ _
      | exact LeO.none _
      | refine LeO.ite ?_ ?_
      | refine LeO.bind ?_ (fun _ => ?_)
theorem spec_Length.mono : ∀ a0 k, LeO (spec_Length.f k a0) (spec_Length.f (k + 1) a0) := by
  intro a0 k
  have ih0 := spec_Length.mono_l k
  unfold spec_Length.f
  repeat' first
      | (with_reducible exact ih0 _ _)
      | (with_reducible exact LeO.refl _)
      | (with_reducible exact LeO.none _)
      | (with_reducible refine LeO.ite ?_ ?_)
      | (with_reducible refine LeO.bind ?_ (fun _ => ?_))
      | exact ih0 _ _
      | exact LeO.none _
      | refine LeO.ite ?_ ?_
      | refine LeO.bind ?_ (fun _ => ?_)
set_option maxHeartbeats 8000000 in
set_option maxRecDepth 100000 in
theorem spec_Length.calls (k : Nat) (a0 : Int) (r : List Int) (w : World) (h : spec_Length.f k a0 = some r) :
    Calls Tryd.prog 90 #[.int .i64 a0] w fun e w' => ∃ v0_ : Value, e = .returned (v0_) ∧ Kd.R (Kd.int .u8) 5 w' w.heap.size (fun _ => True) v0_ r ∧ Below w.heap.size w w' := by
  have HB := Aside0.mk (Below.refl w.heap.size w)
  have H : (if a0 < 128 then (some (([(a0) % 256] : List Int))) else (spec_Length.l0 k a0 ([] : List Int))) = some r := h
  clear h
  by_cases c2 : a0 < 128
  · rw [if_pos c2] at H
    have c2b0 : decide (a0 < 128) = true := decide_eq_true c2
    clear c2
    obtain ⟨y338, hy338⟩ : ∃ y_ : List Int, y_ = (([(a0) % 256] : List Int)) := ⟨_, rfl⟩
    replace H : (some y338) = some r := by first | (rw [hy338]; with_reducible exact H) | (have H2_ := (Option.bind_some _ _).symm.trans H; rw [hy338]; with_reducible exact H2_) | (have H2_ := (Option.bind_some _ _).symm.trans H; with_reducible exact H2_) | with_reducible exact H | (rw [hy338]; exact H) | exact H
    have Ny338 := Aside0.mk hy338
    clear hy338
    obtain rfl := Option.some.inj H
    go_enter Tryd.func90, Tryd.ntmps90
    go_wp2_with (first | ((with_reducible refine gate_dst (N := 8) rfl ?_); refine Kd.R_lit (Kd.int .u8) _ 5 ?hg (N := 8) ?hd (xs := ([(a0) % 256] : List Int)) (inner := [.int .u8 ((a0) % 256)]) (ok := fun _ => True) (okp := fun _ => True) ?hr ?hp (fun _ hk => hk) trivial (Below.refl _ _) (Nat.le_refl _) (by simp) ?_; (case hd => rfl); (case hg => rfl); (case hr => first | (go_simp; done) | (go_simp; rfl)); (case hp => exact (Reps.one (show Kd.M (Kd.int .u8) _ _ _ ((a0) % 256) [.int .u8 ((a0) % 256)] from rfl) (Reps.none _ _))); intro v339 w3 ho4 hb hg_ hnew_; clear hg_ hnew_; (first | rw [← Ny338.out] at ho4 | (simp only [Int.reduceToNat] at ho4; rw [← Ny338.out] at ho4)); have n0_ := Aside0.mk (Kd.R_lower ho4 (below_size (by repeat (first | (with_reducible first | exact HB.out | apply below_alloc | apply pw_below_drewN | apply below_drew1) | exact HB.out)))); have n1_ := Aside0.mk (below_step (by repeat (first | (with_reducible first | exact HB.out | apply below_alloc | apply pw_below_drewN | apply below_drew1) | exact HB.out)) hb); clear HB; have HO340 := n0_; have HB := n1_; clear n0_ n1_; clear hb ho4))
    go_ret
    exact ⟨_, by first | rfl | (simp [errW_none, errW_some] <;> rfl) | (simp [*, errW_none, errW_some] <;> rfl), by (with_reducible repeat (first | apply Kd.R_alloc | apply Kd.R_drewN | apply Kd.R_drew)); exact HO340.out, by repeat (first | (with_reducible first | exact HB.out | apply below_alloc | apply pw_below_drewN | apply below_drew1) | exact HB.out)⟩
  · rw [if_neg c2] at H
    have c2b0 : decide (a0 < 128) = false := decide_eq_false c2
    clear c2
    have H' := Aside0.mk H
    clear H
    go_enter Tryd.func90, Tryd.ntmps90
    go_wp2
    go_loopg [0, 3] k (fun kq v0 v3 w' => ∃ (x0_1 : Int) (x3_1 : List Int), v0 = .int .i64 x0_1 ∧ Aside0 (spec_Length.l0 kq x0_1 x3_1 = some r) ∧ Aside0 (kq ≤ k) ∧ Aside0 (Kd.R (Kd.int .u8) 5 w' w.heap.size (fun _ => True) v3 x3_1) ∧ Aside0 (Below w.heap.size w w'))
    case atStart => exact ⟨(a0), (([] : List Int)), (by first | rfl | (simp; done) | (simp [*]; done)), H', ⟨Nat.le_refl _⟩, ⟨by first | exact Kd.R_nil _ _ _ _ _ | exact Kd.N_nil _ _ _ _ _ | exact Kd.V_nil _ _ _ _ _ | exact Kd.Q_nil _ _ _ _ _ | exact Kd.S_nil _ _ _ _ _⟩, ⟨by repeat (first | (with_reducible first | exact HB.out | apply below_alloc | apply pw_below_drewN | apply below_drew1) | exact HB.out)⟩⟩
    case round =>
      clear H'
      try clear c2
      try clear c2b0
      try clear p2
      obtain ⟨x0_1, x3_1, rfl, HA, HK1, HO_3, HB⟩ := hrel
      cases gk with
      | zero => exact absurd HA.out (by simp [spec_Length.l0])
      | succ k1 =>
        have H := HA.out
        clear HA
        simp only [spec_Length.l0] at H
        by_cases c5 : x0_1 > 0
        · rw [if_pos c5] at H
          have c5b0 : decide (0 < x0_1) = true := decide_eq_true c5
          clear c5
          obtain ⟨y341, hy341⟩ : ∃ y_ : List Int, y_ = (([(x0_1) % 256] : List Int)) := ⟨_, rfl⟩
          replace H : (if y341.length + x3_1.length < 140737488355328 then (spec_Length.l0 k1 (x0_1 / 256) (y341 ++ x3_1)) else (none)) = some r := by first | (rw [hy341]; with_reducible exact H) | (have H2_ := (Option.bind_some _ _).symm.trans H; rw [hy341]; with_reducible exact H2_) | (have H2_ := (Option.bind_some _ _).symm.trans H; with_reducible exact H2_) | with_reducible exact H | (rw [hy341]; exact H) | exact H
          have Ny341 := Aside0.mk hy341
          clear hy341
          by_cases c6 : y341.length + x3_1.length < 140737488355328
          · rw [if_pos c6] at H
            have LMc6 := Aside0.mk c6
            clear c6
            obtain ⟨y344, hy344⟩ : ∃ y_ : List Int, y_ = (y341 ++ x3_1) := ⟨_, rfl⟩
            replace H : (spec_Length.l0 k1 (x0_1 / 256) y344) = some r := by first | (rw [hy344]; with_reducible exact H) | (have H2_ := (Option.bind_some _ _).symm.trans H; rw [hy344]; with_reducible exact H2_) | (have H2_ := (Option.bind_some _ _).symm.trans H; with_reducible exact H2_) | with_reducible exact H | (rw [hy344]; exact H) | exact H
            have Ny344 := Aside0.mk hy344
            clear hy344
            have H' := Aside0.mk H
            clear H
            go_wp2_with (first | ((with_reducible refine gate_dst (N := 15) rfl ?_); refine Kd.R_lit (Kd.int .u8) _ 5 ?hg (N := 15) ?hd (xs := ([(x0_1) % 256] : List Int)) (inner := [.int .u8 ((x0_1) % 256)]) (ok := fun _ => True) (okp := fun _ => True) ?hr ?hp (fun _ hk => hk) trivial (Below.refl _ _) (Nat.le_refl _) (by simp) ?_; (case hd => rfl); (case hg => rfl); (case hr => first | (go_simp; done) | (go_simp; rfl)); (case hp => exact (Reps.one (show Kd.M (Kd.int .u8) _ _ _ ((x0_1) % 256) [.int .u8 ((x0_1) % 256)] from rfl) (Reps.none _ _))); intro v342 w7 ho8 hb hg_ hnew_; clear hg_ hnew_; (first | rw [← Ny341.out] at ho8 | (simp only [Int.reduceToNat] at ho8; rw [← Ny341.out] at ho8)); have n0_ := Aside0.mk (Kd.R_elder' (by (with_reducible repeat (first | apply Kd.R_alloc | apply Kd.R_drewN | apply Kd.R_drew)); exact HO_3.out) (Kd.R_base ho8) hb); have n1_ := Aside0.mk (Kd.R_lower (Kd.R_new' ho8 (Kd.R_lt (by (with_reducible repeat (first | apply Kd.R_alloc | apply Kd.R_drewN | apply Kd.R_drew)); exact HO_3.out))) (below_size (by repeat (first | (with_reducible first | exact HB.out | apply below_alloc | apply pw_below_drewN | apply below_drew1) | exact HB.out)))); have n2_ := Aside0.mk (below_step (by repeat (first | (with_reducible first | exact HB.out | apply below_alloc | apply pw_below_drewN | apply below_drew1) | exact HB.out)) hb); clear HO_3; clear HB; have HO_3 := n0_; have HO343 := n1_; have HB := n2_; clear n0_ n1_ n2_; clear hb ho8; obtain ⟨Ao10, co10, eo10⟩ := Kd.R_slice HO_3.out; subst eo10) | ((with_reducible refine gate_builtin (b := .append) (xs := #[.tmp 15, .tmp 16]) rfl ?_); at_builtin; refine Kd.R_append_rows (Kd.int .u8) (w0 := w) w.heap.size rfl (.tmp 15) (.tmp 16) 24 5 (.int .u8 0) 1 rfl Tryd.underlying24 info5 rfl (by decide) (by omega) v342 y341 x3_1 _ _ _ (fun k_ => some k_ ≠ (.slice Ao10 x3_1.length co10 : Value).ownBlock) (fun _ => False) rfl rfl ?aO ?aR (fun _ _ h => h) (fun _ h => h.elim) ?aF ?aB ?aS ?aL ?_; (case aR => repeat (first | exact (Kd.R_reads' HO_3.out).2.2 | (with_reducible refine Kd.C_alloc ?_ _) | (with_reducible refine Kd.C_drewN ?_ _) | (with_reducible refine Kd.C_drew ?_))); (case aB => exact (by repeat (first | (with_reducible first | exact HB.out | apply below_alloc | apply pw_below_drewN | apply below_drew1) | exact HB.out))); (case aF => exact (fun k_ hk => Kd.fresh' (Kd.R_lt (by (with_reducible repeat (first | apply Kd.R_alloc | apply Kd.R_drewN | apply Kd.R_drew)); exact HO_3.out)) k_ hk)); (case aO => exact (by (with_reducible repeat (first | apply Kd.R_alloc | apply Kd.R_drewN | apply Kd.R_drew)); exact Kd.R_mono HO343.out (fun _ hk => hk.2))); (case aS => exact (below_size (by repeat (first | (with_reducible first | exact HB.out | apply below_alloc | apply pw_below_drewN | apply below_drew1) | exact HB.out)))); (case aL => have := LMc6.out; omega); intro v345 w9 ho hb hg hat; rw [← Ny344.out] at ho; have n0_ := Aside0.mk (Kd.R_after (ok := (fun _ => True)) (by (with_reducible repeat (first | apply Kd.R_alloc | apply Kd.R_drewN | apply Kd.R_drew)); exact HO_3.out) hg hat); have n1_ := Aside0.mk (hb); have n2_ := Aside0.mk (ho); clear HO_3; clear HB; clear HO343; have HO_3 := n0_; have HB := n1_; have HO346 := n2_; clear n0_ n1_ n2_; clear ho hb hg hat))
            go_roundg k1
            case measure => have := HK1.out; omega
            case rel => exact ⟨(x0_1 / 256), (y344), (by first | rfl | (simp; done) | (simp [*]; done)), H', ⟨by have := HK1.out; omega⟩, ⟨by (with_reducible repeat (first | apply Kd.R_alloc | apply Kd.R_drewN | apply Kd.R_drew)); exact Kd.R_mono HO346.out (fun _ hk => trivial)⟩, ⟨by repeat (first | (with_reducible first | exact HB.out | apply below_alloc | apply pw_below_drewN | apply below_drew1) | exact HB.out)⟩⟩
          · rw [if_neg c6] at H
            exact absurd H (by simp)
        · rw [if_neg c5] at H
          have c5b0 : decide (0 < x0_1) = false := decide_eq_false c5
          clear c5
          obtain ⟨y347, hy347⟩ : ∃ y_ : List Int, y_ = (([Go.bits .or .u8 128 (((x3_1.length : Int)) % 256)] : List Int)) := ⟨_, rfl⟩
          replace H : (if y347.length + x3_1.length < 140737488355328 then (some (y347 ++ x3_1)) else (none)) = some r := by first | (rw [hy347]; with_reducible exact H) | (have H2_ := (Option.bind_some _ _).symm.trans H; rw [hy347]; with_reducible exact H2_) | (have H2_ := (Option.bind_some _ _).symm.trans H; with_reducible exact H2_) | with_reducible exact H | (rw [hy347]; exact H) | exact H
          have Ny347 := Aside0.mk hy347
          clear hy347
          by_cases c11 : y347.length + x3_1.length < 140737488355328
          · rw [if_pos c11] at H
            have LMc11 := Aside0.mk c11
            clear c11
            obtain ⟨y350, hy350⟩ : ∃ y_ : List Int, y_ = (y347 ++ x3_1) := ⟨_, rfl⟩
            replace H : (some y350) = some r := by first | (rw [hy350]; with_reducible exact H) | (have H2_ := (Option.bind_some _ _).symm.trans H; rw [hy350]; with_reducible exact H2_) | (have H2_ := (Option.bind_some _ _).symm.trans H; with_reducible exact H2_) | with_reducible exact H | (rw [hy350]; exact H) | exact H
            have Ny350 := Aside0.mk hy350
            clear hy350
            obtain rfl := Option.some.inj H
            obtain ⟨Ao12, co12, eo12⟩ := Kd.R_slice HO_3.out
            subst eo12
            go_wp2_with (first | ((with_reducible refine gate_dst (N := 22) rfl ?_); refine Kd.R_lit (Kd.int .u8) _ 5 ?hg (N := 22) ?hd (xs := ([Go.bits .or .u8 128 (((x3_1.length : Int)) % 256)] : List Int)) (inner := [.int .u8 (Go.bits .or .u8 128 (((x3_1.length : Int)) % 256))]) (ok := fun _ => True) (okp := fun _ => True) ?hr ?hp (fun _ hk => hk) trivial (Below.refl _ _) (Nat.le_refl _) (by simp) ?_; (case hd => rfl); (case hg => rfl); (case hr => first | (go_simp; done) | (go_simp; rfl)); (case hp => exact (Reps.one (show Kd.M (Kd.int .u8) _ _ _ (Go.bits .or .u8 128 (((x3_1.length : Int)) % 256)) [.int .u8 (Go.bits .or .u8 128 (((x3_1.length : Int)) % 256))] from rfl) (Reps.none _ _))); intro v348 w13 ho14 hb hg_ hnew_; clear hg_ hnew_; (first | rw [← Ny347.out] at ho14 | (simp only [Int.reduceToNat] at ho14; rw [← Ny347.out] at ho14)); have n0_ := Aside0.mk (Kd.R_elder' (by (with_reducible repeat (first | apply Kd.R_alloc | apply Kd.R_drewN | apply Kd.R_drew)); exact HO_3.out) (Kd.R_base ho14) hb); have n1_ := Aside0.mk (Kd.R_lower (Kd.R_new' ho14 (Kd.R_lt (by (with_reducible repeat (first | apply Kd.R_alloc | apply Kd.R_drewN | apply Kd.R_drew)); exact HO_3.out))) (below_size (by repeat (first | (with_reducible first | exact HB.out | apply below_alloc | apply pw_below_drewN | apply below_drew1) | exact HB.out)))); have n2_ := Aside0.mk (below_step (by repeat (first | (with_reducible first | exact HB.out | apply below_alloc | apply pw_below_drewN | apply below_drew1) | exact HB.out)) hb); clear HO_3; clear HB; have HO_3 := n0_; have HO349 := n1_; have HB := n2_; clear n0_ n1_ n2_; clear hb ho14) | ((with_reducible refine gate_builtin (b := .append) (xs := #[.tmp 22, .tmp 23]) rfl ?_); at_builtin; refine Kd.R_append_rows (Kd.int .u8) (w0 := w) w.heap.size rfl (.tmp 22) (.tmp 23) 24 5 (.int .u8 0) 1 rfl Tryd.underlying24 info5 rfl (by decide) (by omega) v348 y347 x3_1 _ _ _ (fun k_ => some k_ ≠ (.slice Ao12 x3_1.length co12 : Value).ownBlock) (fun _ => False) rfl rfl ?aO ?aR (fun _ _ h => h) (fun _ h => h.elim) ?aF ?aB ?aS ?aL ?_; (case aR => repeat (first | exact (Kd.R_reads' HO_3.out).2.2 | (with_reducible refine Kd.C_alloc ?_ _) | (with_reducible refine Kd.C_drewN ?_ _) | (with_reducible refine Kd.C_drew ?_))); (case aB => exact (by repeat (first | (with_reducible first | exact HB.out | apply below_alloc | apply pw_below_drewN | apply below_drew1) | exact HB.out))); (case aF => exact (fun k_ hk => Kd.fresh' (Kd.R_lt (by (with_reducible repeat (first | apply Kd.R_alloc | apply Kd.R_drewN | apply Kd.R_drew)); exact HO_3.out)) k_ hk)); (case aO => exact (by (with_reducible repeat (first | apply Kd.R_alloc | apply Kd.R_drewN | apply Kd.R_drew)); exact Kd.R_mono HO349.out (fun _ hk => hk.2))); (case aS => exact (below_size (by repeat (first | (with_reducible first | exact HB.out | apply below_alloc | apply pw_below_drewN | apply below_drew1) | exact HB.out)))); (case aL => have := LMc11.out; omega); intro v351 w15 ho hb hg hat; rw [← Ny350.out] at ho; have n0_ := Aside0.mk (Kd.R_after (ok := (fun _ => True)) (by (with_reducible repeat (first | apply Kd.R_alloc | apply Kd.R_drewN | apply Kd.R_drew)); exact HO_3.out) hg hat); have n1_ := Aside0.mk (hb); have n2_ := Aside0.mk (ho); clear HO_3; clear HB; clear HO349; have HO_3 := n0_; have HB := n1_; have HO352 := n2_; clear n0_ n1_ n2_; clear ho hb hg hat))
            go_ret
            exact ⟨_, by first | rfl | (simp [errW_none, errW_some] <;> rfl) | (simp [*, errW_none, errW_some] <;> rfl), by (with_reducible repeat (first | apply Kd.R_alloc | apply Kd.R_drewN | apply Kd.R_drew)); exact Kd.R_mono HO352.out (fun _ hk => trivial), by repeat (first | (with_reducible first | exact HB.out | apply below_alloc | apply pw_below_drewN | apply below_drew1) | exact HB.out)⟩
          · rw [if_neg c11] at H
            exact absurd H (by simp)

/-! ### spec_Bytes: function 64 -/
mutual
def spec_Bytes.l0 : Nat → List Int → List (S33) → Int → Int → Int → Int → Bool → List Int → List (S33) → Option (List Int)
  | 0, _, _, _, _, _, _, _, _, _ => none
  | k + 1, x3, x11, x12, x13, x354000, x354001, x354002, x354003, x354004 => if x13 < x12 then (if 0 ≤ x13 then (if x13 < (x11.length : Int) then ((spec_Bytes.f k ((rd_T33 x11 x13).f0) ((rd_T33 x11 x13).f1) ((rd_T33 x11 x13).f2) ((rd_T33 x11 x13).f3) ((rd_T33 x11 x13).f4)).bind fun t362 => (if x3.length + t362.length < 140737488355328 then (spec_Bytes.l0 k (x3 ++ t362) x11 x12 (wrap64 (x13 + 1)) x354000 x354001 x354002 x354003 x354004) else (none))) else (none)) else (none)) else ((spec_Identifier.f k x354000 x354001 x354002 x354003 x354004).bind fun t368 => ((spec_Length.f k (x3.length : Int)).bind fun t371 => (if t368.length + t371.length < 140737488355328 then ((some (t368 ++ t371 : List Int)).bind fun y374 => (if y374.length + x3.length < 140737488355328 then (some (y374 ++ x3)) else (none))) else (none))))
def spec_Bytes.f : Nat → Int → Int → Bool → List Int → List (S33) → Option (List Int)
  | 0, _, _, _, _, _ => none
  | k + 1, a0_0, a0_1, a0_2, l0_3, l0_4 => (some (([] : List Int) : List Int)).bind fun y354 => (if y354.length + l0_3.length < 140737488355328 then (spec_Bytes.l0 k (y354 ++ l0_3) l0_4 (l0_4.length : Int) 0 a0_0 a0_1 a0_2 l0_3 l0_4) else (none))
end
theorem spec_Bytes.mono_l : ∀ k, (∀ y0 y1 y2 y3 y4, LeO (spec_Bytes.f k y0 y1 y2 y3 y4) (spec_Bytes.f (k + 1) y0 y1 y2 y3 y4)) ∧ (∀ y0 y1 y2 y3 y4 y5 y6 y7 y8, LeO (spec_Bytes.l0 k y0 y1 y2 y3 y4 y5 y6 y7 y8) (spec_Bytes.l0 (k + 1) y0 y1 y2 y3 y4 y5 y6 y7 y8))
  | 0 => ⟨fun _ _ _ _ _ r h => by simp [spec_Bytes.f] at h, fun _ _ _ _ _ _ _ _ _ r h => by simp [spec_Bytes.l0] at h⟩
  | k + 1 => by
    obtain ⟨ih0, ih1⟩ := spec_Bytes.mono_l k
    refine ⟨?_, ?_⟩
    · intro y0 y1 y2 y3 y4
      unfold spec_Bytes.f
      repeat' first
      | (with_reducible exact ih0 _ _ _ _ _)
      | (with_reducible exact ih1 _ _ _ _ _ _ _ _ _)
      | (with_reducible exact spec_Identifier.mono _ _ _ _ _ _)
      | (with_reducible exact spec_Length.mono _ _)
      | (with_reducible exact LeO.refl _)
      | (with_reducible exact LeO.none _)
      | (with_reducible refine LeO.ite ?_ ?_)
      | (with_reducible refine LeO.bind ?_ (fun _ => ?_))
      | exact ih0 _ _ _ _ _
      | exact ih1 _ _ _ _ _ _ _ _ _
      | exact spec_Identifier.mono _ _ _ _ _ _
      | exact spec_Length.mono _ _
      | exact LeO.none _
      | refine LeO.ite ?_ ?_
      | refine LeO.bind ?_ (fun _ => ?_)
    · intro y0 y1 y2 y3 y4 y5 y6 y7 y8
      unfold spec_Bytes.l0
      repeat' first
      | (with_reducible exact ih0 _ _ _ _ _)
      | (with_reducible exact ih1 _ _ _ _ _ _ _ _ _)
      | (with_reducible exact spec_Identifier.mono _ _ _ _ _ _)
      | (with_reducible exact spec_Length.mono _ _)
      | (with_reducible exact LeO.refl _)
      | (with_reducible exact LeO.none _)
      | (with_reducible refine LeO.ite ?_ ?_)
      | (with_reducible refine LeO.bind ?_ (fun _ => ?_))
      | exact ih0 _ _ _ _ _
      | exact ih1 _ _ _ _ _ _ _ _ _
      | exact spec_Identifier.mono _ _ _ _ _ _
      | exact spec_Length.mono _ _
      | exact LeO.none _
      | refine LeO.ite ?_ ?_
      | refine LeO.bind ?_ (fun _ => ?_)
theorem spec_Bytes.mono : ∀ a0 a1 a2 a3 a4 k, LeO (spec_Bytes.f k a0 a1 a2 a3 a4) (spec_Bytes.f (k + 1) a0 a1 a2 a3 a4) := by
  intro a0 a1 a2 a3 a4 k
  obtain ⟨ih0, ih1⟩ := spec_Bytes.mono_l k
  exact ih0 a0 a1 a2 a3 a4
set_option maxHeartbeats 8000000 in
set_option maxRecDepth 100000 in
theorem spec_Bytes.calls (k : Nat) : ∀ (a0_0 : Int) (a0_1 : Int) (a0_2 : Bool) (A0_3 : Option Addr) (c0_3 : Nat) (l0_3 : List Int) (A0_4 : Option Addr) (c0_4 : Nat) (l0_4 : List (S33)) (r : List Int) (w : World) (hr0_3 : Kd.C (Kd.int .u8) w A0_3 l0_3.length l0_3) (hc0_3 : l0_3.length ≤ c0_3) (hr0_4 : Kd.C k33 w A0_4 l0_4.length l0_4) (hc0_4 : l0_4.length ≤ c0_4) (h : spec_Bytes.f k a0_0 a0_1 a0_2 l0_3 l0_4 = some r),
    Calls Tryd.prog 64 #[.agg #[.int .i64 a0_0, .int .i64 a0_1, .bool a0_2, .slice A0_3 l0_3.length c0_3, .slice A0_4 l0_4.length c0_4]] w fun e w' => ∃ v0_ : Value, e = .returned (v0_) ∧ Kd.R (Kd.int .u8) 5 w' w.heap.size (fun _ => True) v0_ r ∧ Below w.heap.size w w' := by
  induction k using Nat.strongRecOn with
  | _ k ih =>
  intro a0_0 a0_1 a0_2 A0_3 c0_3 l0_3 A0_4 c0_4 l0_4 r w hr0_3 hc0_3 hr0_4 hc0_4 h
  cases k with
  | zero => exact absurd h (by simp [spec_Bytes.f])
  | succ k =>
  simp only [spec_Bytes.f] at h
  have hu33 := Tryd.underlying33
  have HR0_3 := Aside0.mk hr0_3
  have HC0_3 := Aside0.mk hc0_3
  clear hr0_3 hc0_3
  have HR0_4 := Aside0.mk hr0_4
  have HC0_4 := Aside0.mk hc0_4
  clear hr0_4 hc0_4
  have HB := Aside0.mk (Below.refl w.heap.size w)
  have H : ((some (([] : List Int) : List Int)).bind fun y354 => (if y354.length + l0_3.length < 140737488355328 then (spec_Bytes.l0 k (y354 ++ l0_3) l0_4 (l0_4.length : Int) 0 a0_0 a0_1 a0_2 l0_3 l0_4) else (none))) = some r := h
  clear h
  obtain ⟨y354, hy354⟩ : ∃ y_ : List Int, y_ = (([] : List Int)) := ⟨_, rfl⟩
  replace H : (if y354.length + l0_3.length < 140737488355328 then (spec_Bytes.l0 k (y354 ++ l0_3) l0_4 (l0_4.length : Int) 0 a0_0 a0_1 a0_2 l0_3 l0_4) else (none)) = some r := by first | (rw [hy354]; with_reducible exact H) | (have H2_ := (Option.bind_some _ _).symm.trans H; rw [hy354]; with_reducible exact H2_) | (have H2_ := (Option.bind_some _ _).symm.trans H; with_reducible exact H2_) | with_reducible exact H | (rw [hy354]; exact H) | exact H
  have Ny354 := Aside0.mk hy354
  clear hy354
  by_cases c2 : y354.length + l0_3.length < 140737488355328
  · rw [if_pos c2] at H
    have LMc2 := Aside0.mk c2
    clear c2
    obtain ⟨y357, hy357⟩ : ∃ y_ : List Int, y_ = (y354 ++ l0_3) := ⟨_, rfl⟩
    replace H : (spec_Bytes.l0 k y357 l0_4 (l0_4.length : Int) 0 a0_0 a0_1 a0_2 l0_3 l0_4) = some r := by first | (rw [hy357]; with_reducible exact H) | (have H2_ := (Option.bind_some _ _).symm.trans H; rw [hy357]; with_reducible exact H2_) | (have H2_ := (Option.bind_some _ _).symm.trans H; with_reducible exact H2_) | with_reducible exact H | (rw [hy357]; exact H) | exact H
    have Ny357 := Aside0.mk hy357
    clear hy357
    have H' := Aside0.mk H
    clear H
    go_enter Tryd.func64, Tryd.ntmps64
    go_wp2_with (first | ((with_reducible refine gate_dst (N := 1) rfl ?_); refine box_event ?hg (N := 1) ?hd (cs := #[.int .i64 a0_0, .int .i64 a0_1, .bool a0_2, .slice A0_3 l0_3.length c0_3, .slice A0_4 l0_4.length c0_4]) (t := 33) ?hr ?_; (case hd => rfl); (case hg => rfl); (case hr => first | (go_simp; done) | (go_simp; rfl)); intro gb353 hg w3 hbox hb; have n0_ := Aside0.mk (below_step (by repeat (first | (with_reducible first | exact HB.out | apply below_alloc | apply pw_below_drewN | apply below_drew1) | exact HB.out)) hb); have n1_ := Aside0.mk (hbox); have n2_ := Aside0.mk ((by rw [hg]; exact (below_size (by repeat (first | (with_reducible first | exact HB.out | apply below_alloc | apply pw_below_drewN | apply below_drew1) | exact HB.out))) : w.heap.size ≤ gb353)); have n3_ := Aside0.mk ((by rw [hg]; exact (below_size (by repeat (first | (with_reducible first | exact HB.out | apply below_alloc | apply pw_below_drewN | apply below_drew1) | exact HB.out))) : w.heap.size ≤ gb353)); clear HB; have HB := n0_; have BK353 := n1_; have GW353 := n2_; have GE353 := n3_; clear n0_ n1_ n2_ n3_; clear hb hbox hg) | ((with_reducible refine gate_dst (N := 6) rfl ?_); refine Kd.R_lit (Kd.int .u8) _ 5 ?hg (N := 6) ?hd (xs := ([] : List Int)) (inner := []) (ok := fun _ => True) (okp := fun _ => True) ?hr ?hp (fun _ hk => hk) trivial (Below.refl _ _) (Nat.le_refl _) (by simp) ?_; (case hd => rfl); (case hg => rfl); (case hr => first | (go_simp; done) | (go_simp; rfl)); (case hp => exact (Reps.none _ _)); intro v355 w4 ho5 hb hg_ hnew_; clear hg_ hnew_; (first | rw [← Ny354.out] at ho5 | (simp only [Int.reduceToNat] at ho5; rw [← Ny354.out] at ho5)); have n0_ := Aside0.mk (Kd.R_lower ho5 (below_size (by repeat (first | (with_reducible first | exact HB.out | apply below_alloc | apply pw_below_drewN | apply below_drew1 | refine below_set ?_ GE353.out) | exact HB.out)))); have n1_ := Aside0.mk (blk_below (g := gb353) (o := .cells #[.int .i64 a0_0, .int .i64 a0_1, .bool a0_2, .slice A0_3 l0_3.length c0_3, .slice A0_4 l0_4.length c0_4] 33 (0, 0)) (by (with_reducible repeat (first | refine blk_drewN ?_ _ | refine blk_drew ?_ | refine blk_alloc ?_ _)); exact BK353.out) hb); have n2_ := Aside0.mk (below_step (by repeat (first | (with_reducible first | exact HB.out | apply below_alloc | apply pw_below_drewN | apply below_drew1 | refine below_set ?_ GE353.out) | exact HB.out)) hb); clear BK353; clear HB; have HO356 := n0_; have BK353 := n1_; have HB := n2_; clear n0_ n1_ n2_; clear hb ho5; have hcz6_0 : w4.cell? ⟨gb353, 0, none⟩ = some (.int .i64 a0_0) := (blk_cell BK353.out 0).trans rfl; have hcz6_1 : w4.cell? ⟨gb353, 1, none⟩ = some (.int .i64 a0_1) := (blk_cell BK353.out 1).trans rfl; have hcz6_2 : w4.cell? ⟨gb353, 2, none⟩ = some (.bool a0_2) := (blk_cell BK353.out 2).trans rfl; have hcz6_3 : w4.cell? ⟨gb353, 3, none⟩ = some (.slice A0_3 l0_3.length c0_3) := (blk_cell BK353.out 3).trans rfl; have hcz6_4 : w4.cell? ⟨gb353, 4, none⟩ = some (.slice A0_4 l0_4.length c0_4) := (blk_cell BK353.out 4).trans rfl; have hfz6_0 := blk_frozen BK353.out 0; have hfz6_1 := blk_frozen BK353.out 1; have hfz6_2 := blk_frozen BK353.out 2; have hfz6_3 := blk_frozen BK353.out 3; have hfz6_4 := blk_frozen BK353.out 4) | ((with_reducible refine gate_builtin (b := .append) (xs := #[.tmp 6, .tmp 8]) rfl ?_); at_builtin; refine Kd.R_append_rows (Kd.int .u8) (w0 := w) w.heap.size rfl (.tmp 6) (.tmp 8) 24 5 (.int .u8 0) 1 rfl Tryd.underlying24 info5 rfl (by decide) (by omega) v355 y354 l0_3 _ _ _ (fun _ => True) (fun _ => False) rfl rfl ?aO ?aR (fun _ _ h => h) (fun _ h => h.elim) ?aF ?aB ?aS ?aL ?_; (case aR => repeat (first | exact (Kd.C_below HR0_3.out HB.out) | (with_reducible refine Kd.C_alloc ?_ _) | (with_reducible refine Kd.C_drewN ?_ _) | (with_reducible refine Kd.C_drew ?_))); (case aB => exact (by repeat (first | (with_reducible first | exact HB.out | apply below_alloc | apply pw_below_drewN | apply below_drew1 | refine below_set ?_ GE353.out) | exact HB.out))); (case aF => exact (fun _ _ => trivial)); (case aO => exact (by (with_reducible repeat (first | apply Kd.R_alloc | apply Kd.R_drewN | apply Kd.R_drew)); exact HO356.out)); (case aS => exact (below_size (by repeat (first | (with_reducible first | exact HB.out | apply below_alloc | apply pw_below_drewN | apply below_drew1 | refine below_set ?_ GE353.out) | exact HB.out)))); (case aL => have := LMc2.out; omega); intro v358 w7 ho hb hg hat; rw [← Ny357.out] at ho; have n0_ := Aside0.mk (blk_grown (g := gb353) (o := .cells #[.int .i64 a0_0, .int .i64 a0_1, .bool a0_2, .slice A0_3 l0_3.length c0_3, .slice A0_4 l0_4.length c0_4] 33 (0, 0)) (by (with_reducible repeat (first | refine blk_drewN ?_ _ | refine blk_drew ?_ | refine blk_alloc ?_ _)); exact BK353.out) hg (Kd.R_ne HO356.out BK353.out (by decide))); have n1_ := Aside0.mk (hb); have n2_ := Aside0.mk (ho); clear BK353; clear HB; clear HO356; have BK353 := n0_; have HB := n1_; have HO359 := n2_; clear n0_ n1_ n2_; clear ho hb hg hat; have hcz8_0 : w7.cell? ⟨gb353, 0, none⟩ = some (.int .i64 a0_0) := (blk_cell BK353.out 0).trans rfl; have hcz8_1 : w7.cell? ⟨gb353, 1, none⟩ = some (.int .i64 a0_1) := (blk_cell BK353.out 1).trans rfl; have hcz8_2 : w7.cell? ⟨gb353, 2, none⟩ = some (.bool a0_2) := (blk_cell BK353.out 2).trans rfl; have hcz8_3 : w7.cell? ⟨gb353, 3, none⟩ = some (.slice A0_3 l0_3.length c0_3) := (blk_cell BK353.out 3).trans rfl; have hcz8_4 : w7.cell? ⟨gb353, 4, none⟩ = some (.slice A0_4 l0_4.length c0_4) := (blk_cell BK353.out 4).trans rfl; have hfz8_0 := blk_frozen BK353.out 0; have hfz8_1 := blk_frozen BK353.out 1; have hfz8_2 := blk_frozen BK353.out 2; have hfz8_3 := blk_frozen BK353.out 3; have hfz8_4 := blk_frozen BK353.out 4))
    go_loopg [3, 13] k (fun kq v3 v13 w' => ∃ (x3_1 : List Int) (x13_1 : Int), v13 = .int .i64 x13_1 ∧ Aside0 (spec_Bytes.l0 kq x3_1 l0_4 (l0_4.length : Int) x13_1 a0_0 a0_1 a0_2 l0_3 l0_4 = some r) ∧ Aside0 (kq ≤ k) ∧ Aside0 (Kd.R (Kd.int .u8) 5 w' w.heap.size (fun _ => True) v3 x3_1) ∧ Aside0 (w'.heap[gb353]? = some (.cells #[.int .i64 a0_0, .int .i64 a0_1, .bool a0_2, (.slice A0_3 l0_3.length c0_3), (.slice A0_4 l0_4.length c0_4)] 33 (0, 0))) ∧ Aside0 (Below w.heap.size w w'))
    case atStart => exact ⟨(y357), (0), (by first | rfl | (simp; done) | (simp [*]; done)), H', ⟨Nat.le_refl _⟩, ⟨by (with_reducible repeat (first | apply Kd.R_alloc | apply Kd.R_drewN | apply Kd.R_drew)); exact HO359.out⟩, ⟨by (with_reducible repeat (first | refine blk_drewN ?_ _ | refine blk_drew ?_ | refine blk_alloc ?_ _)); exact BK353.out⟩, ⟨by repeat (first | (with_reducible first | exact HB.out | apply below_alloc | apply pw_below_drewN | apply below_drew1 | refine below_set ?_ GE353.out) | exact HB.out)⟩⟩
    case round =>
      clear H'
      try clear c2
      try clear p2
      try clear c6
      try clear hcz6_0
      try clear hcz6_1
      try clear hcz6_2
      try clear hcz6_3
      try clear hcz6_4
      try clear hcz8_0
      try clear hcz8_1
      try clear hcz8_2
      try clear hcz8_3
      try clear hcz8_4
      try clear hfz6_0
      try clear hfz6_1
      try clear hfz6_2
      try clear hfz6_3
      try clear hfz6_4
      try clear hfz8_0
      try clear hfz8_1
      try clear hfz8_2
      try clear hfz8_3
      try clear hfz8_4
      obtain ⟨x3_1, x13_1, rfl, HA, HK1, HO_3, BK353, HB⟩ := hrel
      cases gk with
      | zero => exact absurd HA.out (by simp [spec_Bytes.l0])
      | succ k1 =>
        have H := HA.out
        clear HA
        simp only [spec_Bytes.l0] at H
        by_cases c9 : x13_1 < (l0_4.length : Int)
        · rw [if_pos c9] at H
          have c9b0 : decide (x13_1 < (l0_4.length : Int)) = true := decide_eq_true c9
          clear c9
          by_cases c10 : 0 ≤ x13_1
          · rw [if_pos c10] at H
            have c10b0 : decide (0 ≤ x13_1) = true := decide_eq_true c10
            clear c10
            by_cases c11 : x13_1 < (l0_4.length : Int)
            · rw [if_pos c11] at H
              have c11b0 : decide (x13_1 < (l0_4.length : Int)) = true := decide_eq_true c11
              clear c11
              replace H := Option.bind_eq_some_iff.mp H
              obtain ⟨t362, A120, H⟩ := H
              replace H : (if x3_1.length + t362.length < 140737488355328 then (spec_Bytes.l0 k1 (x3_1 ++ t362) l0_4 (l0_4.length : Int) (wrap64 (x13_1 + 1)) a0_0 a0_1 a0_2 l0_3 l0_4) else (none)) = some r := H
              have A12 := Aside0.mk A120
              clear A120
              by_cases c13 : x3_1.length + t362.length < 140737488355328
              · rw [if_pos c13] at H
                have LMc13 := Aside0.mk c13
                clear c13
                obtain ⟨y365, hy365⟩ : ∃ y_ : List Int, y_ = (x3_1 ++ t362) := ⟨_, rfl⟩
                replace H : (spec_Bytes.l0 k1 y365 l0_4 (l0_4.length : Int) (wrap64 (x13_1 + 1)) a0_0 a0_1 a0_2 l0_3 l0_4) = some r := by first | (rw [hy365]; with_reducible exact H) | (have H2_ := (Option.bind_some _ _).symm.trans H; rw [hy365]; with_reducible exact H2_) | (have H2_ := (Option.bind_some _ _).symm.trans H; with_reducible exact H2_) | with_reducible exact H | (rw [hy365]; exact H) | exact H
                have Ny365 := Aside0.mk hy365
                clear hy365
                have H' := Aside0.mk H
                clear H
                have p360 : 0 ≤ (x13_1 : Int) := of_decide_eq_true (by first | (with_reducible assumption) | assumption)
                have q360 : x13_1 < (l0_4.length : Int) := of_decide_eq_true (by first | (with_reducible assumption) | assumption)
                obtain ⟨ad360, A360_3, c360_3, A360_4, c360_4, e360, hx360_0, hx360_1, hx360_2, hx360_3, hx360_4, hl360_3, hi360_3, hl360_4, hi360_4⟩ := at_T33 HR0_4.out x13_1 p360 q360
                cases e360
                replace hx360_0 := (HB.out.cell (World.block_lt_of_cell? w _ hx360_0)).trans hx360_0
                replace hx360_1 := (HB.out.cell (World.block_lt_of_cell? w _ hx360_1)).trans hx360_1
                replace hx360_2 := (HB.out.cell (World.block_lt_of_cell? w _ hx360_2)).trans hx360_2
                replace hx360_3 := (HB.out.cell (World.block_lt_of_cell? w _ hx360_3)).trans hx360_3
                replace hx360_4 := (HB.out.cell (World.block_lt_of_cell? w _ hx360_4)).trans hx360_4
                have HR360_3 := Aside0.mk hi360_3
                have HC360_3 := Aside0.mk hl360_3
                clear hi360_3 hl360_3
                have HR360_4 := Aside0.mk hi360_4
                have HC360_4 := Aside0.mk hl360_4
                clear hi360_4 hl360_4
                replace p360 := eq_true p360
                replace q360 := eq_true q360
                go_wp2_with (first | ((with_reducible refine gate_dst (N := 5) rfl ?_); refine box_event ?hg (N := 5) ?hd (cs := #[.int .i64 0, .int .i64 0, .bool false, .slice none 0 0, .slice none 0 0]) (t := 33) ?hr ?_; (case hd => rfl); (case hg => rfl); (case hr => first | (go_simp; done) | (go_simp; rfl)); intro gb361 hg w14 hbox hb; have n0_ := Aside0.mk (Kd.R_below (by (with_reducible repeat (first | apply Kd.R_alloc | apply Kd.R_drewN | apply Kd.R_drew)); exact HO_3.out) hb); have n1_ := Aside0.mk (blk_below (g := gb353) (o := .cells #[.int .i64 a0_0, .int .i64 a0_1, .bool a0_2, .slice A0_3 l0_3.length c0_3, .slice (some ad360) l0_4.length c0_4] 33 (0, 0)) (by (with_reducible repeat (first | refine blk_drewN ?_ _ | refine blk_drew ?_ | refine blk_alloc ?_ _)); exact BK353.out) hb); have n2_ := Aside0.mk (below_step (by repeat (first | (with_reducible first | exact HB.out | apply below_alloc | apply pw_below_drewN | apply below_drew1 | refine below_set ?_ GE353.out) | exact HB.out)) hb); have n3_ := Aside0.mk (hbox); have n4_ := Aside0.mk ((by rw [hg]; exact (below_size (by repeat (first | (with_reducible first | exact HB.out | apply below_alloc | apply pw_below_drewN | apply below_drew1 | refine below_set ?_ GE353.out) | exact HB.out))) : w.heap.size ≤ gb361)); have n5_ := Aside0.mk ((by rw [hg]; exact (below_size (by repeat (first | (with_reducible first | exact HB.out | apply below_alloc | apply pw_below_drewN | apply below_drew1 | refine below_set ?_ GE353.out) | exact HB.out))) : w.heap.size ≤ gb361)); have n6_ := Aside0.mk ((by rw [hg]; exact Nat.ne_of_lt (blk_lt (g := gb353) (o := .cells #[.int .i64 a0_0, .int .i64 a0_1, .bool a0_2, .slice A0_3 l0_3.length c0_3, .slice (some ad360) l0_4.length c0_4] 33 (0, 0)) (by (with_reducible repeat (first | refine blk_drewN ?_ _ | refine blk_drew ?_ | refine blk_alloc ?_ _)); exact BK353.out)) : gb353 ≠ gb361)); have n7_ := Aside0.mk ((by rw [hg]; exact Nat.ne_of_gt (blk_lt (g := gb353) (o := .cells #[.int .i64 a0_0, .int .i64 a0_1, .bool a0_2, .slice A0_3 l0_3.length c0_3, .slice (some ad360) l0_4.length c0_4] 33 (0, 0)) (by (with_reducible repeat (first | refine blk_drewN ?_ _ | refine blk_drew ?_ | refine blk_alloc ?_ _)); exact BK353.out)) : gb361 ≠ gb353)); clear HO_3; clear BK353; clear HB; have HO_3 := n0_; have BK353 := n1_; have HB := n2_; have BK361 := n3_; have GW361 := n4_; have GE361 := n5_; have NB353_361 := n6_; have NB361_353 := n7_; clear n0_ n1_ n2_ n3_ n4_ n5_ n6_ n7_; clear hb hbox hg; have hnb15 := NB361_353.out; have hnc15 := NB353_361.out; have hcz16_0 : w14.cell? ⟨gb361, 0, none⟩ = some (.int .i64 0) := (blk_cell BK361.out 0).trans rfl; have hcz16_1 : w14.cell? ⟨gb361, 1, none⟩ = some (.int .i64 0) := (blk_cell BK361.out 1).trans rfl; have hcz16_2 : w14.cell? ⟨gb361, 2, none⟩ = some (.bool false) := (blk_cell BK361.out 2).trans rfl; have hcz16_3 : w14.cell? ⟨gb361, 3, none⟩ = some (.slice none 0 0) := (blk_cell BK361.out 3).trans rfl; have hcz16_4 : w14.cell? ⟨gb361, 4, none⟩ = some (.slice none 0 0) := (blk_cell BK361.out 4).trans rfl; have hfz16_0 := blk_frozen BK361.out 0; have hfz16_1 := blk_frozen BK361.out 1; have hfz16_2 := blk_frozen BK361.out 2; have hfz16_3 := blk_frozen BK361.out 3; have hfz16_4 := blk_frozen BK361.out 4) | ((with_reducible refine gate_callee (f := 64) rfl ?_); refine goesL_ (some 19) rfl rfl Tryd.func64 (by kernel_rfl) rfl #[.agg #[.int .i64 ((rd_T33 l0_4 x13_1).f0), .int .i64 ((rd_T33 l0_4 x13_1).f1), .bool ((rd_T33 l0_4 x13_1).f2), .slice A360_3 ((rd_T33 l0_4 x13_1).f3).length c360_3, .slice A360_4 ((rd_T33 l0_4 x13_1).f4).length c360_4]] rfl (by (try simp only [List.map_toArray, List.map_cons, List.map_nil]); first | done | rfl | (simp only [List.length_drop, List.length_take]; rfl)) ?_; (with_reducible refine (ih k1 (by have := HK1.out; omega) ((rd_T33 l0_4 x13_1).f0) ((rd_T33 l0_4 x13_1).f1) ((rd_T33 l0_4 x13_1).f2) _ _ ((rd_T33 l0_4 x13_1).f3) _ _ ((rd_T33 l0_4 x13_1).f4) t362 _ ?side1 ?side2 ?side3 ?side4 A12.out).mono ?_); (case side1 => exact Kd.C_below HR360_3.out (by repeat (first | (with_reducible first | exact HB.out | apply below_alloc | apply pw_below_drewN | apply below_drew1 | refine below_set ?_ GE353.out | refine below_set ?_ GE361.out) | exact HB.out))); (case side2 => exact HC360_3.out); (case side3 => exact Kd.C_below HR360_4.out (by repeat (first | (with_reducible first | exact HB.out | apply below_alloc | apply pw_below_drewN | apply below_drew1 | refine below_set ?_ GE353.out | refine below_set ?_ GE361.out) | exact HB.out))); (case side4 => exact HC360_4.out); rintro e w17 ⟨v363, rfl, ho0, hb⟩; refine ⟨_, rfl, ?_⟩; have n0_ := Aside0.mk (Kd.R_elder' (by (with_reducible repeat (first | apply Kd.R_alloc | apply Kd.R_drewN | apply Kd.R_drew)); exact (Kd.R_mono (Kd.R_far (p := ⟨gb361, 4, none⟩) (Kd.R_far (p := ⟨gb361, 3, none⟩) (Kd.R_far (p := ⟨gb361, 2, none⟩) (Kd.R_far (p := ⟨gb361, 1, none⟩) (Kd.R_far (p := ⟨gb361, 0, none⟩) (Kd.R_types HO_3.out BK361.out (by decide)) (fun _ hk => hk.2) (.int .i64 ((rd_T33 l0_4 x13_1).f0))) (fun _ hk => hk.2) (.int .i64 ((rd_T33 l0_4 x13_1).f1))) (fun _ hk => hk.2) (.bool ((rd_T33 l0_4 x13_1).f2))) (fun _ hk => hk.2) (.slice A360_3 ((rd_T33 l0_4 x13_1).f3).length c360_3)) (fun _ hk => hk.2) (.slice A360_4 ((rd_T33 l0_4 x13_1).f4).length c360_4)) (fun _ h_ => h_.1))) (Kd.R_base ho0) hb); have n1_ := Aside0.mk (Kd.R_lower (Kd.R_new' ho0 (Kd.R_lt (by (with_reducible repeat (first | apply Kd.R_alloc | apply Kd.R_drewN | apply Kd.R_drew)); exact (Kd.R_mono (Kd.R_far (p := ⟨gb361, 4, none⟩) (Kd.R_far (p := ⟨gb361, 3, none⟩) (Kd.R_far (p := ⟨gb361, 2, none⟩) (Kd.R_far (p := ⟨gb361, 1, none⟩) (Kd.R_far (p := ⟨gb361, 0, none⟩) (Kd.R_types HO_3.out BK361.out (by decide)) (fun _ hk => hk.2) (.int .i64 ((rd_T33 l0_4 x13_1).f0))) (fun _ hk => hk.2) (.int .i64 ((rd_T33 l0_4 x13_1).f1))) (fun _ hk => hk.2) (.bool ((rd_T33 l0_4 x13_1).f2))) (fun _ hk => hk.2) (.slice A360_3 ((rd_T33 l0_4 x13_1).f3).length c360_3)) (fun _ hk => hk.2) (.slice A360_4 ((rd_T33 l0_4 x13_1).f4).length c360_4)) (fun _ h_ => h_.1))))) (below_size (by repeat (first | (with_reducible first | exact HB.out | apply below_alloc | apply pw_below_drewN | apply below_drew1 | refine below_set ?_ GE353.out | refine below_set ?_ GE361.out) | exact HB.out)))); have n2_ := Aside0.mk (blk_below (g := gb353) (o := .cells #[.int .i64 a0_0, .int .i64 a0_1, .bool a0_2, .slice A0_3 l0_3.length c0_3, .slice (some ad360) l0_4.length c0_4] 33 (0, 0)) (by (with_reducible repeat (first | refine blk_drewN ?_ _ | refine blk_drew ?_ | refine blk_alloc ?_ _)); refine blk_far ?_ NB353_361.out _; (with_reducible repeat (first | refine blk_drewN ?_ _ | refine blk_drew ?_ | refine blk_alloc ?_ _)); refine blk_far ?_ NB353_361.out _; (with_reducible repeat (first | refine blk_drewN ?_ _ | refine blk_drew ?_ | refine blk_alloc ?_ _)); refine blk_far ?_ NB353_361.out _; (with_reducible repeat (first | refine blk_drewN ?_ _ | refine blk_drew ?_ | refine blk_alloc ?_ _)); refine blk_far ?_ NB353_361.out _; (with_reducible repeat (first | refine blk_drewN ?_ _ | refine blk_drew ?_ | refine blk_alloc ?_ _)); refine blk_far ?_ NB353_361.out _; (with_reducible repeat (first | refine blk_drewN ?_ _ | refine blk_drew ?_ | refine blk_alloc ?_ _)); exact BK353.out) hb); have n3_ := Aside0.mk (blk_below (g := gb361) (o := .cells #[.int .i64 ((rd_T33 l0_4 x13_1).f0), .int .i64 ((rd_T33 l0_4 x13_1).f1), .bool ((rd_T33 l0_4 x13_1).f2), .slice A360_3 ((rd_T33 l0_4 x13_1).f3).length c360_3, .slice A360_4 ((rd_T33 l0_4 x13_1).f4).length c360_4] 33 (0, 0)) (by (with_reducible repeat (first | refine blk_drewN ?_ _ | refine blk_drew ?_ | refine blk_alloc ?_ _)); refine blk_put (cs := #[.int .i64 ((rd_T33 l0_4 x13_1).f0), .int .i64 ((rd_T33 l0_4 x13_1).f1), .bool ((rd_T33 l0_4 x13_1).f2), .slice A360_3 ((rd_T33 l0_4 x13_1).f3).length c360_3, .slice none 0 0]) ?_ 4 _ rfl; (with_reducible repeat (first | refine blk_drewN ?_ _ | refine blk_drew ?_ | refine blk_alloc ?_ _)); refine blk_put (cs := #[.int .i64 ((rd_T33 l0_4 x13_1).f0), .int .i64 ((rd_T33 l0_4 x13_1).f1), .bool ((rd_T33 l0_4 x13_1).f2), .slice none 0 0, .slice none 0 0]) ?_ 3 _ rfl; (with_reducible repeat (first | refine blk_drewN ?_ _ | refine blk_drew ?_ | refine blk_alloc ?_ _)); refine blk_put (cs := #[.int .i64 ((rd_T33 l0_4 x13_1).f0), .int .i64 ((rd_T33 l0_4 x13_1).f1), .bool false, .slice none 0 0, .slice none 0 0]) ?_ 2 _ rfl; (with_reducible repeat (first | refine blk_drewN ?_ _ | refine blk_drew ?_ | refine blk_alloc ?_ _)); refine blk_put (cs := #[.int .i64 ((rd_T33 l0_4 x13_1).f0), .int .i64 0, .bool false, .slice none 0 0, .slice none 0 0]) ?_ 1 _ rfl; (with_reducible repeat (first | refine blk_drewN ?_ _ | refine blk_drew ?_ | refine blk_alloc ?_ _)); refine blk_put (cs := #[.int .i64 0, .int .i64 0, .bool false, .slice none 0 0, .slice none 0 0]) ?_ 0 _ rfl; (with_reducible repeat (first | refine blk_drewN ?_ _ | refine blk_drew ?_ | refine blk_alloc ?_ _)); exact BK361.out) hb); have n4_ := Aside0.mk (below_step (by repeat (first | (with_reducible first | exact HB.out | apply below_alloc | apply pw_below_drewN | apply below_drew1 | refine below_set ?_ GE353.out | refine below_set ?_ GE361.out) | exact HB.out)) hb); clear HO_3; clear BK353; clear BK361; clear HB; have HO_3 := n0_; have HO364 := n1_; have BK353 := n2_; have BK361 := n3_; have HB := n4_; clear n0_ n1_ n2_ n3_ n4_; (try clear hb); (try clear hb2); (try clear hk); (try clear hi); (try clear ho0); obtain ⟨Ao19, co19, eo19⟩ := Kd.R_slice HO364.out; subst eo19) | ((with_reducible refine gate_builtin (b := .append) (xs := #[.tmp 17, .tmp 19]) rfl ?_); at_builtin; refine Kd.R_append_rows (Kd.int .u8) (w0 := w) w.heap.size rfl (.tmp 17) (.tmp 19) 24 5 (.int .u8 0) 1 rfl Tryd.underlying24 info5 rfl (by decide) (by omega) u3 x3_1 t362 _ _ _ (fun k_ => some k_ ≠ (.slice Ao19 t362.length co19 : Value).ownBlock) (fun _ => False) rfl rfl ?aO ?aR (fun _ _ h => h) (fun _ h => h.elim) ?aF ?aB ?aS ?aL ?_; (case aR => repeat (first | exact (Kd.R_reads' HO364.out).2.2 | (with_reducible refine Kd.C_alloc ?_ _) | (with_reducible refine Kd.C_drewN ?_ _) | (with_reducible refine Kd.C_drew ?_))); (case aB => exact (by repeat (first | (with_reducible first | exact HB.out | apply below_alloc | apply pw_below_drewN | apply below_drew1 | refine below_set ?_ GE353.out | refine below_set ?_ GE361.out) | exact HB.out))); (case aF => exact (fun k_ hk => Kd.fresh' (Kd.R_lt (by (with_reducible repeat (first | apply Kd.R_alloc | apply Kd.R_drewN | apply Kd.R_drew)); exact HO364.out)) k_ hk)); (case aO => exact (by (with_reducible repeat (first | apply Kd.R_alloc | apply Kd.R_drewN | apply Kd.R_drew)); exact Kd.R_mono HO_3.out (fun _ hk => hk.2))); (case aS => exact (below_size (by repeat (first | (with_reducible first | exact HB.out | apply below_alloc | apply pw_below_drewN | apply below_drew1 | refine below_set ?_ GE353.out | refine below_set ?_ GE361.out) | exact HB.out)))); (case aL => have := LMc13.out; omega); intro v366 w18 ho hb hg hat; rw [← Ny365.out] at ho; have n0_ := Aside0.mk (blk_grown (g := gb353) (o := .cells #[.int .i64 a0_0, .int .i64 a0_1, .bool a0_2, .slice A0_3 l0_3.length c0_3, .slice (some ad360) l0_4.length c0_4] 33 (0, 0)) (by (with_reducible repeat (first | refine blk_drewN ?_ _ | refine blk_drew ?_ | refine blk_alloc ?_ _)); exact BK353.out) hg (Kd.R_ne HO_3.out BK353.out (by decide))); have n1_ := Aside0.mk (blk_grown (g := gb361) (o := .cells #[.int .i64 ((rd_T33 l0_4 x13_1).f0), .int .i64 ((rd_T33 l0_4 x13_1).f1), .bool ((rd_T33 l0_4 x13_1).f2), .slice A360_3 ((rd_T33 l0_4 x13_1).f3).length c360_3, .slice A360_4 ((rd_T33 l0_4 x13_1).f4).length c360_4] 33 (0, 0)) (by (with_reducible repeat (first | refine blk_drewN ?_ _ | refine blk_drew ?_ | refine blk_alloc ?_ _)); exact BK361.out) hg (Kd.R_ne HO_3.out BK361.out (by decide))); have n2_ := Aside0.mk (Kd.R_after (ok := (fun _ => True)) (by (with_reducible repeat (first | apply Kd.R_alloc | apply Kd.R_drewN | apply Kd.R_drew)); exact HO364.out) hg hat); have n3_ := Aside0.mk (hb); have n4_ := Aside0.mk (ho); clear BK353; clear BK361; clear HO364; clear HB; clear HO_3; have BK353 := n0_; have BK361 := n1_; have HO364 := n2_; have HB := n3_; have HO367 := n4_; clear n0_ n1_ n2_ n3_ n4_; clear ho hb hg hat))
                go_roundg k1
                case measure => have := HK1.out; omega
                case rel => exact ⟨(y365), (wrap64 (x13_1 + 1)), (by first | rfl | (simp; done) | (simp [*]; done)), H', ⟨by have := HK1.out; omega⟩, ⟨by (with_reducible repeat (first | apply Kd.R_alloc | apply Kd.R_drewN | apply Kd.R_drew)); exact Kd.R_mono HO367.out (fun _ hk => trivial)⟩, ⟨by (with_reducible repeat (first | refine blk_drewN ?_ _ | refine blk_drew ?_ | refine blk_alloc ?_ _)); exact BK353.out⟩, ⟨by repeat (first | (with_reducible first | exact HB.out | apply below_alloc | apply pw_below_drewN | apply below_drew1 | refine below_set ?_ GE353.out | refine below_set ?_ GE361.out) | exact HB.out)⟩⟩
              · rw [if_neg c13] at H
                exact absurd H (by simp)
            · rw [if_neg c11] at H
              exact absurd H (by simp)
          · rw [if_neg c10] at H
            exact absurd H (by simp)
        · rw [if_neg c9] at H
          have c9b0 : decide (x13_1 < (l0_4.length : Int)) = false := decide_eq_false c9
          clear c9
          replace H := Option.bind_eq_some_iff.mp H
          obtain ⟨t368, A200, H⟩ := H
          replace H : ((spec_Length.f k1 (x3_1.length : Int)).bind fun t371 => (if t368.length + t371.length < 140737488355328 then ((some (t368 ++ t371 : List Int)).bind fun y374 => (if y374.length + x3_1.length < 140737488355328 then (some (y374 ++ x3_1)) else (none))) else (none))) = some r := H
          have A20 := Aside0.mk A200
          clear A200
          replace H := Option.bind_eq_some_iff.mp H
          obtain ⟨t371, A210, H⟩ := H
          replace H : (if t368.length + t371.length < 140737488355328 then ((some (t368 ++ t371 : List Int)).bind fun y374 => (if y374.length + x3_1.length < 140737488355328 then (some (y374 ++ x3_1)) else (none))) else (none)) = some r := H
          have A21 := Aside0.mk A210
          clear A210
          by_cases c22 : t368.length + t371.length < 140737488355328
          · rw [if_pos c22] at H
            have LMc22 := Aside0.mk c22
            clear c22
            obtain ⟨y374, hy374⟩ : ∃ y_ : List Int, y_ = (t368 ++ t371) := ⟨_, rfl⟩
            replace H : (if y374.length + x3_1.length < 140737488355328 then (some (y374 ++ x3_1)) else (none)) = some r := by first | (rw [hy374]; with_reducible exact H) | (have H2_ := (Option.bind_some _ _).symm.trans H; rw [hy374]; with_reducible exact H2_) | (have H2_ := (Option.bind_some _ _).symm.trans H; with_reducible exact H2_) | with_reducible exact H | (rw [hy374]; exact H) | exact H
            have Ny374 := Aside0.mk hy374
            clear hy374
            by_cases c23 : y374.length + x3_1.length < 140737488355328
            · rw [if_pos c23] at H
              have LMc23 := Aside0.mk c23
              clear c23
              obtain ⟨y377, hy377⟩ : ∃ y_ : List Int, y_ = (y374 ++ x3_1) := ⟨_, rfl⟩
              replace H : (some y377) = some r := by first | (rw [hy377]; with_reducible exact H) | (have H2_ := (Option.bind_some _ _).symm.trans H; rw [hy377]; with_reducible exact H2_) | (have H2_ := (Option.bind_some _ _).symm.trans H; with_reducible exact H2_) | with_reducible exact H | (rw [hy377]; exact H) | exact H
              have Ny377 := Aside0.mk hy377
              clear hy377
              obtain rfl := Option.some.inj H
              have hcz24_0 : wr.cell? ⟨gb353, 0, none⟩ = some (.int .i64 a0_0) := (blk_cell BK353.out 0).trans rfl
              have hcz24_1 : wr.cell? ⟨gb353, 1, none⟩ = some (.int .i64 a0_1) := (blk_cell BK353.out 1).trans rfl
              have hcz24_2 : wr.cell? ⟨gb353, 2, none⟩ = some (.bool a0_2) := (blk_cell BK353.out 2).trans rfl
              have hcz24_3 : wr.cell? ⟨gb353, 3, none⟩ = some (.slice A0_3 l0_3.length c0_3) := (blk_cell BK353.out 3).trans rfl
              have hcz24_4 : wr.cell? ⟨gb353, 4, none⟩ = some (.slice A0_4 l0_4.length c0_4) := (blk_cell BK353.out 4).trans rfl
              have hfz24_0 := blk_frozen BK353.out 0
              have hfz24_1 := blk_frozen BK353.out 1
              have hfz24_2 := blk_frozen BK353.out 2
              have hfz24_3 := blk_frozen BK353.out 3
              have hfz24_4 := blk_frozen BK353.out 4
              go_wp2_with (first | ((with_reducible refine gate_callee (f := 89) rfl ?_); refine goesL_ (some 23) rfl rfl Tryd.func89 (by kernel_rfl) rfl #[.agg #[.int .i64 a0_0, .int .i64 a0_1, .bool a0_2, .slice A0_3 l0_3.length c0_3, .slice A0_4 l0_4.length c0_4]] rfl (by (try simp only [List.map_toArray, List.map_cons, List.map_nil]); first | done | rfl | (simp only [List.length_drop, List.length_take]; rfl)) ?_; (with_reducible refine (spec_Identifier.calls k1 a0_0 a0_1 a0_2 _ _ l0_3 _ _ l0_4 t368 _ ?side1 ?side2 ?side3 ?side4 A20.out).mono ?_); (case side1 => repeat (first | exact (Kd.C_below HR0_3.out HB.out) | (with_reducible refine Kd.C_alloc ?_ _) | (with_reducible refine Kd.C_drewN ?_ _) | (with_reducible refine Kd.C_drew ?_))); (case side2 => exact HC0_3.out); (case side3 => repeat (first | exact (Kd.C_below HR0_4.out HB.out) | (with_reducible refine Kd.C_alloc ?_ _) | (with_reducible refine Kd.C_drewN ?_ _) | (with_reducible refine Kd.C_drew ?_))); (case side4 => exact HC0_4.out); rintro e w25 ⟨v369, rfl, ho0, hb⟩; refine ⟨_, rfl, ?_⟩; have n0_ := Aside0.mk (Kd.R_elder' (by (with_reducible repeat (first | apply Kd.R_alloc | apply Kd.R_drewN | apply Kd.R_drew)); exact HO_3.out) (Kd.R_base ho0) hb); have n1_ := Aside0.mk (Kd.R_lower (Kd.R_new' ho0 (Kd.R_lt (by (with_reducible repeat (first | apply Kd.R_alloc | apply Kd.R_drewN | apply Kd.R_drew)); exact HO_3.out))) (below_size (by repeat (first | (with_reducible first | exact HB.out | apply below_alloc | apply pw_below_drewN | apply below_drew1 | refine below_set ?_ GE353.out) | exact HB.out)))); have n2_ := Aside0.mk (blk_below (g := gb353) (o := .cells #[.int .i64 a0_0, .int .i64 a0_1, .bool a0_2, .slice A0_3 l0_3.length c0_3, .slice A0_4 l0_4.length c0_4] 33 (0, 0)) (by (with_reducible repeat (first | refine blk_drewN ?_ _ | refine blk_drew ?_ | refine blk_alloc ?_ _)); exact BK353.out) hb); have n3_ := Aside0.mk (below_step (by repeat (first | (with_reducible first | exact HB.out | apply below_alloc | apply pw_below_drewN | apply below_drew1 | refine below_set ?_ GE353.out) | exact HB.out)) hb); clear HO_3; clear BK353; clear HB; have HO_3 := n0_; have HO370 := n1_; have BK353 := n2_; have HB := n3_; clear n0_ n1_ n2_ n3_; (try clear hb); (try clear hb2); (try clear hk); (try clear hi); (try clear ho0); obtain ⟨Ao26, co26, eo26⟩ := Kd.R_slice HO_3.out; subst eo26) | ((with_reducible refine gate_callee (f := 90) rfl ?_); refine goesL_ (some 26) rfl rfl Tryd.func90 (by kernel_rfl) rfl #[.int .i64 (x3_1.length : Int)] rfl (by (try simp only [List.map_toArray, List.map_cons, List.map_nil]); first | done | rfl | (simp only [List.length_drop, List.length_take]; rfl)) ?_; (with_reducible refine (spec_Length.calls k1 (x3_1.length : Int) t371 _ A21.out).mono ?_); rintro e w27 ⟨v372, rfl, ho0, hb⟩; refine ⟨_, rfl, ?_⟩; have n0_ := Aside0.mk (Kd.R_elder' (by (with_reducible repeat (first | apply Kd.R_alloc | apply Kd.R_drewN | apply Kd.R_drew)); exact HO_3.out) (Kd.R_base ho0) hb); have n1_ := Aside0.mk (Kd.R_elder' (by (with_reducible repeat (first | apply Kd.R_alloc | apply Kd.R_drewN | apply Kd.R_drew)); exact HO370.out) (Kd.R_base ho0) hb); have n2_ := Aside0.mk (Kd.R_lower (Kd.R_new' (Kd.R_new' ho0 (Kd.R_lt (by (with_reducible repeat (first | apply Kd.R_alloc | apply Kd.R_drewN | apply Kd.R_drew)); exact HO_3.out))) (Kd.R_lt (by (with_reducible repeat (first | apply Kd.R_alloc | apply Kd.R_drewN | apply Kd.R_drew)); exact HO370.out))) (below_size (by repeat (first | (with_reducible first | exact HB.out | apply below_alloc | apply pw_below_drewN | apply below_drew1 | refine below_set ?_ GE353.out) | exact HB.out)))); have n3_ := Aside0.mk (blk_below (g := gb353) (o := .cells #[.int .i64 a0_0, .int .i64 a0_1, .bool a0_2, .slice A0_3 l0_3.length c0_3, .slice A0_4 l0_4.length c0_4] 33 (0, 0)) (by (with_reducible repeat (first | refine blk_drewN ?_ _ | refine blk_drew ?_ | refine blk_alloc ?_ _)); exact BK353.out) hb); have n4_ := Aside0.mk (below_step (by repeat (first | (with_reducible first | exact HB.out | apply below_alloc | apply pw_below_drewN | apply below_drew1 | refine below_set ?_ GE353.out) | exact HB.out)) hb); clear HO_3; clear HO370; clear BK353; clear HB; have HO_3 := n0_; have HO370 := n1_; have HO373 := n2_; have BK353 := n3_; have HB := n4_; clear n0_ n1_ n2_ n3_ n4_; (try clear hb); (try clear hb2); (try clear hk); (try clear hi); (try clear ho0); obtain ⟨Ao29, co29, eo29⟩ := Kd.R_slice HO373.out; subst eo29) | ((with_reducible refine gate_builtin (b := .append) (xs := #[.tmp 23, .tmp 26]) rfl ?_); at_builtin; refine Kd.R_append_rows (Kd.int .u8) (w0 := w) w.heap.size rfl (.tmp 23) (.tmp 26) 24 5 (.int .u8 0) 1 rfl Tryd.underlying24 info5 rfl (by decide) (by omega) v369 t368 t371 _ _ _ (fun k_ => some k_ ≠ (.slice Ao26 x3_1.length co26 : Value).ownBlock ∧ some k_ ≠ (.slice Ao29 t371.length co29 : Value).ownBlock) (fun _ => False) rfl rfl ?aO ?aR (fun _ _ h => h) (fun _ h => h.elim) ?aF ?aB ?aS ?aL ?_; (case aR => repeat (first | exact (Kd.R_reads' HO373.out).2.2 | (with_reducible refine Kd.C_alloc ?_ _) | (with_reducible refine Kd.C_drewN ?_ _) | (with_reducible refine Kd.C_drew ?_))); (case aB => exact (by repeat (first | (with_reducible first | exact HB.out | apply below_alloc | apply pw_below_drewN | apply below_drew1 | refine below_set ?_ GE353.out) | exact HB.out))); (case aF => exact (fun k_ hk => ⟨Kd.fresh' (Kd.R_lt (by (with_reducible repeat (first | apply Kd.R_alloc | apply Kd.R_drewN | apply Kd.R_drew)); exact HO_3.out)) k_ hk, Kd.fresh' (Kd.R_lt (by (with_reducible repeat (first | apply Kd.R_alloc | apply Kd.R_drewN | apply Kd.R_drew)); exact HO373.out)) k_ hk⟩)); (case aO => exact (by (with_reducible repeat (first | apply Kd.R_alloc | apply Kd.R_drewN | apply Kd.R_drew)); exact Kd.R_mono HO370.out (fun _ hk => ⟨hk.1.2, hk.2⟩))); (case aS => exact (below_size (by repeat (first | (with_reducible first | exact HB.out | apply below_alloc | apply pw_below_drewN | apply below_drew1 | refine below_set ?_ GE353.out) | exact HB.out)))); (case aL => have := LMc22.out; omega); intro v375 w28 ho hb hg hat; rw [← Ny374.out] at ho; have n0_ := Aside0.mk (Kd.R_after (ok := (fun k_ => some k_ ≠ (.slice Ao29 t371.length co29 : Value).ownBlock)) (by (with_reducible repeat (first | apply Kd.R_alloc | apply Kd.R_drewN | apply Kd.R_drew)); exact Kd.R_mono HO_3.out (fun _ hk => ⟨hk.2, hk.1.2⟩)) hg hat); have n1_ := Aside0.mk (blk_grown (g := gb353) (o := .cells #[.int .i64 a0_0, .int .i64 a0_1, .bool a0_2, .slice A0_3 l0_3.length c0_3, .slice A0_4 l0_4.length c0_4] 33 (0, 0)) (by (with_reducible repeat (first | refine blk_drewN ?_ _ | refine blk_drew ?_ | refine blk_alloc ?_ _)); exact BK353.out) hg (Kd.R_ne HO370.out BK353.out (by decide))); have n2_ := Aside0.mk (Kd.R_after (ok := (fun k_ => some k_ ≠ (.slice Ao26 x3_1.length co26 : Value).ownBlock)) (by (with_reducible repeat (first | apply Kd.R_alloc | apply Kd.R_drewN | apply Kd.R_drew)); exact Kd.R_mono HO373.out (fun _ hk => ⟨hk.1.2, hk.2⟩)) hg hat); have n3_ := Aside0.mk (hb); have n4_ := Aside0.mk (ho); clear HO_3; clear BK353; clear HO373; clear HB; clear HO370; have HO_3 := n0_; have BK353 := n1_; have HO373 := n2_; have HB := n3_; have HO376 := n4_; clear n0_ n1_ n2_ n3_ n4_; clear ho hb hg hat) | ((with_reducible refine gate_builtin (b := .append) (xs := #[.tmp 27, .tmp 28]) rfl ?_); at_builtin; refine Kd.R_append_rows (Kd.int .u8) (w0 := w) w.heap.size rfl (.tmp 27) (.tmp 28) 24 5 (.int .u8 0) 1 rfl Tryd.underlying24 info5 rfl (by decide) (by omega) v375 y374 x3_1 _ _ _ (fun k_ => some k_ ≠ (.slice Ao26 x3_1.length co26 : Value).ownBlock ∧ some k_ ≠ (.slice Ao29 t371.length co29 : Value).ownBlock) (fun _ => False) rfl rfl ?aO ?aR (fun _ _ h => h) (fun _ h => h.elim) ?aF ?aB ?aS ?aL ?_; (case aR => repeat (first | exact (Kd.R_reads' HO_3.out).2.2 | (with_reducible refine Kd.C_alloc ?_ _) | (with_reducible refine Kd.C_drewN ?_ _) | (with_reducible refine Kd.C_drew ?_))); (case aB => exact (by repeat (first | (with_reducible first | exact HB.out | apply below_alloc | apply pw_below_drewN | apply below_drew1 | refine below_set ?_ GE353.out) | exact HB.out))); (case aF => exact (fun k_ hk => ⟨Kd.fresh' (Kd.R_lt (by (with_reducible repeat (first | apply Kd.R_alloc | apply Kd.R_drewN | apply Kd.R_drew)); exact HO_3.out)) k_ hk, Kd.fresh' (Kd.R_lt (by (with_reducible repeat (first | apply Kd.R_alloc | apply Kd.R_drewN | apply Kd.R_drew)); exact HO373.out)) k_ hk⟩)); (case aO => exact (by (with_reducible repeat (first | apply Kd.R_alloc | apply Kd.R_drewN | apply Kd.R_drew)); exact HO376.out)); (case aS => exact (below_size (by repeat (first | (with_reducible first | exact HB.out | apply below_alloc | apply pw_below_drewN | apply below_drew1 | refine below_set ?_ GE353.out) | exact HB.out)))); (case aL => have := LMc23.out; omega); intro v378 w30 ho hb hg hat; rw [← Ny377.out] at ho; have n0_ := Aside0.mk (Kd.R_after (ok := (fun k_ => some k_ ≠ (.slice Ao29 t371.length co29 : Value).ownBlock)) (by (with_reducible repeat (first | apply Kd.R_alloc | apply Kd.R_drewN | apply Kd.R_drew)); exact HO_3.out) hg hat); have n1_ := Aside0.mk (blk_grown (g := gb353) (o := .cells #[.int .i64 a0_0, .int .i64 a0_1, .bool a0_2, .slice A0_3 l0_3.length c0_3, .slice A0_4 l0_4.length c0_4] 33 (0, 0)) (by (with_reducible repeat (first | refine blk_drewN ?_ _ | refine blk_drew ?_ | refine blk_alloc ?_ _)); exact BK353.out) hg (Kd.R_ne HO376.out BK353.out (by decide))); have n2_ := Aside0.mk (Kd.R_after (ok := (fun k_ => some k_ ≠ (.slice Ao26 x3_1.length co26 : Value).ownBlock)) (by (with_reducible repeat (first | apply Kd.R_alloc | apply Kd.R_drewN | apply Kd.R_drew)); exact HO373.out) hg hat); have n3_ := Aside0.mk (hb); have n4_ := Aside0.mk (ho); clear HO_3; clear BK353; clear HO373; clear HB; clear HO376; have HO_3 := n0_; have BK353 := n1_; have HO373 := n2_; have HB := n3_; have HO379 := n4_; clear n0_ n1_ n2_ n3_ n4_; clear ho hb hg hat))
              go_ret
              exact ⟨_, by first | rfl | (simp [errW_none, errW_some] <;> rfl) | (simp [*, errW_none, errW_some] <;> rfl), by (with_reducible repeat (first | apply Kd.R_alloc | apply Kd.R_drewN | apply Kd.R_drew)); exact Kd.R_mono HO379.out (fun _ hk => trivial), by repeat (first | (with_reducible first | exact HB.out | apply below_alloc | apply pw_below_drewN | apply below_drew1 | refine below_set ?_ GE353.out) | exact HB.out)⟩
            · rw [if_neg c23] at H
              exact absurd H (by simp)
          · rw [if_neg c22] at H
            exact absurd H (by simp)
  · rw [if_neg c2] at H
    exact absurd H (by simp)

-- NOT PRINTED: function 28 (spec_NewPassword)

-- NOT PRINTED: function 7 (laws_FnExtended)

end Go.Proofs.YtbmcpjkhnhbjdaaDoor.PFnEncode
namespace Go.Proofs.YtbmcpjkhnhbjdaaDoor.Ident
open Go.RowKit Go.Proofs.YtbmcpjkhnhbjdaaDoorW.PrintWords Go.Proofs.YtbmcpjkhnhbjdaaDoor.Num Go.Proofs.YtbmcpjkhnhbjdaaDoor.PFnEncode
set_option linter.unusedVariables false
set_option linter.unusedSimpArgs false

theorem and_low64 (x : Nat) (hx : x < 9223372036854775808) : Go.bits .and .i64 (x : Int) 127 = ((x % 128 : Nat) : Int) := by
  show IntKind.i64.wrap ((BitVec.ofInt 64 (x : Int) &&& BitVec.ofInt 64 127).toNat : Int) = _
  rw [BitVec.toNat_and, BitVec.toNat_ofInt, BitVec.toNat_ofInt]
  have e0 : ((2 ^ 64 : Nat) : Int) = 18446744073709551616 := by decide
  rw [e0]
  have e1 : ((x : Int) % 18446744073709551616).toNat = x := by omega
  have e2 : ((127 : Int) % 18446744073709551616).toNat = 2 ^ 7 - 1 := by decide
  rw [e1, e2, Nat.and_two_pow_sub_one_eq_mod]
  exact IntWalk.i64_in _ (by omega)

theorem spec_loop (cls : Int) (c : Bool) (h0 : 0 ≤ cls) (h1 : cls ≤ 3) (t : Nat) (ht : t < 268435456) : ∀ (m i : Nat), i + m = 6 → 1 ≤ i → ng (t / 128 ^ i) + i = ng t →
    spec_Identifier.l0 (m + 1) (cb cls c) ((low (t : Int) i).reverse) ((t / 128 ^ i : Nat) : Int) = some ((cb cls c + 31) :: (low (t : Int) (ng t)).reverse) := by
  intro m
  induction m with
  | zero =>
    intro i hi _ hn
    have := ng_le 4 t (by omega)
    omega
  | succ m ih =>
    intro i hi hi1 hn
    unfold spec_Identifier.l0
    by_cases hz : t / 128 ^ i = 0
    · rw [hz, if_neg (by omega)]
      rw [hz, ng_zero] at hn
      simp only [Option.bind_some]
      rw [if_pos (by simp [low_length]; omega), or_cb cls c 31 h0 h1 (by omega) (by omega), show i = ng t by omega]
      rfl
    · have hpos : ((t / 128 ^ i : Nat) : Int) > 0 := Int.natCast_pos.2 (Nat.pos_of_ne_zero hz)
      rw [if_pos hpos]
      simp only [Option.bind_some]
      rw [if_pos (by simp [low_length]; omega)]
      have hle : t / 128 ^ i ≤ t := Nat.div_le_self _ _
      rw [and_low64 _ (by omega)]
      have e := or_e ⟨t / 128 ^ i % 128, Nat.mod_lt _ (by omega)⟩
      simp only at e
      rw [show ((t / 128 ^ i % 128 : Nat) : Int) % 256 = ((t / 128 ^ i % 128 : Nat) : Int) by omega, e]
      have hd : ((t / 128 ^ i % 128 : Nat) : Int) + 128 = dig (t : Int) i := by
        obtain ⟨j, rfl⟩ : ∃ j, i = j + 1 := ⟨i - 1, by omega⟩
        rw [dig]
        push_cast
        rfl
      have h2 : (t / 128 ^ i) / 128 = t / 128 ^ (i + 1) := by rw [Nat.pow_succ, Nat.div_div_eq_div_mul]
      have hr := ih (i + 1) (by omega) (by omega) (by rw [ng_pos hz, h2] at hn; omega)
      rw [low_snoc, List.reverse_append, ← hd, ← h2] at hr
      rw [← hr]
      congr 1

theorem spec_ident (cls tag : Int) (c : Bool) (d : List Int) (ks : List S33) (h0 : 0 ≤ cls) (h1 : cls ≤ 3) (t0 : 0 ≤ tag) (t1 : tag < 268435456) : spec_Identifier.f 7 cls tag c d ks = some (identT cls tag c) := by
  have hj : spec_Identifier.j0 7 (cb cls c) cls tag c d ks = some (identT cls tag c) := by
    show (if tag < 31 then (some (([Go.bits .or .u8 (cb cls c) (tag % 256)] : List Int))) else (spec_Identifier.l0 6 (cb cls c) (([(Go.bits .and .i64 tag 127) % 256] : List Int)) (tag / 128))) = _
    unfold identT
    by_cases ht : tag < 31
    · rw [if_pos ht, if_pos ht, show tag % 256 = tag by omega, or_cb cls c tag h0 h1 t0 (by omega)]
    · rw [if_neg ht, if_neg ht]
      obtain ⟨t, rfl⟩ : ∃ t : Nat, tag = t := ⟨tag.toNat, by omega⟩
      have hr := spec_loop cls c h0 h1 t (by omega) 5 1 rfl (Nat.le_refl _) (by
        rw [ng_pos (show t ≠ 0 by omega), Nat.pow_one])
      rw [Int.toNat_natCast, ← hr, and_low64 _ (by omega)]
      congr 1
      show [((t % 128 : Nat) : Int) % 256] = [(t : Int) % 128]
      congr 1
      omega
  unfold spec_Identifier.f
  have hw : wrap64 (cls * 64) % 256 = cls * 64 := by unfold wrap64; omega
  rw [hw]
  cases c with
  | true =>
    rw [if_pos rfl]
    have e := or_b ⟨cls.toNat, by omega⟩
    simp only [Int.toNat_of_nonneg h0] at e
    rw [e]
    exact hj
  | false =>
    rw [if_neg (by decide)]
    have : cb cls false = cls * 64 := by simp [cb]
    rw [this] at hj
    exact hj
end Go.Proofs.YtbmcpjkhnhbjdaaDoor.Ident
namespace Go.Proofs.YtbmcpjkhnhbjdaaDoor.Tree
open Go.RowKit Go.Proofs.YtbmcpjkhnhbjdaaDoorW.PrintWords Go.Proofs.YtbmcpjkhnhbjdaaDoor.PFnEncode Go.Proofs.YtbmcpjkhnhbjdaaDoor.Within Go.Proofs.YtbmcpjkhnhbjdaaDoor.Num Go.Proofs.YtbmcpjkhnhbjdaaDoor.Ident
set_option linter.unusedVariables false
set_option linter.unusedSimpArgs false

mutual
/-- the bytes of a packet -/
def bytesT : S33 → List Int
  | ⟨a, b, c, d, l⟩ => identT a b c ++ lenBytes (d ++ bytesL l).length ++ (d ++ bytesL l)
def bytesL : List S33 → List Int
  | [] => []
  | x :: xs => bytesT x ++ bytesL xs
end

theorem len_le_tsB : ∀ l : List S33, l.length ≤ tsizeL l
  | [] => Nat.le_refl _
  | x :: xs => by
    have := len_le_tsB xs
    rw [tsizeL, List.length_cons]
    have h : 1 ≤ tsize x := by obtain ⟨a, b, c, d, l⟩ := x; rw [tsize]; omega
    omega

theorem rd_midB (pre : List S33) (x : S33) (xs : List S33) : rd_T33 (pre ++ x :: xs) (pre.length : Int) = x := by
  rw [rd_T33, Int.toNat_natCast, List.getD_eq_getElem?_getD, List.getElem?_append_right (Nat.le_refl _), Nat.sub_self]
  rfl

theorem bytesL_append (l m : List S33) : bytesL (l ++ m) = bytesL l ++ bytesL m := by
  induction l with
  | nil => simp [bytesL]
  | cons x xs ih => rw [List.cons_append, bytesL, bytesL, ih, List.append_assoc]

theorem identT_le (a b : Int) (c : Bool) (h0 : 0 ≤ b) (h : b < 268435456) : (identT a b c).length ≤ 5 := by
  unfold identT
  split
  · simp
  · have := ng_le 4 b.toNat (by omega)
    simp [low_length]
    exact this

mutual
theorem bytesT_le : ∀ x : S33, good x = true → tsize x < 72057594037927936 → (bytesT x).length ≤ 14 * tsize x
  | ⟨a, b, c, d, l⟩, hg, h => by
    rw [good] at hg
    simp only [Bool.and_eq_true, decide_eq_true_eq] at hg
    rw [tsize] at h ⊢
    have h1 := bytesL_le l hg.2 (by omega)
    have h2 := identT_le a b c hg.1.1.1.2 hg.1.1.2
    rw [bytesT]
    have h3 := lenBytes_le (d ++ bytesL l).length (by simp; omega)
    simp only [List.length_append] at h3 ⊢
    omega
theorem bytesL_le : ∀ l : List S33, goodL l = true → tsizeL l < 72057594037927936 → (bytesL l).length ≤ 14 * tsizeL l
  | [], _, _ => by simp [bytesL]
  | x :: xs, hg, h => by
    rw [goodL, Bool.and_eq_true] at hg
    rw [tsizeL] at h ⊢
    have h1 := bytesT_le x hg.1 (by omega)
    have h2 := bytesL_le xs hg.2 (by omega)
    rw [bytesL, List.length_append]
    omega
end

theorem or_len (n : Nat) (h : n ≤ 8) : Go.bits .or .u8 128 ((n : Int) % 256) = 128 + (n : Int) := by
  have := or128 ⟨n, by omega⟩
  rw [show (n : Int) % 256 = (n : Int) by omega]
  exact this

def ndz (n : Nat) : Nat := if n = 0 then 0 else nd n

theorem len_loop : ∀ (m n : Nat) (acc : List Int), n < 256 ^ m → acc.length + m ≤ 8 →
    spec_Length.l0 (m + 1) (n : Int) acc = some ((128 + ((acc.length + ndz n : Nat) : Int)) :: (be n (ndz n) ++ acc)) := by
  intro m
  induction m with
  | zero =>
    intro n acc h ha
    obtain rfl : n = 0 := by simpa using h
    unfold spec_Length.l0
    rw [if_neg (by omega)]
    simp only [Option.bind_some]
    rw [if_pos (by simp; omega), or_len _ (by omega)]
    simp [ndz, be]
  | succ m ih =>
    intro n acc h ha
    unfold spec_Length.l0
    by_cases hz : n = 0
    · subst hz
      rw [if_neg (by omega)]
      simp only [Option.bind_some]
      rw [if_pos (by simp; omega), or_len _ (by omega)]
      simp [ndz, be]
    · rw [if_pos (by omega)]
      simp only [Option.bind_some]
      rw [if_pos (by simp; omega)]
      have hr := ih (n / 256) ([(n : Int) % 256] ++ acc) (by rw [Nat.div_lt_iff_lt_mul (by omega)]; rw [Nat.pow_succ] at h; exact h) (by simp; omega)
      rw [show (n : Int) / 256 = ((n / 256 : Nat) : Int) by omega, hr]
      have hd : ndz n = ndz (n / 256) + 1 := by
        unfold ndz
        by_cases hs : n < 256
        · rw [if_neg hz, nd_small hs, if_pos (by omega)]
        · rw [if_neg hz, nd_great hs, if_neg (by omega)]
      rw [hd, be_snoc]
      congr 2
      · simp only [List.length_append, List.length_singleton]
        omega
      · simp

theorem len_spec (n : Nat) (h : n < 256 ^ 7) : spec_Length.f 8 (n : Int) = some (lenBytes n) := by
  unfold spec_Length.f lenBytes
  by_cases hs : n < 128
  · rw [if_pos (by omega), if_pos hs, show (n : Int) % 256 = (n : Int) by omega]
  · rw [if_neg (by omega), if_neg hs, len_loop 7 n [] h (by simp)]
    simp [ndz, show n ≠ 0 by omega]

mutual
theorem bytes_ex : ∀ x : S33, good x = true → tsize x < 1099511627776 → ∃ k, spec_Bytes.f k x.f0 x.f1 x.f2 x.f3 x.f4 = some (bytesT x)
  | ⟨a, b, c, d, l⟩, hg, h => by
    have hg' := hg
    rw [good] at hg'
    simp only [Bool.and_eq_true, decide_eq_true_eq] at hg'
    have ht := h
    rw [tsize] at ht
    obtain ⟨k, hk⟩ := bytesL_ex l d [] a b c d hg'.2 hg'.1.1.1.1.1 hg'.1.1.1.1.2 hg'.1.1.1.2 hg'.1.1.2 (by have := len_le_tsB l; simp; omega) (by omega)
    refine ⟨k + 1, ?_⟩
    rw [spec_Bytes.f]
    simp only [Option.bind_some]
    rw [if_pos (by simp; omega)]
    rw [bytesT]
    simpa using hk
theorem bytesL_ex : ∀ (l : List S33) (acc : List Int) (pre : List S33) (a b : Int) (c : Bool) (d : List Int), goodL l = true → 0 ≤ a → a ≤ 3 → 0 ≤ b → b < 268435456 → pre.length + l.length < 4611686018427387904 → acc.length + 14 * tsizeL l < 15393162788864 →
    ∃ k, spec_Bytes.l0 k acc (pre ++ l) ((pre ++ l).length : Int) (pre.length : Int) a b c d (pre ++ l) = some (identT a b c ++ lenBytes (acc ++ bytesL l).length ++ (acc ++ bytesL l))
  | [], acc, pre, a, b, c, d, hg, a0, a1, b0, b1, h1, h2 => by
    refine ⟨9, ?_⟩
    rw [spec_Bytes.l0, if_neg (by simp)]
    rw [at_rounds (fun k => spec_Identifier.mono a b c d (pre ++ []) k) (show 7 ≤ 8 by omega) (spec_ident a b c d (pre ++ []) a0 a1 b0 b1), len_spec acc.length (by simp [tsizeL] at h2; simp; omega)]
    have hi := identT_le a b c b0 b1
    have hl := lenBytes_le acc.length (by simp [tsizeL] at h2; simp; omega)
    simp only [Option.bind_some, bytesL, List.append_nil]
    rw [if_pos (by omega), if_pos (by simp [tsizeL] at h2; simp; omega)]
  | x :: xs, acc, pre, a, b, c, d, hg, a0, a1, b0, b1, h1, h2 => by
    rw [tsizeL] at h2
    rw [List.length_cons] at h1
    rw [goodL, Bool.and_eq_true] at hg
    have hx := bytesT_le x hg.1 (by omega)
    obtain ⟨k1, e1⟩ := bytes_ex x hg.1 (by omega)
    obtain ⟨k2, e2⟩ := bytesL_ex xs (acc ++ bytesT x) (pre ++ [x]) a b c d hg.2 a0 a1 b0 b1 (by simp; omega) (by simp; omega)
    have e1' := at_rounds (fun k => spec_Bytes.mono x.f0 x.f1 x.f2 x.f3 x.f4 k) (Nat.le_max_left k1 k2) e1
    have e2' := at_rounds (fun k => (spec_Bytes.mono_l k).2 _ _ _ _ _ _ _ _ _) (Nat.le_max_right k1 k2) e2
    refine ⟨max k1 k2 + 1, ?_⟩
    rw [spec_Bytes.l0, if_pos (by simp; omega), if_pos (by omega), if_pos (by simp; omega), rd_midB, e1']
    simp only [Option.bind_some]
    rw [if_pos (by omega)]
    have ew : wrap64 ((pre.length : Int) + 1) = (((pre ++ [x]).length : Nat) : Int) := by
      unfold wrap64
      simp
      omega
    rw [ew, bytesL]
    simpa using e2'
end
end Go.Proofs.YtbmcpjkhnhbjdaaDoor.Tree
