-- PRINTED BY print.sh 35421559b90ae4d0a3588c463048766b98c2df88dd9212a6774a882060cdf62d: not written by this session
import Derived.Test.YthlameofbhopkaaPFnEscapeFilterx0
namespace Go.Proofs.Ythlameofbhopkaa.PFnEscapeFilter
open Go.RowKit Go.Proofs.YthlameofbhopkaaW.PrintWords Go.Proofs.YthlameofbhopkaaW.PrintLast Go.Proofs.YthlameofbhopkaaW.PrintMore
attribute [local go_sem] max2_int min2_int max_two min_two max_three min_three max_four min_four   -- for this text's walks alone
set_option linter.unusedVariables false
set_option linter.unusedSimpArgs false

/-! ### spec_Escaped: function 9 -/
def spec_Escaped.l0 : Nat → ByteArray → List Int → Int → Int → Option (ByteArray)
  | 0, _, _, _, _ => none
  | k + 1, x0, x3, x8, x9 => if x9 < x8 then (if 0 ≤ x9 then (if x9 < (x0.size : Int) then (if (bt x0 x9) = 40 then (if 0 ≤ ((bt x0 x9) / 16) then (if ((bt x0 x9) / 16) < 16 then (if 0 ≤ (Go.bits .and .u8 (bt x0 x9) 15) then (if (Go.bits .and .u8 (bt x0 x9) 15) < 16 then ((some (([92, bt (⟨#[48, 49, 50, 51, 52, 53, 54, 55, 56, 57, 97, 98, 99, 100, 101, 102]⟩ : ByteArray) ((bt x0 x9) / 16), bt (⟨#[48, 49, 50, 51, 52, 53, 54, 55, 56, 57, 97, 98, 99, 100, 101, 102]⟩ : ByteArray) (Go.bits .and .u8 (bt x0 x9) 15)] : List Int) : List Int)).bind fun y143 => (if x3.length + y143.length < 140737488355328 then (spec_Escaped.l0 k x0 (x3 ++ y143) x8 (wrap64 (x9 + 1))) else (none))) else (none)) else (none)) else (none)) else (none)) else (if (bt x0 x9) = 41 then (if 0 ≤ ((bt x0 x9) / 16) then (if ((bt x0 x9) / 16) < 16 then (if 0 ≤ (Go.bits .and .u8 (bt x0 x9) 15) then (if (Go.bits .and .u8 (bt x0 x9) 15) < 16 then ((some (([92, bt (⟨#[48, 49, 50, 51, 52, 53, 54, 55, 56, 57, 97, 98, 99, 100, 101, 102]⟩ : ByteArray) ((bt x0 x9) / 16), bt (⟨#[48, 49, 50, 51, 52, 53, 54, 55, 56, 57, 97, 98, 99, 100, 101, 102]⟩ : ByteArray) (Go.bits .and .u8 (bt x0 x9) 15)] : List Int) : List Int)).bind fun y149 => (if x3.length + y149.length < 140737488355328 then (spec_Escaped.l0 k x0 (x3 ++ y149) x8 (wrap64 (x9 + 1))) else (none))) else (none)) else (none)) else (none)) else (none)) else (if (bt x0 x9) = 42 then (if 0 ≤ ((bt x0 x9) / 16) then (if ((bt x0 x9) / 16) < 16 then (if 0 ≤ (Go.bits .and .u8 (bt x0 x9) 15) then (if (Go.bits .and .u8 (bt x0 x9) 15) < 16 then ((some (([92, bt (⟨#[48, 49, 50, 51, 52, 53, 54, 55, 56, 57, 97, 98, 99, 100, 101, 102]⟩ : ByteArray) ((bt x0 x9) / 16), bt (⟨#[48, 49, 50, 51, 52, 53, 54, 55, 56, 57, 97, 98, 99, 100, 101, 102]⟩ : ByteArray) (Go.bits .and .u8 (bt x0 x9) 15)] : List Int) : List Int)).bind fun y155 => (if x3.length + y155.length < 140737488355328 then (spec_Escaped.l0 k x0 (x3 ++ y155) x8 (wrap64 (x9 + 1))) else (none))) else (none)) else (none)) else (none)) else (none)) else (if (bt x0 x9) = 92 then (if 0 ≤ ((bt x0 x9) / 16) then (if ((bt x0 x9) / 16) < 16 then (if 0 ≤ (Go.bits .and .u8 (bt x0 x9) 15) then (if (Go.bits .and .u8 (bt x0 x9) 15) < 16 then ((some (([92, bt (⟨#[48, 49, 50, 51, 52, 53, 54, 55, 56, 57, 97, 98, 99, 100, 101, 102]⟩ : ByteArray) ((bt x0 x9) / 16), bt (⟨#[48, 49, 50, 51, 52, 53, 54, 55, 56, 57, 97, 98, 99, 100, 101, 102]⟩ : ByteArray) (Go.bits .and .u8 (bt x0 x9) 15)] : List Int) : List Int)).bind fun y161 => (if x3.length + y161.length < 140737488355328 then (spec_Escaped.l0 k x0 (x3 ++ y161) x8 (wrap64 (x9 + 1))) else (none))) else (none)) else (none)) else (none)) else (none)) else (if (bt x0 x9) = 0 then (if 0 ≤ ((bt x0 x9) / 16) then (if ((bt x0 x9) / 16) < 16 then (if 0 ≤ (Go.bits .and .u8 (bt x0 x9) 15) then (if (Go.bits .and .u8 (bt x0 x9) 15) < 16 then ((some (([92, bt (⟨#[48, 49, 50, 51, 52, 53, 54, 55, 56, 57, 97, 98, 99, 100, 101, 102]⟩ : ByteArray) ((bt x0 x9) / 16), bt (⟨#[48, 49, 50, 51, 52, 53, 54, 55, 56, 57, 97, 98, 99, 100, 101, 102]⟩ : ByteArray) (Go.bits .and .u8 (bt x0 x9) 15)] : List Int) : List Int)).bind fun y167 => (if x3.length + y167.length < 140737488355328 then (spec_Escaped.l0 k x0 (x3 ++ y167) x8 (wrap64 (x9 + 1))) else (none))) else (none)) else (none)) else (none)) else (none)) else (if (bt x0 x9) ≥ 128 then (if 0 ≤ ((bt x0 x9) / 16) then (if ((bt x0 x9) / 16) < 16 then (if 0 ≤ (Go.bits .and .u8 (bt x0 x9) 15) then (if (Go.bits .and .u8 (bt x0 x9) 15) < 16 then ((some (([92, bt (⟨#[48, 49, 50, 51, 52, 53, 54, 55, 56, 57, 97, 98, 99, 100, 101, 102]⟩ : ByteArray) ((bt x0 x9) / 16), bt (⟨#[48, 49, 50, 51, 52, 53, 54, 55, 56, 57, 97, 98, 99, 100, 101, 102]⟩ : ByteArray) (Go.bits .and .u8 (bt x0 x9) 15)] : List Int) : List Int)).bind fun y173 => (if x3.length + y173.length < 140737488355328 then (spec_Escaped.l0 k x0 (x3 ++ y173) x8 (wrap64 (x9 + 1))) else (none))) else (none)) else (none)) else (none)) else (none)) else (if x3.length < 140737488355328 then (spec_Escaped.l0 k x0 (x3 ++ [bt x0 x9]) x8 (wrap64 (x9 + 1))) else (none)))))))) else (none)) else (none)) else (some (strOfNums x3))
def spec_Escaped.f (k : Nat) (a0 : ByteArray) : Option (ByteArray) := spec_Escaped.l0 k a0 (([] : List Int)) (a0.size : Int) 0
theorem spec_Escaped.mono_l : ∀ k, (∀ y0 y1 y2 y3, LeO (spec_Escaped.l0 k y0 y1 y2 y3) (spec_Escaped.l0 (k + 1) y0 y1 y2 y3))
  | 0 => fun _ _ _ _ r h => by simp [spec_Escaped.l0] at h
  | k + 1 => by
    have ih0 := spec_Escaped.mono_l k
    · intro y0 y1 y2 y3
      unfold spec_Escaped.l0
      repeat' first
      | (with_reducible exact ih0 _ _ _ _)
      | (with_reducible exact LeO.refl _)
      | (with_reducible exact LeO.none _)
      | (with_reducible refine LeO.ite ?_ ?_)
      | (with_reducible refine LeO.bind ?_ (fun _ => ?_))
      | exact ih0 _ _ _ _
      | exact LeO.none _
      | refine LeO.ite ?_ ?_
      | refine LeO.bind ?_ (fun _ => ?_)
theorem spec_Escaped.mono : ∀ a0 k, LeO (spec_Escaped.f k a0) (spec_Escaped.f (k + 1) a0) := by
  intro a0 k
  have ih0 := spec_Escaped.mono_l k
  unfold spec_Escaped.f
  repeat' first
      | (with_reducible exact ih0 _ _ _ _)
      | (with_reducible exact LeO.refl _)
      | (with_reducible exact LeO.none _)
      | (with_reducible refine LeO.ite ?_ ?_)
      | (with_reducible refine LeO.bind ?_ (fun _ => ?_))
      | exact ih0 _ _ _ _
      | exact LeO.none _
      | refine LeO.ite ?_ ?_
      | refine LeO.bind ?_ (fun _ => ?_)
def spec_Escaped.T7 : Bool × List (List Nat × List Nat) := (true, [([], []), ([], []), ([1], [1]), ([2], [2]), ([], []), ([4], [4]), ([5], [5]), ([3, 6], [3, 6]), ([0, 7], [0, 7]), ([8, 8, 0, 1, 2, 3, 4, 5, 6, 7, 8], [0, 8])])
def spec_Escaped.B7 : List Nat := [0, 0, 2, 6, 0, 16, 48, 126, 255, 511]
theorem spec_Escaped.tab7 : rtab .any (opsOf Try.f9 7) = spec_Escaped.T7 := by kernel_rfl
theorem spec_Escaped.bits7 : waitsOk spec_Escaped.T7.2 spec_Escaped.B7 = true := by kernel_rfl
set_option maxHeartbeats 8000000 in
set_option maxRecDepth 100000 in
theorem spec_Escaped.calls (k : Nat) (a0 : ByteArray) (r : ByteArray) (w : World) (h : spec_Escaped.f k a0 = some r) :
    Calls Try.prog 9 #[.string a0] w fun e w' => e = .returned (.string r) ∧ Below w.heap.size w w' := by
  have HB := Aside0.mk (Below.refl w.heap.size w)
  have H : (spec_Escaped.l0 k a0 (([] : List Int)) (a0.size : Int) 0) = some r := h
  clear h
  obtain ⟨y140, hy140⟩ : ∃ y_ : List Int, y_ = (([] : List Int)) := ⟨_, rfl⟩
  replace H : (spec_Escaped.l0 k a0 y140 (a0.size : Int) 0) = some r := by first | (rw [hy140]; with_reducible exact H) | (have H2_ := (Option.bind_some _ _).symm.trans H; rw [hy140]; with_reducible exact H2_) | (have H2_ := (Option.bind_some _ _).symm.trans H; with_reducible exact H2_) | with_reducible exact H | (rw [hy140]; exact H) | exact H
  have Ny140 := Aside0.mk hy140
  clear hy140
  have H' := Aside0.mk H
  clear H
  go_enter Try.func9, Try.ntmps9
  go_wp2_with (first | ((with_reducible refine gate_dst (N := 6) rfl ?_); refine Kd.R_lit (Kd.int .u8) _ 5 ?hg (N := 6) ?hd (xs := ([] : List Int)) (inner := []) (ok := fun _ => True) (okp := fun _ => True) ?hr ?hp (fun _ hk => hk) trivial (Below.refl _ _) (Nat.le_refl _) (by simp) ?_; (case hd => rfl); (case hg => rfl); (case hr => first | (go_simp; done) | (go_simp; rfl)); (case hp => exact (Reps.none _ _)); intro v141 w2 ho3 hb hg_ hnew_; clear hg_ hnew_; (first | rw [← Ny140.out] at ho3 | (simp only [Int.reduceToNat] at ho3; rw [← Ny140.out] at ho3)); have n0_ := Aside0.mk (Kd.R_lower ho3 (below_size (by repeat (first | (with_reducible first | exact HB.out | apply below_alloc | apply pw_below_drewN | apply below_drew1) | exact HB.out)))); have n1_ := Aside0.mk (below_step (by repeat (first | (with_reducible first | exact HB.out | apply below_alloc | apply pw_below_drewN | apply below_drew1) | exact HB.out)) hb); clear HB; have HO142 := n0_; have HB := n1_; clear n0_ n1_; clear hb ho3))
  go_loopg [3, 9] k (fun kq v3 v9 w' => ∃ (x3_1 : List Int) (x9_1 : Int), v9 = .int .i64 x9_1 ∧ Aside0 (spec_Escaped.l0 kq a0 x3_1 (a0.size : Int) x9_1 = some r) ∧ Aside0 (kq ≤ k) ∧ Aside0 (Kd.R (Kd.int .u8) 5 w' w.heap.size (fun _ => True) v3 x3_1) ∧ Aside0 (Below w.heap.size w w'))
  case atStart => exact ⟨(y140), (0), (by first | rfl | (simp; done) | (simp [*]; done)), H', ⟨Nat.le_refl _⟩, ⟨by (with_reducible repeat (first | apply Kd.R_alloc | apply Kd.R_drewN | apply Kd.R_drew)); exact HO142.out⟩, ⟨by repeat (first | (with_reducible first | exact HB.out | apply below_alloc | apply pw_below_drewN | apply below_drew1) | exact HB.out)⟩⟩
  case round =>
    clear H'
    try clear p2
    obtain ⟨x3_1, x9_1, rfl, HA, HK1, HO_3, HB⟩ := hrel
    cases gk with
    | zero => exact absurd HA.out (by simp [spec_Escaped.l0])
    | succ k1 =>
      have H := HA.out
      clear HA
      simp only [spec_Escaped.l0] at H
      by_cases c4 : x9_1 < (a0.size : Int)
      · rw [if_pos c4] at H
        have c4b0 : decide (x9_1 < (a0.size : Int)) = true := decide_eq_true c4
        clear c4
        by_cases c5 : 0 ≤ x9_1
        · rw [if_pos c5] at H
          have c5b0 : decide (0 ≤ x9_1) = true := decide_eq_true c5
          clear c5
          by_cases c6 : x9_1 < (a0.size : Int)
          · rw [if_pos c6] at H
            have c6b0 : decide (x9_1 < (a0.size : Int)) = true := decide_eq_true c6
            clear c6
            by_cases c8 : (bt a0 x9_1) = 40
            · rw [if_pos c8] at H
              have c8b0 : ((bt a0 x9_1) == 40) = true := beq_iff_eq.mpr c8
              have c8b1 : ((bt a0 x9_1) != 40) = false := bne_eq_false_iff_eq.mpr c8
              clear c8
              obtain ⟨ji9, hji9⟩ : ∃ j_ : Int, ((bt a0 x9_1) / 16) = j_ := ⟨_, rfl⟩
              replace H : (if 0 ≤ (ji9) then (if (ji9) < 16 then (if 0 ≤ (Go.bits .and .u8 (bt a0 x9_1) 15) then (if (Go.bits .and .u8 (bt a0 x9_1) 15) < 16 then ((some (([92, bt (⟨#[48, 49, 50, 51, 52, 53, 54, 55, 56, 57, 97, 98, 99, 100, 101, 102]⟩ : ByteArray) (ji9), bt (⟨#[48, 49, 50, 51, 52, 53, 54, 55, 56, 57, 97, 98, 99, 100, 101, 102]⟩ : ByteArray) (Go.bits .and .u8 (bt a0 x9_1) 15)] : List Int) : List Int)).bind fun y143 => (if x3_1.length + y143.length < 140737488355328 then (spec_Escaped.l0 k1 a0 (x3_1 ++ y143) (a0.size : Int) (wrap64 (x9_1 + 1))) else (none))) else (none)) else (none)) else (none)) else (none)) = some r := by first | (rw [hji9] at H; exact H) | (simp only [hji9] at H ⊢; exact H)
              by_cases c10 : 0 ≤ (ji9)
              · rw [if_pos c10] at H
                have c10b0 : decide (0 ≤ (ji9)) = true := decide_eq_true c10
                clear c10
                by_cases c11 : (ji9) < 16
                · rw [if_pos c11] at H
                  have c11b0 : decide ((ji9) < 16) = true := decide_eq_true c11
                  clear c11
                  by_cases c13 : 0 ≤ (Go.bits .and .u8 (bt a0 x9_1) 15)
                  · rw [if_pos c13] at H
                    have c13b0 : decide (0 ≤ (Go.bits .and .u8 (bt a0 x9_1) 15)) = true := decide_eq_true c13
                    clear c13
                    by_cases c14 : (Go.bits .and .u8 (bt a0 x9_1) 15) < 16
                    · rw [if_pos c14] at H
                      have c14b0 : decide ((Go.bits .and .u8 (bt a0 x9_1) 15) < 16) = true := decide_eq_true c14
                      clear c14
                      obtain ⟨y143, hy143⟩ : ∃ y_ : List Int, y_ = (([92, bt (⟨#[48, 49, 50, 51, 52, 53, 54, 55, 56, 57, 97, 98, 99, 100, 101, 102]⟩ : ByteArray) (ji9), bt (⟨#[48, 49, 50, 51, 52, 53, 54, 55, 56, 57, 97, 98, 99, 100, 101, 102]⟩ : ByteArray) (Go.bits .and .u8 (bt a0 x9_1) 15)] : List Int)) := ⟨_, rfl⟩
                      replace H : (if x3_1.length + y143.length < 140737488355328 then (spec_Escaped.l0 k1 a0 (x3_1 ++ y143) (a0.size : Int) (wrap64 (x9_1 + 1))) else (none)) = some r := by first | (rw [hy143]; with_reducible exact H) | (have H2_ := (Option.bind_some _ _).symm.trans H; rw [hy143]; with_reducible exact H2_) | (have H2_ := (Option.bind_some _ _).symm.trans H; with_reducible exact H2_) | with_reducible exact H | (rw [hy143]; exact H) | exact H
                      have Ny143 := Aside0.mk hy143
                      clear hy143
                      by_cases c16 : x3_1.length + y143.length < 140737488355328
                      · rw [if_pos c16] at H
                        have LMc16 := Aside0.mk c16
                        clear c16
                        obtain ⟨y146, hy146⟩ : ∃ y_ : List Int, y_ = (x3_1 ++ y143) := ⟨_, rfl⟩
                        replace H : (spec_Escaped.l0 k1 a0 y146 (a0.size : Int) (wrap64 (x9_1 + 1))) = some r := by first | (rw [hy146]; with_reducible exact H) | (have H2_ := (Option.bind_some _ _).symm.trans H; rw [hy146]; with_reducible exact H2_) | (have H2_ := (Option.bind_some _ _).symm.trans H; with_reducible exact H2_) | with_reducible exact H | (rw [hy146]; exact H) | exact H
                        have Ny146 := Aside0.mk hy146
                        clear hy146
                        have H' := Aside0.mk H
                        clear H
                        have p7 : 0 ≤ (x9_1 : Int) := of_decide_eq_true (by first | (with_reducible assumption) | assumption)
                        have q7 : x9_1 < (a0.size : Int) := of_decide_eq_true (by first | (with_reducible assumption) | assumption)
                        have hx7 := bt_at a0 x9_1
                        replace p7 := eq_true p7
                        replace q7 := eq_true q7
                        try go_wp2
                        have n0_ := Aside0.mk (Kd.R_drew HO_3.out)
                        have n1_ := Aside0.mk (below_drew1 HB.out)
                        clear HO_3
                        clear HB
                        have HO_3 := n0_
                        have HB := n1_
                        clear n0_ n1_
                        have p12 : 0 ≤ ((ji9) : Int) := of_decide_eq_true (by first | (with_reducible assumption) | assumption)
                        have q12 : (ji9) < (16 : Int) := of_decide_eq_true (by first | (with_reducible assumption) | assumption)
                        have hx12 := bt_at (⟨#[48, 49, 50, 51, 52, 53, 54, 55, 56, 57, 97, 98, 99, 100, 101, 102]⟩ : ByteArray) (ji9)
                        replace p12 := eq_true p12
                        replace q12 := eq_true q12
                        have p15 : 0 ≤ ((Go.bits .and .u8 (bt a0 x9_1) 15) : Int) := of_decide_eq_true (by first | (with_reducible assumption) | assumption)
                        have q15 : (Go.bits .and .u8 (bt a0 x9_1) 15) < (16 : Int) := of_decide_eq_true (by first | (with_reducible assumption) | assumption)
                        have hx15 := bt_at (⟨#[48, 49, 50, 51, 52, 53, 54, 55, 56, 57, 97, 98, 99, 100, 101, 102]⟩ : ByteArray) (Go.bits .and .u8 (bt a0 x9_1) 15)
                        replace p15 := eq_true p15
                        replace q15 := eq_true q15
                        refine start_ (n := 10) (S := fun w' => True) (ds := []) #[false, false, false, false, false, false, false, false, false, false] (by kernel_rfl) rfl rfl trivial (fun hHeld => ?_); refine with_tabW spec_Escaped.tab7 spec_Escaped.bits7 (fun HT_ HW_ => ?_)
                        generalize wr.drew = w17 at HO_3 HB hHeld ⊢
                        refine pure_ (i := 0) (N := some 37) (v := ?_) (a' := ?_) #[true, false, false, false, false, false, false, false, false, false] rfl rfl (any_of HT_.out (by kernel_rfl)) (fun _ _ _ h => h) (Or.inl ⟨by rfl, ?_⟩) ?_ ?_
                        rotate_left
                        · intro w'
                          go_simp
                          with_reducible rfl
                        rotate_left
                        · simp only [Act.put, List.setIfInBounds_toArray, List.set_cons_zero, List.set_cons_succ, i64_w, i32_w]
                          rfl
                        refine pure_ (i := 1) (N := some 38) (v := ?_) (a' := ?_) #[true, true, false, false, false, false, false, false, false, false] rfl rfl (any_of HT_.out (by kernel_rfl)) (fun _ _ _ h => h) (Or.inl ⟨by rfl, ?_⟩) ?_ ?_
                        rotate_left
                        · intro w'
                          go_simp
                          with_reducible rfl
                        rotate_left
                        · simp only [Act.put, List.setIfInBounds_toArray, List.set_cons_zero, List.set_cons_succ, i64_w, i32_w]
                          rfl
                        refine pure_ (i := 2) (N := some 39) (v := ?_) (a' := ?_) #[true, true, true, false, false, false, false, false, false, false] rfl rfl (any_of HT_.out (by kernel_rfl)) (fun _ _ _ h => h) (Or.inl ⟨by rfl, ?_⟩) ?_ ?_
                        rotate_left
                        · intro w'
                          go_simp
                          with_reducible rfl
                        rotate_left
                        · simp only [Act.put, List.setIfInBounds_toArray, List.set_cons_zero, List.set_cons_succ, i64_w, i32_w]
                          rfl
                        refine pure_ (i := 4) (N := some 41) (v := ?_) (a' := ?_) #[true, true, true, false, true, false, false, false, false, false] rfl rfl (any_of HT_.out (by kernel_rfl)) (fun _ _ _ h => h) (Or.inl ⟨by rfl, ?_⟩) ?_ ?_
                        rotate_left
                        · intro w'
                          go_simp
                          with_reducible rfl
                        rotate_left
                        · simp only [Act.put, List.setIfInBounds_toArray, List.set_cons_zero, List.set_cons_succ, i64_w, i32_w]
                          rfl
                        refine pure_ (i := 5) (N := some 42) (v := ?_) (a' := ?_) #[true, true, true, false, true, true, false, false, false, false] rfl rfl (any_of HT_.out (by kernel_rfl)) (fun _ _ _ h => h) (Or.inl ⟨by rfl, ?_⟩) ?_ ?_
                        rotate_left
                        · intro w'
                          go_simp
                          with_reducible rfl
                        rotate_left
                        · simp only [Act.put, List.setIfInBounds_toArray, List.set_cons_zero, List.set_cons_succ, i64_w, i32_w]
                          rfl
                        refine take_ (i := 3) (N := some 40) (v := ?_) (a' := ?_) #[true, true, true, true, true, true, false, false, false, false] rfl rfl (take_ofW HT_.out HW_.out (by kernel_rfl)) (fun _ _ _ h => h) (Or.inl ⟨by rfl, ?_⟩) hHeld ?_ ?_
                        rotate_left
                        · intro w' _
                          go_simp
                          with_reducible rfl
                        rotate_left
                        · simp only [Act.put, List.setIfInBounds_toArray, List.set_cons_zero, List.set_cons_succ, i64_w, i32_w]
                          rfl
                        refine take_ (i := 6) (N := some 43) (v := ?_) (a' := ?_) #[true, true, true, true, true, true, true, false, false, false] rfl rfl (take_ofW HT_.out HW_.out (by kernel_rfl)) (fun _ _ _ h => h) (Or.inl ⟨by rfl, ?_⟩) hHeld ?_ ?_
                        rotate_left
                        · intro w' _
                          go_simp
                          with_reducible rfl
                        rotate_left
                        · simp only [Act.put, List.setIfInBounds_toArray, List.set_cons_zero, List.set_cons_succ, i64_w, i32_w]
                          rfl
                        refine one_ (i := 7) (N := some 44) #[true, true, true, true, true, true, true, true, false, false] rfl rfl (one_of HT_.out (by kernel_rfl)) (by decide) (fun K hK => ?_)
                        refine Kd.R_lit_step (Kd.int .u8) _ 5 ?hg (N := 44) ?hd (xs := ([92, bt (⟨#[48, 49, 50, 51, 52, 53, 54, 55, 56, 57, 97, 98, 99, 100, 101, 102]⟩ : ByteArray) (ji9), bt (⟨#[48, 49, 50, 51, 52, 53, 54, 55, 56, 57, 97, 98, 99, 100, 101, 102]⟩ : ByteArray) (Go.bits .and .u8 (bt a0 x9_1) 15)] : List Int)) (inner := [.int .u8 92, .int .u8 (bt (⟨#[48, 49, 50, 51, 52, 53, 54, 55, 56, 57, 97, 98, 99, 100, 101, 102]⟩ : ByteArray) (ji9)), .int .u8 (bt (⟨#[48, 49, 50, 51, 52, 53, 54, 55, 56, 57, 97, 98, 99, 100, 101, 102]⟩ : ByteArray) (Go.bits .and .u8 (bt a0 x9_1) 15))]) (ok := fun _ => True) (okp := fun _ => True) ?hr ?hp (fun _ hk => hk) trivial (Below.refl _ _) (Nat.le_refl _) (by simp) ?_; (case hd => rfl); (case hg => rfl); (case hr => first | (go_simp; done) | (go_simp; rfl)); (case hp => exact (Reps.one (show Kd.M (Kd.int .u8) _ _ _ 92 [.int .u8 92] from rfl) (Reps.one (show Kd.M (Kd.int .u8) _ _ _ (bt (⟨#[48, 49, 50, 51, 52, 53, 54, 55, 56, 57, 97, 98, 99, 100, 101, 102]⟩ : ByteArray) (ji9)) [.int .u8 (bt (⟨#[48, 49, 50, 51, 52, 53, 54, 55, 56, 57, 97, 98, 99, 100, 101, 102]⟩ : ByteArray) (ji9))] from rfl) (Reps.one (show Kd.M (Kd.int .u8) _ _ _ (bt (⟨#[48, 49, 50, 51, 52, 53, 54, 55, 56, 57, 97, 98, 99, 100, 101, 102]⟩ : ByteArray) (Go.bits .and .u8 (bt a0 x9_1) 15)) [.int .u8 (bt (⟨#[48, 49, 50, 51, 52, 53, 54, 55, 56, 57, 97, 98, 99, 100, 101, 102]⟩ : ByteArray) (Go.bits .and .u8 (bt a0 x9_1) 15))] from rfl) (Reps.none _ _)))))
                        intro v144 w18 ho19 hb hg_ hnew_
                        clear hg_ hnew_
                        (first | rw [← Ny143.out] at ho19 | (simp only [Int.reduceToNat] at ho19; rw [← Ny143.out] at ho19))
                        have n0_ := Aside0.mk (Kd.R_elder' (by (with_reducible repeat (first | apply Kd.R_alloc | apply Kd.R_drewN | apply Kd.R_drew)); exact HO_3.out) (Kd.R_base ho19) hb)
                        have n1_ := Aside0.mk (Kd.R_lower (Kd.R_new' ho19 (Kd.R_lt (by (with_reducible repeat (first | apply Kd.R_alloc | apply Kd.R_drewN | apply Kd.R_drew)); exact HO_3.out))) (below_size (by repeat (first | (with_reducible first | exact HB.out | apply below_alloc | apply pw_below_drewN | apply below_drew1) | exact HB.out))))
                        have n2_ := Aside0.mk (below_step (by repeat (first | (with_reducible first | exact HB.out | apply below_alloc | apply pw_below_drewN | apply below_drew1) | exact HB.out)) hb)
                        clear HO_3
                        clear HB
                        have HO_3 := n0_
                        have HO145 := n1_
                        have HB := n2_
                        clear n0_ n1_ n2_
                        clear hb ho19
                        obtain ⟨Ao21, co21, eo21⟩ := Kd.R_slice HO145.out
                        (first | subst eo21 | (injection eo21 with f1_ f2_ f3_; have f4_ := f1_.symm; have f5_ := f3_.symm; clear f1_ f2_ f3_; subst f4_; subst f5_))
                        refine hK.out _ _ trivial (fun hHeld => ?_)
                        clear hK K
                        refine norm_ (a' := ?_) ?_ ?_
                        rotate_left
                        · show Act.put _ (some 44) _ = _
                          simp only [Act.put, List.setIfInBounds_toArray, List.set_cons_zero, List.set_cons_succ, i64_w, i32_w]
                          rfl
                        refine one_ (i := 8) (N := some 45) #[true, true, true, true, true, true, true, true, true, false] rfl rfl (one_of HT_.out (by kernel_rfl)) (by decide) (fun K hK => ?_)
                        refine Kd.R_append_rows_step (Kd.int .u8) (w0 := w) w.heap.size (by rfl) (.tmp 37) (.tmp 44) 23 5 (.int .u8 0) 1 rfl Try.underlying23 info5 rfl (by decide) (by omega) u3 x3_1 y143 _ _ _ (fun k_ => some k_ ≠ (.slice Ao21 y143.length co21 : Value).ownBlock) (fun _ => False) rfl rfl ?aO ?aR (fun _ _ h => h) (fun _ h => h.elim) ?aF ?aB ?aS ?aL ?_
                        (case aR => repeat (first | exact (Kd.R_reads' HO145.out).2.2 | (with_reducible refine Kd.C_alloc ?_ _) | (with_reducible refine Kd.C_drewN ?_ _) | (with_reducible refine Kd.C_drew ?_)))
                        (case aB => exact (by repeat (first | (with_reducible first | exact HB.out | apply below_alloc | apply pw_below_drewN | apply below_drew1) | exact HB.out)))
                        (case aF => exact (fun k_ hk => Kd.fresh' (Kd.R_lt (by (with_reducible repeat (first | apply Kd.R_alloc | apply Kd.R_drewN | apply Kd.R_drew)); exact HO145.out)) k_ hk))
                        (case aO => exact (by (with_reducible repeat (first | apply Kd.R_alloc | apply Kd.R_drewN | apply Kd.R_drew)); exact Kd.R_mono HO_3.out (fun _ hk => hk.2)))
                        (case aS => exact (below_size (by repeat (first | (with_reducible first | exact HB.out | apply below_alloc | apply pw_below_drewN | apply below_drew1) | exact HB.out))))
                        (case aL => have := LMc16.out; omega)
                        intro v147 w20 ho hb hg hat
                        rw [← Ny146.out] at ho
                        have n0_ := Aside0.mk (Kd.R_after (ok := (fun _ => True)) (by (with_reducible repeat (first | apply Kd.R_alloc | apply Kd.R_drewN | apply Kd.R_drew)); exact HO145.out) hg hat)
                        have n1_ := Aside0.mk (hb)
                        have n2_ := Aside0.mk (ho)
                        clear HO145
                        clear HB
                        clear HO_3
                        have HO145 := n0_
                        have HB := n1_
                        have HO148 := n2_
                        clear n0_ n1_ n2_
                        clear ho hb hg hat
                        refine hK.out _ _ trivial (fun hHeld => ?_)
                        clear hK K
                        refine norm_ (a' := ?_) ?_ ?_
                        rotate_left
                        · show Act.put _ (some 45) _ = _
                          simp only [Act.put, List.setIfInBounds_toArray, List.set_cons_zero, List.set_cons_succ, i64_w, i32_w]
                          rfl
                        refine pure_ (i := 9) (N := some 3) (v := ?_) (a' := ?_) #[true, true, true, true, true, true, true, true, true, true] rfl rfl (any_of HT_.out (by kernel_rfl)) (fun _ _ _ h => h) (Or.inl ⟨by rfl, ?_⟩) ?_ ?_
                        rotate_left
                        · intro w'
                          go_simp
                          with_reducible rfl
                        rotate_left
                        · simp only [Act.put, List.setIfInBounds_toArray, List.set_cons_zero, List.set_cons_succ, i64_w, i32_w]
                          rfl
                        refine done_ (done_of HT_.out (by kernel_rfl)) ?_
                        try go_wp2
                        go_roundg k1
                        case measure => have := HK1.out; omega
                        case rel => exact ⟨(y146), (wrap64 (x9_1 + 1)), (by first | rfl | (simp; done) | (simp [*]; done)), H', ⟨by have := HK1.out; omega⟩, ⟨by (with_reducible repeat (first | apply Kd.R_alloc | apply Kd.R_drewN | apply Kd.R_drew)); exact Kd.R_mono HO148.out (fun _ hk => trivial)⟩, ⟨by repeat (first | (with_reducible first | exact HB.out | apply below_alloc | apply pw_below_drewN | apply below_drew1) | exact HB.out)⟩⟩
                      · rw [if_neg c16] at H
                        exact absurd H (by simp)
                    · rw [if_neg c14] at H
                      exact absurd H (by simp)
                  · rw [if_neg c13] at H
                    exact absurd H (by simp)
                · rw [if_neg c11] at H
                  exact absurd H (by simp)
              · rw [if_neg c10] at H
                exact absurd H (by simp)
            · rw [if_neg c8] at H
              have c8b0 : ((bt a0 x9_1) == 40) = false := beq_eq_false_iff_ne.mpr c8
              have c8b1 : ((bt a0 x9_1) != 40) = true := bne_iff_ne.mpr c8
              by_cases c22 : (bt a0 x9_1) = 41
              · rw [if_pos c22] at H
                have c22b0 : ((bt a0 x9_1) == 41) = true := beq_iff_eq.mpr c22
                have c22b1 : ((bt a0 x9_1) != 41) = false := bne_eq_false_iff_eq.mpr c22
                clear c22
                obtain ⟨ji23, hji23⟩ : ∃ j_ : Int, ((bt a0 x9_1) / 16) = j_ := ⟨_, rfl⟩
                replace H : (if 0 ≤ (ji23) then (if (ji23) < 16 then (if 0 ≤ (Go.bits .and .u8 (bt a0 x9_1) 15) then (if (Go.bits .and .u8 (bt a0 x9_1) 15) < 16 then ((some (([92, bt (⟨#[48, 49, 50, 51, 52, 53, 54, 55, 56, 57, 97, 98, 99, 100, 101, 102]⟩ : ByteArray) (ji23), bt (⟨#[48, 49, 50, 51, 52, 53, 54, 55, 56, 57, 97, 98, 99, 100, 101, 102]⟩ : ByteArray) (Go.bits .and .u8 (bt a0 x9_1) 15)] : List Int) : List Int)).bind fun y149 => (if x3_1.length + y149.length < 140737488355328 then (spec_Escaped.l0 k1 a0 (x3_1 ++ y149) (a0.size : Int) (wrap64 (x9_1 + 1))) else (none))) else (none)) else (none)) else (none)) else (none)) = some r := by first | (rw [hji23] at H; exact H) | (simp only [hji23] at H ⊢; exact H)
                by_cases c24 : 0 ≤ (ji23)
                · rw [if_pos c24] at H
                  have c24b0 : decide (0 ≤ (ji23)) = true := decide_eq_true c24
                  clear c24
                  by_cases c25 : (ji23) < 16
                  · rw [if_pos c25] at H
                    have c25b0 : decide ((ji23) < 16) = true := decide_eq_true c25
                    clear c25
                    by_cases c27 : 0 ≤ (Go.bits .and .u8 (bt a0 x9_1) 15)
                    · rw [if_pos c27] at H
                      have c27b0 : decide (0 ≤ (Go.bits .and .u8 (bt a0 x9_1) 15)) = true := decide_eq_true c27
                      clear c27
                      by_cases c28 : (Go.bits .and .u8 (bt a0 x9_1) 15) < 16
                      · rw [if_pos c28] at H
                        have c28b0 : decide ((Go.bits .and .u8 (bt a0 x9_1) 15) < 16) = true := decide_eq_true c28
                        clear c28
                        obtain ⟨y149, hy149⟩ : ∃ y_ : List Int, y_ = (([92, bt (⟨#[48, 49, 50, 51, 52, 53, 54, 55, 56, 57, 97, 98, 99, 100, 101, 102]⟩ : ByteArray) (ji23), bt (⟨#[48, 49, 50, 51, 52, 53, 54, 55, 56, 57, 97, 98, 99, 100, 101, 102]⟩ : ByteArray) (Go.bits .and .u8 (bt a0 x9_1) 15)] : List Int)) := ⟨_, rfl⟩
                        replace H : (if x3_1.length + y149.length < 140737488355328 then (spec_Escaped.l0 k1 a0 (x3_1 ++ y149) (a0.size : Int) (wrap64 (x9_1 + 1))) else (none)) = some r := by first | (rw [hy149]; with_reducible exact H) | (have H2_ := (Option.bind_some _ _).symm.trans H; rw [hy149]; with_reducible exact H2_) | (have H2_ := (Option.bind_some _ _).symm.trans H; with_reducible exact H2_) | with_reducible exact H | (rw [hy149]; exact H) | exact H
                        have Ny149 := Aside0.mk hy149
                        clear hy149
                        by_cases c30 : x3_1.length + y149.length < 140737488355328
                        · rw [if_pos c30] at H
                          have LMc30 := Aside0.mk c30
                          clear c30
                          obtain ⟨y152, hy152⟩ : ∃ y_ : List Int, y_ = (x3_1 ++ y149) := ⟨_, rfl⟩
                          replace H : (spec_Escaped.l0 k1 a0 y152 (a0.size : Int) (wrap64 (x9_1 + 1))) = some r := by first | (rw [hy152]; with_reducible exact H) | (have H2_ := (Option.bind_some _ _).symm.trans H; rw [hy152]; with_reducible exact H2_) | (have H2_ := (Option.bind_some _ _).symm.trans H; with_reducible exact H2_) | with_reducible exact H | (rw [hy152]; exact H) | exact H
                          have Ny152 := Aside0.mk hy152
                          clear hy152
                          have H' := Aside0.mk H
                          clear H
                          have p7 : 0 ≤ (x9_1 : Int) := of_decide_eq_true (by first | (with_reducible assumption) | assumption)
                          have q7 : x9_1 < (a0.size : Int) := of_decide_eq_true (by first | (with_reducible assumption) | assumption)
                          have hx7 := bt_at a0 x9_1
                          replace p7 := eq_true p7
                          replace q7 := eq_true q7
                          try go_wp2
                          have n0_ := Aside0.mk (Kd.R_drew HO_3.out)
                          have n1_ := Aside0.mk (below_drew1 HB.out)
                          clear HO_3
                          clear HB
                          have HO_3 := n0_
                          have HB := n1_
                          clear n0_ n1_
                          have p26 : 0 ≤ ((ji23) : Int) := of_decide_eq_true (by first | (with_reducible assumption) | assumption)
                          have q26 : (ji23) < (16 : Int) := of_decide_eq_true (by first | (with_reducible assumption) | assumption)
                          have hx26 := bt_at (⟨#[48, 49, 50, 51, 52, 53, 54, 55, 56, 57, 97, 98, 99, 100, 101, 102]⟩ : ByteArray) (ji23)
                          replace p26 := eq_true p26
                          replace q26 := eq_true q26
                          have p29 : 0 ≤ ((Go.bits .and .u8 (bt a0 x9_1) 15) : Int) := of_decide_eq_true (by first | (with_reducible assumption) | assumption)
                          have q29 : (Go.bits .and .u8 (bt a0 x9_1) 15) < (16 : Int) := of_decide_eq_true (by first | (with_reducible assumption) | assumption)
                          have hx29 := bt_at (⟨#[48, 49, 50, 51, 52, 53, 54, 55, 56, 57, 97, 98, 99, 100, 101, 102]⟩ : ByteArray) (Go.bits .and .u8 (bt a0 x9_1) 15)
                          replace p29 := eq_true p29
                          replace q29 := eq_true q29
                          refine start_ (n := 10) (S := fun w' => True) (ds := []) #[false, false, false, false, false, false, false, false, false, false] (by kernel_rfl) rfl rfl trivial (fun hHeld => ?_); refine with_tabW spec_Escaped.tab7 spec_Escaped.bits7 (fun HT_ HW_ => ?_)
                          generalize wr.drew = w31 at HO_3 HB hHeld ⊢
                          refine pure_ (i := 0) (N := some 37) (v := ?_) (a' := ?_) #[true, false, false, false, false, false, false, false, false, false] rfl rfl (any_of HT_.out (by kernel_rfl)) (fun _ _ _ h => h) (Or.inl ⟨by rfl, ?_⟩) ?_ ?_
                          rotate_left
                          · intro w'
                            go_simp
                            with_reducible rfl
                          rotate_left
                          · simp only [Act.put, List.setIfInBounds_toArray, List.set_cons_zero, List.set_cons_succ, i64_w, i32_w]
                            rfl
                          refine pure_ (i := 1) (N := some 38) (v := ?_) (a' := ?_) #[true, true, false, false, false, false, false, false, false, false] rfl rfl (any_of HT_.out (by kernel_rfl)) (fun _ _ _ h => h) (Or.inl ⟨by rfl, ?_⟩) ?_ ?_
                          rotate_left
                          · intro w'
                            go_simp
                            with_reducible rfl
                          rotate_left
                          · simp only [Act.put, List.setIfInBounds_toArray, List.set_cons_zero, List.set_cons_succ, i64_w, i32_w]
                            rfl
                          refine pure_ (i := 2) (N := some 39) (v := ?_) (a' := ?_) #[true, true, true, false, false, false, false, false, false, false] rfl rfl (any_of HT_.out (by kernel_rfl)) (fun _ _ _ h => h) (Or.inl ⟨by rfl, ?_⟩) ?_ ?_
                          rotate_left
                          · intro w'
                            go_simp
                            with_reducible rfl
                          rotate_left
                          · simp only [Act.put, List.setIfInBounds_toArray, List.set_cons_zero, List.set_cons_succ, i64_w, i32_w]
                            rfl
                          refine pure_ (i := 4) (N := some 41) (v := ?_) (a' := ?_) #[true, true, true, false, true, false, false, false, false, false] rfl rfl (any_of HT_.out (by kernel_rfl)) (fun _ _ _ h => h) (Or.inl ⟨by rfl, ?_⟩) ?_ ?_
                          rotate_left
                          · intro w'
                            go_simp
                            with_reducible rfl
                          rotate_left
                          · simp only [Act.put, List.setIfInBounds_toArray, List.set_cons_zero, List.set_cons_succ, i64_w, i32_w]
                            rfl
                          refine pure_ (i := 5) (N := some 42) (v := ?_) (a' := ?_) #[true, true, true, false, true, true, false, false, false, false] rfl rfl (any_of HT_.out (by kernel_rfl)) (fun _ _ _ h => h) (Or.inl ⟨by rfl, ?_⟩) ?_ ?_
                          rotate_left
                          · intro w'
                            go_simp
                            with_reducible rfl
                          rotate_left
                          · simp only [Act.put, List.setIfInBounds_toArray, List.set_cons_zero, List.set_cons_succ, i64_w, i32_w]
                            rfl
                          refine take_ (i := 3) (N := some 40) (v := ?_) (a' := ?_) #[true, true, true, true, true, true, false, false, false, false] rfl rfl (take_ofW HT_.out HW_.out (by kernel_rfl)) (fun _ _ _ h => h) (Or.inl ⟨by rfl, ?_⟩) hHeld ?_ ?_
                          rotate_left
                          · intro w' _
                            go_simp
                            with_reducible rfl
                          rotate_left
                          · simp only [Act.put, List.setIfInBounds_toArray, List.set_cons_zero, List.set_cons_succ, i64_w, i32_w]
                            rfl
                          refine take_ (i := 6) (N := some 43) (v := ?_) (a' := ?_) #[true, true, true, true, true, true, true, false, false, false] rfl rfl (take_ofW HT_.out HW_.out (by kernel_rfl)) (fun _ _ _ h => h) (Or.inl ⟨by rfl, ?_⟩) hHeld ?_ ?_
                          rotate_left
                          · intro w' _
                            go_simp
                            with_reducible rfl
                          rotate_left
                          · simp only [Act.put, List.setIfInBounds_toArray, List.set_cons_zero, List.set_cons_succ, i64_w, i32_w]
                            rfl
                          refine one_ (i := 7) (N := some 44) #[true, true, true, true, true, true, true, true, false, false] rfl rfl (one_of HT_.out (by kernel_rfl)) (by decide) (fun K hK => ?_)
                          refine Kd.R_lit_step (Kd.int .u8) _ 5 ?hg (N := 44) ?hd (xs := ([92, bt (⟨#[48, 49, 50, 51, 52, 53, 54, 55, 56, 57, 97, 98, 99, 100, 101, 102]⟩ : ByteArray) (ji23), bt (⟨#[48, 49, 50, 51, 52, 53, 54, 55, 56, 57, 97, 98, 99, 100, 101, 102]⟩ : ByteArray) (Go.bits .and .u8 (bt a0 x9_1) 15)] : List Int)) (inner := [.int .u8 92, .int .u8 (bt (⟨#[48, 49, 50, 51, 52, 53, 54, 55, 56, 57, 97, 98, 99, 100, 101, 102]⟩ : ByteArray) (ji23)), .int .u8 (bt (⟨#[48, 49, 50, 51, 52, 53, 54, 55, 56, 57, 97, 98, 99, 100, 101, 102]⟩ : ByteArray) (Go.bits .and .u8 (bt a0 x9_1) 15))]) (ok := fun _ => True) (okp := fun _ => True) ?hr ?hp (fun _ hk => hk) trivial (Below.refl _ _) (Nat.le_refl _) (by simp) ?_; (case hd => rfl); (case hg => rfl); (case hr => first | (go_simp; done) | (go_simp; rfl)); (case hp => exact (Reps.one (show Kd.M (Kd.int .u8) _ _ _ 92 [.int .u8 92] from rfl) (Reps.one (show Kd.M (Kd.int .u8) _ _ _ (bt (⟨#[48, 49, 50, 51, 52, 53, 54, 55, 56, 57, 97, 98, 99, 100, 101, 102]⟩ : ByteArray) (ji23)) [.int .u8 (bt (⟨#[48, 49, 50, 51, 52, 53, 54, 55, 56, 57, 97, 98, 99, 100, 101, 102]⟩ : ByteArray) (ji23))] from rfl) (Reps.one (show Kd.M (Kd.int .u8) _ _ _ (bt (⟨#[48, 49, 50, 51, 52, 53, 54, 55, 56, 57, 97, 98, 99, 100, 101, 102]⟩ : ByteArray) (Go.bits .and .u8 (bt a0 x9_1) 15)) [.int .u8 (bt (⟨#[48, 49, 50, 51, 52, 53, 54, 55, 56, 57, 97, 98, 99, 100, 101, 102]⟩ : ByteArray) (Go.bits .and .u8 (bt a0 x9_1) 15))] from rfl) (Reps.none _ _)))))
                          intro v150 w32 ho33 hb hg_ hnew_
                          clear hg_ hnew_
                          (first | rw [← Ny149.out] at ho33 | (simp only [Int.reduceToNat] at ho33; rw [← Ny149.out] at ho33))
                          have n0_ := Aside0.mk (Kd.R_elder' (by (with_reducible repeat (first | apply Kd.R_alloc | apply Kd.R_drewN | apply Kd.R_drew)); exact HO_3.out) (Kd.R_base ho33) hb)
                          have n1_ := Aside0.mk (Kd.R_lower (Kd.R_new' ho33 (Kd.R_lt (by (with_reducible repeat (first | apply Kd.R_alloc | apply Kd.R_drewN | apply Kd.R_drew)); exact HO_3.out))) (below_size (by repeat (first | (with_reducible first | exact HB.out | apply below_alloc | apply pw_below_drewN | apply below_drew1) | exact HB.out))))
                          have n2_ := Aside0.mk (below_step (by repeat (first | (with_reducible first | exact HB.out | apply below_alloc | apply pw_below_drewN | apply below_drew1) | exact HB.out)) hb)
                          clear HO_3
                          clear HB
                          have HO_3 := n0_
                          have HO151 := n1_
                          have HB := n2_
                          clear n0_ n1_ n2_
                          clear hb ho33
                          obtain ⟨Ao35, co35, eo35⟩ := Kd.R_slice HO151.out
                          (first | subst eo35 | (injection eo35 with f1_ f2_ f3_; have f4_ := f1_.symm; have f5_ := f3_.symm; clear f1_ f2_ f3_; subst f4_; subst f5_))
                          refine hK.out _ _ trivial (fun hHeld => ?_)
                          clear hK K
                          refine norm_ (a' := ?_) ?_ ?_
                          rotate_left
                          · show Act.put _ (some 44) _ = _
                            simp only [Act.put, List.setIfInBounds_toArray, List.set_cons_zero, List.set_cons_succ, i64_w, i32_w]
                            rfl
                          refine one_ (i := 8) (N := some 45) #[true, true, true, true, true, true, true, true, true, false] rfl rfl (one_of HT_.out (by kernel_rfl)) (by decide) (fun K hK => ?_)
                          refine Kd.R_append_rows_step (Kd.int .u8) (w0 := w) w.heap.size (by rfl) (.tmp 37) (.tmp 44) 23 5 (.int .u8 0) 1 rfl Try.underlying23 info5 rfl (by decide) (by omega) u3 x3_1 y149 _ _ _ (fun k_ => some k_ ≠ (.slice Ao35 y149.length co35 : Value).ownBlock) (fun _ => False) rfl rfl ?aO ?aR (fun _ _ h => h) (fun _ h => h.elim) ?aF ?aB ?aS ?aL ?_
                          (case aR => repeat (first | exact (Kd.R_reads' HO151.out).2.2 | (with_reducible refine Kd.C_alloc ?_ _) | (with_reducible refine Kd.C_drewN ?_ _) | (with_reducible refine Kd.C_drew ?_)))
                          (case aB => exact (by repeat (first | (with_reducible first | exact HB.out | apply below_alloc | apply pw_below_drewN | apply below_drew1) | exact HB.out)))
                          (case aF => exact (fun k_ hk => Kd.fresh' (Kd.R_lt (by (with_reducible repeat (first | apply Kd.R_alloc | apply Kd.R_drewN | apply Kd.R_drew)); exact HO151.out)) k_ hk))
                          (case aO => exact (by (with_reducible repeat (first | apply Kd.R_alloc | apply Kd.R_drewN | apply Kd.R_drew)); exact Kd.R_mono HO_3.out (fun _ hk => hk.2)))
                          (case aS => exact (below_size (by repeat (first | (with_reducible first | exact HB.out | apply below_alloc | apply pw_below_drewN | apply below_drew1) | exact HB.out))))
                          (case aL => have := LMc30.out; omega)
                          intro v153 w34 ho hb hg hat
                          rw [← Ny152.out] at ho
                          have n0_ := Aside0.mk (Kd.R_after (ok := (fun _ => True)) (by (with_reducible repeat (first | apply Kd.R_alloc | apply Kd.R_drewN | apply Kd.R_drew)); exact HO151.out) hg hat)
                          have n1_ := Aside0.mk (hb)
                          have n2_ := Aside0.mk (ho)
                          clear HO151
                          clear HB
                          clear HO_3
                          have HO151 := n0_
                          have HB := n1_
                          have HO154 := n2_
                          clear n0_ n1_ n2_
                          clear ho hb hg hat
                          refine hK.out _ _ trivial (fun hHeld => ?_)
                          clear hK K
                          refine norm_ (a' := ?_) ?_ ?_
                          rotate_left
                          · show Act.put _ (some 45) _ = _
                            simp only [Act.put, List.setIfInBounds_toArray, List.set_cons_zero, List.set_cons_succ, i64_w, i32_w]
                            rfl
                          refine pure_ (i := 9) (N := some 3) (v := ?_) (a' := ?_) #[true, true, true, true, true, true, true, true, true, true] rfl rfl (any_of HT_.out (by kernel_rfl)) (fun _ _ _ h => h) (Or.inl ⟨by rfl, ?_⟩) ?_ ?_
                          rotate_left
                          · intro w'
                            go_simp
                            with_reducible rfl
                          rotate_left
                          · simp only [Act.put, List.setIfInBounds_toArray, List.set_cons_zero, List.set_cons_succ, i64_w, i32_w]
                            rfl
                          refine done_ (done_of HT_.out (by kernel_rfl)) ?_
                          try go_wp2
                          go_roundg k1
                          case measure => have := HK1.out; omega
                          case rel => exact ⟨(y152), (wrap64 (x9_1 + 1)), (by first | rfl | (simp; done) | (simp [*]; done)), H', ⟨by have := HK1.out; omega⟩, ⟨by (with_reducible repeat (first | apply Kd.R_alloc | apply Kd.R_drewN | apply Kd.R_drew)); exact Kd.R_mono HO154.out (fun _ hk => trivial)⟩, ⟨by repeat (first | (with_reducible first | exact HB.out | apply below_alloc | apply pw_below_drewN | apply below_drew1) | exact HB.out)⟩⟩
                        · rw [if_neg c30] at H
                          exact absurd H (by simp)
                      · rw [if_neg c28] at H
                        exact absurd H (by simp)
                    · rw [if_neg c27] at H
                      exact absurd H (by simp)
                  · rw [if_neg c25] at H
                    exact absurd H (by simp)
                · rw [if_neg c24] at H
                  exact absurd H (by simp)
              · rw [if_neg c22] at H
                have c22b0 : ((bt a0 x9_1) == 41) = false := beq_eq_false_iff_ne.mpr c22
                have c22b1 : ((bt a0 x9_1) != 41) = true := bne_iff_ne.mpr c22
                by_cases c36 : (bt a0 x9_1) = 42
                · rw [if_pos c36] at H
                  have c36b0 : ((bt a0 x9_1) == 42) = true := beq_iff_eq.mpr c36
                  have c36b1 : ((bt a0 x9_1) != 42) = false := bne_eq_false_iff_eq.mpr c36
                  clear c36
                  obtain ⟨ji37, hji37⟩ : ∃ j_ : Int, ((bt a0 x9_1) / 16) = j_ := ⟨_, rfl⟩
                  replace H : (if 0 ≤ (ji37) then (if (ji37) < 16 then (if 0 ≤ (Go.bits .and .u8 (bt a0 x9_1) 15) then (if (Go.bits .and .u8 (bt a0 x9_1) 15) < 16 then ((some (([92, bt (⟨#[48, 49, 50, 51, 52, 53, 54, 55, 56, 57, 97, 98, 99, 100, 101, 102]⟩ : ByteArray) (ji37), bt (⟨#[48, 49, 50, 51, 52, 53, 54, 55, 56, 57, 97, 98, 99, 100, 101, 102]⟩ : ByteArray) (Go.bits .and .u8 (bt a0 x9_1) 15)] : List Int) : List Int)).bind fun y155 => (if x3_1.length + y155.length < 140737488355328 then (spec_Escaped.l0 k1 a0 (x3_1 ++ y155) (a0.size : Int) (wrap64 (x9_1 + 1))) else (none))) else (none)) else (none)) else (none)) else (none)) = some r := by first | (rw [hji37] at H; exact H) | (simp only [hji37] at H ⊢; exact H)
                  by_cases c38 : 0 ≤ (ji37)
                  · rw [if_pos c38] at H
                    have c38b0 : decide (0 ≤ (ji37)) = true := decide_eq_true c38
                    clear c38
                    by_cases c39 : (ji37) < 16
                    · rw [if_pos c39] at H
                      have c39b0 : decide ((ji37) < 16) = true := decide_eq_true c39
                      clear c39
                      by_cases c41 : 0 ≤ (Go.bits .and .u8 (bt a0 x9_1) 15)
                      · rw [if_pos c41] at H
                        have c41b0 : decide (0 ≤ (Go.bits .and .u8 (bt a0 x9_1) 15)) = true := decide_eq_true c41
                        clear c41
                        by_cases c42 : (Go.bits .and .u8 (bt a0 x9_1) 15) < 16
                        · rw [if_pos c42] at H
                          have c42b0 : decide ((Go.bits .and .u8 (bt a0 x9_1) 15) < 16) = true := decide_eq_true c42
                          clear c42
                          obtain ⟨y155, hy155⟩ : ∃ y_ : List Int, y_ = (([92, bt (⟨#[48, 49, 50, 51, 52, 53, 54, 55, 56, 57, 97, 98, 99, 100, 101, 102]⟩ : ByteArray) (ji37), bt (⟨#[48, 49, 50, 51, 52, 53, 54, 55, 56, 57, 97, 98, 99, 100, 101, 102]⟩ : ByteArray) (Go.bits .and .u8 (bt a0 x9_1) 15)] : List Int)) := ⟨_, rfl⟩
                          replace H : (if x3_1.length + y155.length < 140737488355328 then (spec_Escaped.l0 k1 a0 (x3_1 ++ y155) (a0.size : Int) (wrap64 (x9_1 + 1))) else (none)) = some r := by first | (rw [hy155]; with_reducible exact H) | (have H2_ := (Option.bind_some _ _).symm.trans H; rw [hy155]; with_reducible exact H2_) | (have H2_ := (Option.bind_some _ _).symm.trans H; with_reducible exact H2_) | with_reducible exact H | (rw [hy155]; exact H) | exact H
                          have Ny155 := Aside0.mk hy155
                          clear hy155
                          by_cases c44 : x3_1.length + y155.length < 140737488355328
                          · rw [if_pos c44] at H
                            have LMc44 := Aside0.mk c44
                            clear c44
                            obtain ⟨y158, hy158⟩ : ∃ y_ : List Int, y_ = (x3_1 ++ y155) := ⟨_, rfl⟩
                            replace H : (spec_Escaped.l0 k1 a0 y158 (a0.size : Int) (wrap64 (x9_1 + 1))) = some r := by first | (rw [hy158]; with_reducible exact H) | (have H2_ := (Option.bind_some _ _).symm.trans H; rw [hy158]; with_reducible exact H2_) | (have H2_ := (Option.bind_some _ _).symm.trans H; with_reducible exact H2_) | with_reducible exact H | (rw [hy158]; exact H) | exact H
                            have Ny158 := Aside0.mk hy158
                            clear hy158
                            have H' := Aside0.mk H
                            clear H
                            have p7 : 0 ≤ (x9_1 : Int) := of_decide_eq_true (by first | (with_reducible assumption) | assumption)
                            have q7 : x9_1 < (a0.size : Int) := of_decide_eq_true (by first | (with_reducible assumption) | assumption)
                            have hx7 := bt_at a0 x9_1
                            replace p7 := eq_true p7
                            replace q7 := eq_true q7
                            try go_wp2
                            have n0_ := Aside0.mk (Kd.R_drew HO_3.out)
                            have n1_ := Aside0.mk (below_drew1 HB.out)
                            clear HO_3
                            clear HB
                            have HO_3 := n0_
                            have HB := n1_
                            clear n0_ n1_
                            have p40 : 0 ≤ ((ji37) : Int) := of_decide_eq_true (by first | (with_reducible assumption) | assumption)
                            have q40 : (ji37) < (16 : Int) := of_decide_eq_true (by first | (with_reducible assumption) | assumption)
                            have hx40 := bt_at (⟨#[48, 49, 50, 51, 52, 53, 54, 55, 56, 57, 97, 98, 99, 100, 101, 102]⟩ : ByteArray) (ji37)
                            replace p40 := eq_true p40
                            replace q40 := eq_true q40
                            have p43 : 0 ≤ ((Go.bits .and .u8 (bt a0 x9_1) 15) : Int) := of_decide_eq_true (by first | (with_reducible assumption) | assumption)
                            have q43 : (Go.bits .and .u8 (bt a0 x9_1) 15) < (16 : Int) := of_decide_eq_true (by first | (with_reducible assumption) | assumption)
                            have hx43 := bt_at (⟨#[48, 49, 50, 51, 52, 53, 54, 55, 56, 57, 97, 98, 99, 100, 101, 102]⟩ : ByteArray) (Go.bits .and .u8 (bt a0 x9_1) 15)
                            replace p43 := eq_true p43
                            replace q43 := eq_true q43
                            refine start_ (n := 10) (S := fun w' => True) (ds := []) #[false, false, false, false, false, false, false, false, false, false] (by kernel_rfl) rfl rfl trivial (fun hHeld => ?_); refine with_tabW spec_Escaped.tab7 spec_Escaped.bits7 (fun HT_ HW_ => ?_)
                            generalize wr.drew = w45 at HO_3 HB hHeld ⊢
                            refine pure_ (i := 0) (N := some 37) (v := ?_) (a' := ?_) #[true, false, false, false, false, false, false, false, false, false] rfl rfl (any_of HT_.out (by kernel_rfl)) (fun _ _ _ h => h) (Or.inl ⟨by rfl, ?_⟩) ?_ ?_
                            rotate_left
                            · intro w'
                              go_simp
                              with_reducible rfl
                            rotate_left
                            · simp only [Act.put, List.setIfInBounds_toArray, List.set_cons_zero, List.set_cons_succ, i64_w, i32_w]
                              rfl
                            refine pure_ (i := 1) (N := some 38) (v := ?_) (a' := ?_) #[true, true, false, false, false, false, false, false, false, false] rfl rfl (any_of HT_.out (by kernel_rfl)) (fun _ _ _ h => h) (Or.inl ⟨by rfl, ?_⟩) ?_ ?_
                            rotate_left
                            · intro w'
                              go_simp
                              with_reducible rfl
                            rotate_left
                            · simp only [Act.put, List.setIfInBounds_toArray, List.set_cons_zero, List.set_cons_succ, i64_w, i32_w]
                              rfl
                            refine pure_ (i := 2) (N := some 39) (v := ?_) (a' := ?_) #[true, true, true, false, false, false, false, false, false, false] rfl rfl (any_of HT_.out (by kernel_rfl)) (fun _ _ _ h => h) (Or.inl ⟨by rfl, ?_⟩) ?_ ?_
                            rotate_left
                            · intro w'
                              go_simp
                              with_reducible rfl
                            rotate_left
                            · simp only [Act.put, List.setIfInBounds_toArray, List.set_cons_zero, List.set_cons_succ, i64_w, i32_w]
                              rfl
                            refine pure_ (i := 4) (N := some 41) (v := ?_) (a' := ?_) #[true, true, true, false, true, false, false, false, false, false] rfl rfl (any_of HT_.out (by kernel_rfl)) (fun _ _ _ h => h) (Or.inl ⟨by rfl, ?_⟩) ?_ ?_
                            rotate_left
                            · intro w'
                              go_simp
                              with_reducible rfl
                            rotate_left
                            · simp only [Act.put, List.setIfInBounds_toArray, List.set_cons_zero, List.set_cons_succ, i64_w, i32_w]
                              rfl
                            refine pure_ (i := 5) (N := some 42) (v := ?_) (a' := ?_) #[true, true, true, false, true, true, false, false, false, false] rfl rfl (any_of HT_.out (by kernel_rfl)) (fun _ _ _ h => h) (Or.inl ⟨by rfl, ?_⟩) ?_ ?_
                            rotate_left
                            · intro w'
                              go_simp
                              with_reducible rfl
                            rotate_left
                            · simp only [Act.put, List.setIfInBounds_toArray, List.set_cons_zero, List.set_cons_succ, i64_w, i32_w]
                              rfl
                            refine take_ (i := 3) (N := some 40) (v := ?_) (a' := ?_) #[true, true, true, true, true, true, false, false, false, false] rfl rfl (take_ofW HT_.out HW_.out (by kernel_rfl)) (fun _ _ _ h => h) (Or.inl ⟨by rfl, ?_⟩) hHeld ?_ ?_
                            rotate_left
                            · intro w' _
                              go_simp
                              with_reducible rfl
                            rotate_left
                            · simp only [Act.put, List.setIfInBounds_toArray, List.set_cons_zero, List.set_cons_succ, i64_w, i32_w]
                              rfl
                            refine take_ (i := 6) (N := some 43) (v := ?_) (a' := ?_) #[true, true, true, true, true, true, true, false, false, false] rfl rfl (take_ofW HT_.out HW_.out (by kernel_rfl)) (fun _ _ _ h => h) (Or.inl ⟨by rfl, ?_⟩) hHeld ?_ ?_
                            rotate_left
                            · intro w' _
                              go_simp
                              with_reducible rfl
                            rotate_left
                            · simp only [Act.put, List.setIfInBounds_toArray, List.set_cons_zero, List.set_cons_succ, i64_w, i32_w]
                              rfl
                            refine one_ (i := 7) (N := some 44) #[true, true, true, true, true, true, true, true, false, false] rfl rfl (one_of HT_.out (by kernel_rfl)) (by decide) (fun K hK => ?_)
                            refine Kd.R_lit_step (Kd.int .u8) _ 5 ?hg (N := 44) ?hd (xs := ([92, bt (⟨#[48, 49, 50, 51, 52, 53, 54, 55, 56, 57, 97, 98, 99, 100, 101, 102]⟩ : ByteArray) (ji37), bt (⟨#[48, 49, 50, 51, 52, 53, 54, 55, 56, 57, 97, 98, 99, 100, 101, 102]⟩ : ByteArray) (Go.bits .and .u8 (bt a0 x9_1) 15)] : List Int)) (inner := [.int .u8 92, .int .u8 (bt (⟨#[48, 49, 50, 51, 52, 53, 54, 55, 56, 57, 97, 98, 99, 100, 101, 102]⟩ : ByteArray) (ji37)), .int .u8 (bt (⟨#[48, 49, 50, 51, 52, 53, 54, 55, 56, 57, 97, 98, 99, 100, 101, 102]⟩ : ByteArray) (Go.bits .and .u8 (bt a0 x9_1) 15))]) (ok := fun _ => True) (okp := fun _ => True) ?hr ?hp (fun _ hk => hk) trivial (Below.refl _ _) (Nat.le_refl _) (by simp) ?_; (case hd => rfl); (case hg => rfl); (case hr => first | (go_simp; done) | (go_simp; rfl)); (case hp => exact (Reps.one (show Kd.M (Kd.int .u8) _ _ _ 92 [.int .u8 92] from rfl) (Reps.one (show Kd.M (Kd.int .u8) _ _ _ (bt (⟨#[48, 49, 50, 51, 52, 53, 54, 55, 56, 57, 97, 98, 99, 100, 101, 102]⟩ : ByteArray) (ji37)) [.int .u8 (bt (⟨#[48, 49, 50, 51, 52, 53, 54, 55, 56, 57, 97, 98, 99, 100, 101, 102]⟩ : ByteArray) (ji37))] from rfl) (Reps.one (show Kd.M (Kd.int .u8) _ _ _ (bt (⟨#[48, 49, 50, 51, 52, 53, 54, 55, 56, 57, 97, 98, 99, 100, 101, 102]⟩ : ByteArray) (Go.bits .and .u8 (bt a0 x9_1) 15)) [.int .u8 (bt (⟨#[48, 49, 50, 51, 52, 53, 54, 55, 56, 57, 97, 98, 99, 100, 101, 102]⟩ : ByteArray) (Go.bits .and .u8 (bt a0 x9_1) 15))] from rfl) (Reps.none _ _)))))
                            intro v156 w46 ho47 hb hg_ hnew_
                            clear hg_ hnew_
                            (first | rw [← Ny155.out] at ho47 | (simp only [Int.reduceToNat] at ho47; rw [← Ny155.out] at ho47))
                            have n0_ := Aside0.mk (Kd.R_elder' (by (with_reducible repeat (first | apply Kd.R_alloc | apply Kd.R_drewN | apply Kd.R_drew)); exact HO_3.out) (Kd.R_base ho47) hb)
                            have n1_ := Aside0.mk (Kd.R_lower (Kd.R_new' ho47 (Kd.R_lt (by (with_reducible repeat (first | apply Kd.R_alloc | apply Kd.R_drewN | apply Kd.R_drew)); exact HO_3.out))) (below_size (by repeat (first | (with_reducible first | exact HB.out | apply below_alloc | apply pw_below_drewN | apply below_drew1) | exact HB.out))))
                            have n2_ := Aside0.mk (below_step (by repeat (first | (with_reducible first | exact HB.out | apply below_alloc | apply pw_below_drewN | apply below_drew1) | exact HB.out)) hb)
                            clear HO_3
                            clear HB
                            have HO_3 := n0_
                            have HO157 := n1_
                            have HB := n2_
                            clear n0_ n1_ n2_
                            clear hb ho47
                            obtain ⟨Ao49, co49, eo49⟩ := Kd.R_slice HO157.out
                            (first | subst eo49 | (injection eo49 with f1_ f2_ f3_; have f4_ := f1_.symm; have f5_ := f3_.symm; clear f1_ f2_ f3_; subst f4_; subst f5_))
                            refine hK.out _ _ trivial (fun hHeld => ?_)
                            clear hK K
                            refine norm_ (a' := ?_) ?_ ?_
                            rotate_left
                            · show Act.put _ (some 44) _ = _
                              simp only [Act.put, List.setIfInBounds_toArray, List.set_cons_zero, List.set_cons_succ, i64_w, i32_w]
                              rfl
                            refine one_ (i := 8) (N := some 45) #[true, true, true, true, true, true, true, true, true, false] rfl rfl (one_of HT_.out (by kernel_rfl)) (by decide) (fun K hK => ?_)
                            refine Kd.R_append_rows_step (Kd.int .u8) (w0 := w) w.heap.size (by rfl) (.tmp 37) (.tmp 44) 23 5 (.int .u8 0) 1 rfl Try.underlying23 info5 rfl (by decide) (by omega) u3 x3_1 y155 _ _ _ (fun k_ => some k_ ≠ (.slice Ao49 y155.length co49 : Value).ownBlock) (fun _ => False) rfl rfl ?aO ?aR (fun _ _ h => h) (fun _ h => h.elim) ?aF ?aB ?aS ?aL ?_
                            (case aR => repeat (first | exact (Kd.R_reads' HO157.out).2.2 | (with_reducible refine Kd.C_alloc ?_ _) | (with_reducible refine Kd.C_drewN ?_ _) | (with_reducible refine Kd.C_drew ?_)))
                            (case aB => exact (by repeat (first | (with_reducible first | exact HB.out | apply below_alloc | apply pw_below_drewN | apply below_drew1) | exact HB.out)))
                            (case aF => exact (fun k_ hk => Kd.fresh' (Kd.R_lt (by (with_reducible repeat (first | apply Kd.R_alloc | apply Kd.R_drewN | apply Kd.R_drew)); exact HO157.out)) k_ hk))
                            (case aO => exact (by (with_reducible repeat (first | apply Kd.R_alloc | apply Kd.R_drewN | apply Kd.R_drew)); exact Kd.R_mono HO_3.out (fun _ hk => hk.2)))
                            (case aS => exact (below_size (by repeat (first | (with_reducible first | exact HB.out | apply below_alloc | apply pw_below_drewN | apply below_drew1) | exact HB.out))))
                            (case aL => have := LMc44.out; omega)
                            intro v159 w48 ho hb hg hat
                            rw [← Ny158.out] at ho
                            have n0_ := Aside0.mk (Kd.R_after (ok := (fun _ => True)) (by (with_reducible repeat (first | apply Kd.R_alloc | apply Kd.R_drewN | apply Kd.R_drew)); exact HO157.out) hg hat)
                            have n1_ := Aside0.mk (hb)
                            have n2_ := Aside0.mk (ho)
                            clear HO157
                            clear HB
                            clear HO_3
                            have HO157 := n0_
                            have HB := n1_
                            have HO160 := n2_
                            clear n0_ n1_ n2_
                            clear ho hb hg hat
                            refine hK.out _ _ trivial (fun hHeld => ?_)
                            clear hK K
                            refine norm_ (a' := ?_) ?_ ?_
                            rotate_left
                            · show Act.put _ (some 45) _ = _
                              simp only [Act.put, List.setIfInBounds_toArray, List.set_cons_zero, List.set_cons_succ, i64_w, i32_w]
                              rfl
                            refine pure_ (i := 9) (N := some 3) (v := ?_) (a' := ?_) #[true, true, true, true, true, true, true, true, true, true] rfl rfl (any_of HT_.out (by kernel_rfl)) (fun _ _ _ h => h) (Or.inl ⟨by rfl, ?_⟩) ?_ ?_
                            rotate_left
                            · intro w'
                              go_simp
                              with_reducible rfl
                            rotate_left
                            · simp only [Act.put, List.setIfInBounds_toArray, List.set_cons_zero, List.set_cons_succ, i64_w, i32_w]
                              rfl
                            refine done_ (done_of HT_.out (by kernel_rfl)) ?_
                            try go_wp2
                            go_roundg k1
                            case measure => have := HK1.out; omega
                            case rel => exact ⟨(y158), (wrap64 (x9_1 + 1)), (by first | rfl | (simp; done) | (simp [*]; done)), H', ⟨by have := HK1.out; omega⟩, ⟨by (with_reducible repeat (first | apply Kd.R_alloc | apply Kd.R_drewN | apply Kd.R_drew)); exact Kd.R_mono HO160.out (fun _ hk => trivial)⟩, ⟨by repeat (first | (with_reducible first | exact HB.out | apply below_alloc | apply pw_below_drewN | apply below_drew1) | exact HB.out)⟩⟩
                          · rw [if_neg c44] at H
                            exact absurd H (by simp)
                        · rw [if_neg c42] at H
                          exact absurd H (by simp)
                      · rw [if_neg c41] at H
                        exact absurd H (by simp)
                    · rw [if_neg c39] at H
                      exact absurd H (by simp)
                  · rw [if_neg c38] at H
                    exact absurd H (by simp)
                · rw [if_neg c36] at H
                  have c36b0 : ((bt a0 x9_1) == 42) = false := beq_eq_false_iff_ne.mpr c36
                  have c36b1 : ((bt a0 x9_1) != 42) = true := bne_iff_ne.mpr c36
                  by_cases c50 : (bt a0 x9_1) = 92
                  · rw [if_pos c50] at H
                    have c50b0 : ((bt a0 x9_1) == 92) = true := beq_iff_eq.mpr c50
                    have c50b1 : ((bt a0 x9_1) != 92) = false := bne_eq_false_iff_eq.mpr c50
                    clear c50
                    obtain ⟨ji51, hji51⟩ : ∃ j_ : Int, ((bt a0 x9_1) / 16) = j_ := ⟨_, rfl⟩
                    replace H : (if 0 ≤ (ji51) then (if (ji51) < 16 then (if 0 ≤ (Go.bits .and .u8 (bt a0 x9_1) 15) then (if (Go.bits .and .u8 (bt a0 x9_1) 15) < 16 then ((some (([92, bt (⟨#[48, 49, 50, 51, 52, 53, 54, 55, 56, 57, 97, 98, 99, 100, 101, 102]⟩ : ByteArray) (ji51), bt (⟨#[48, 49, 50, 51, 52, 53, 54, 55, 56, 57, 97, 98, 99, 100, 101, 102]⟩ : ByteArray) (Go.bits .and .u8 (bt a0 x9_1) 15)] : List Int) : List Int)).bind fun y161 => (if x3_1.length + y161.length < 140737488355328 then (spec_Escaped.l0 k1 a0 (x3_1 ++ y161) (a0.size : Int) (wrap64 (x9_1 + 1))) else (none))) else (none)) else (none)) else (none)) else (none)) = some r := by first | (rw [hji51] at H; exact H) | (simp only [hji51] at H ⊢; exact H)
                    by_cases c52 : 0 ≤ (ji51)
                    · rw [if_pos c52] at H
                      have c52b0 : decide (0 ≤ (ji51)) = true := decide_eq_true c52
                      clear c52
                      by_cases c53 : (ji51) < 16
                      · rw [if_pos c53] at H
                        have c53b0 : decide ((ji51) < 16) = true := decide_eq_true c53
                        clear c53
                        by_cases c55 : 0 ≤ (Go.bits .and .u8 (bt a0 x9_1) 15)
                        · rw [if_pos c55] at H
                          have c55b0 : decide (0 ≤ (Go.bits .and .u8 (bt a0 x9_1) 15)) = true := decide_eq_true c55
                          clear c55
                          by_cases c56 : (Go.bits .and .u8 (bt a0 x9_1) 15) < 16
                          · rw [if_pos c56] at H
                            have c56b0 : decide ((Go.bits .and .u8 (bt a0 x9_1) 15) < 16) = true := decide_eq_true c56
                            clear c56
                            obtain ⟨y161, hy161⟩ : ∃ y_ : List Int, y_ = (([92, bt (⟨#[48, 49, 50, 51, 52, 53, 54, 55, 56, 57, 97, 98, 99, 100, 101, 102]⟩ : ByteArray) (ji51), bt (⟨#[48, 49, 50, 51, 52, 53, 54, 55, 56, 57, 97, 98, 99, 100, 101, 102]⟩ : ByteArray) (Go.bits .and .u8 (bt a0 x9_1) 15)] : List Int)) := ⟨_, rfl⟩
                            replace H : (if x3_1.length + y161.length < 140737488355328 then (spec_Escaped.l0 k1 a0 (x3_1 ++ y161) (a0.size : Int) (wrap64 (x9_1 + 1))) else (none)) = some r := by first | (rw [hy161]; with_reducible exact H) | (have H2_ := (Option.bind_some _ _).symm.trans H; rw [hy161]; with_reducible exact H2_) | (have H2_ := (Option.bind_some _ _).symm.trans H; with_reducible exact H2_) | with_reducible exact H | (rw [hy161]; exact H) | exact H
                            have Ny161 := Aside0.mk hy161
                            clear hy161
                            by_cases c58 : x3_1.length + y161.length < 140737488355328
                            · rw [if_pos c58] at H
                              have LMc58 := Aside0.mk c58
                              clear c58
                              obtain ⟨y164, hy164⟩ : ∃ y_ : List Int, y_ = (x3_1 ++ y161) := ⟨_, rfl⟩
                              replace H : (spec_Escaped.l0 k1 a0 y164 (a0.size : Int) (wrap64 (x9_1 + 1))) = some r := by first | (rw [hy164]; with_reducible exact H) | (have H2_ := (Option.bind_some _ _).symm.trans H; rw [hy164]; with_reducible exact H2_) | (have H2_ := (Option.bind_some _ _).symm.trans H; with_reducible exact H2_) | with_reducible exact H | (rw [hy164]; exact H) | exact H
                              have Ny164 := Aside0.mk hy164
                              clear hy164
                              have H' := Aside0.mk H
                              clear H
                              have p7 : 0 ≤ (x9_1 : Int) := of_decide_eq_true (by first | (with_reducible assumption) | assumption)
                              have q7 : x9_1 < (a0.size : Int) := of_decide_eq_true (by first | (with_reducible assumption) | assumption)
                              have hx7 := bt_at a0 x9_1
                              replace p7 := eq_true p7
                              replace q7 := eq_true q7
                              try go_wp2
                              have n0_ := Aside0.mk (Kd.R_drew HO_3.out)
                              have n1_ := Aside0.mk (below_drew1 HB.out)
                              clear HO_3
                              clear HB
                              have HO_3 := n0_
                              have HB := n1_
                              clear n0_ n1_
                              have p54 : 0 ≤ ((ji51) : Int) := of_decide_eq_true (by first | (with_reducible assumption) | assumption)
                              have q54 : (ji51) < (16 : Int) := of_decide_eq_true (by first | (with_reducible assumption) | assumption)
                              have hx54 := bt_at (⟨#[48, 49, 50, 51, 52, 53, 54, 55, 56, 57, 97, 98, 99, 100, 101, 102]⟩ : ByteArray) (ji51)
                              replace p54 := eq_true p54
                              replace q54 := eq_true q54
                              have p57 : 0 ≤ ((Go.bits .and .u8 (bt a0 x9_1) 15) : Int) := of_decide_eq_true (by first | (with_reducible assumption) | assumption)
                              have q57 : (Go.bits .and .u8 (bt a0 x9_1) 15) < (16 : Int) := of_decide_eq_true (by first | (with_reducible assumption) | assumption)
                              have hx57 := bt_at (⟨#[48, 49, 50, 51, 52, 53, 54, 55, 56, 57, 97, 98, 99, 100, 101, 102]⟩ : ByteArray) (Go.bits .and .u8 (bt a0 x9_1) 15)
                              replace p57 := eq_true p57
                              replace q57 := eq_true q57
                              refine start_ (n := 10) (S := fun w' => True) (ds := []) #[false, false, false, false, false, false, false, false, false, false] (by kernel_rfl) rfl rfl trivial (fun hHeld => ?_); refine with_tabW spec_Escaped.tab7 spec_Escaped.bits7 (fun HT_ HW_ => ?_)
                              generalize wr.drew = w59 at HO_3 HB hHeld ⊢
                              refine pure_ (i := 0) (N := some 37) (v := ?_) (a' := ?_) #[true, false, false, false, false, false, false, false, false, false] rfl rfl (any_of HT_.out (by kernel_rfl)) (fun _ _ _ h => h) (Or.inl ⟨by rfl, ?_⟩) ?_ ?_
                              rotate_left
                              · intro w'
                                go_simp
                                with_reducible rfl
                              rotate_left
                              · simp only [Act.put, List.setIfInBounds_toArray, List.set_cons_zero, List.set_cons_succ, i64_w, i32_w]
                                rfl
                              refine pure_ (i := 1) (N := some 38) (v := ?_) (a' := ?_) #[true, true, false, false, false, false, false, false, false, false] rfl rfl (any_of HT_.out (by kernel_rfl)) (fun _ _ _ h => h) (Or.inl ⟨by rfl, ?_⟩) ?_ ?_
                              rotate_left
                              · intro w'
                                go_simp
                                with_reducible rfl
                              rotate_left
                              · simp only [Act.put, List.setIfInBounds_toArray, List.set_cons_zero, List.set_cons_succ, i64_w, i32_w]
                                rfl
                              refine pure_ (i := 2) (N := some 39) (v := ?_) (a' := ?_) #[true, true, true, false, false, false, false, false, false, false] rfl rfl (any_of HT_.out (by kernel_rfl)) (fun _ _ _ h => h) (Or.inl ⟨by rfl, ?_⟩) ?_ ?_
                              rotate_left
                              · intro w'
                                go_simp
                                with_reducible rfl
                              rotate_left
                              · simp only [Act.put, List.setIfInBounds_toArray, List.set_cons_zero, List.set_cons_succ, i64_w, i32_w]
                                rfl
                              refine pure_ (i := 4) (N := some 41) (v := ?_) (a' := ?_) #[true, true, true, false, true, false, false, false, false, false] rfl rfl (any_of HT_.out (by kernel_rfl)) (fun _ _ _ h => h) (Or.inl ⟨by rfl, ?_⟩) ?_ ?_
                              rotate_left
                              · intro w'
                                go_simp
                                with_reducible rfl
                              rotate_left
                              · simp only [Act.put, List.setIfInBounds_toArray, List.set_cons_zero, List.set_cons_succ, i64_w, i32_w]
                                rfl
                              refine pure_ (i := 5) (N := some 42) (v := ?_) (a' := ?_) #[true, true, true, false, true, true, false, false, false, false] rfl rfl (any_of HT_.out (by kernel_rfl)) (fun _ _ _ h => h) (Or.inl ⟨by rfl, ?_⟩) ?_ ?_
                              rotate_left
                              · intro w'
                                go_simp
                                with_reducible rfl
                              rotate_left
                              · simp only [Act.put, List.setIfInBounds_toArray, List.set_cons_zero, List.set_cons_succ, i64_w, i32_w]
                                rfl
                              refine take_ (i := 3) (N := some 40) (v := ?_) (a' := ?_) #[true, true, true, true, true, true, false, false, false, false] rfl rfl (take_ofW HT_.out HW_.out (by kernel_rfl)) (fun _ _ _ h => h) (Or.inl ⟨by rfl, ?_⟩) hHeld ?_ ?_
                              rotate_left
                              · intro w' _
                                go_simp
                                with_reducible rfl
                              rotate_left
                              · simp only [Act.put, List.setIfInBounds_toArray, List.set_cons_zero, List.set_cons_succ, i64_w, i32_w]
                                rfl
                              refine take_ (i := 6) (N := some 43) (v := ?_) (a' := ?_) #[true, true, true, true, true, true, true, false, false, false] rfl rfl (take_ofW HT_.out HW_.out (by kernel_rfl)) (fun _ _ _ h => h) (Or.inl ⟨by rfl, ?_⟩) hHeld ?_ ?_
                              rotate_left
                              · intro w' _
                                go_simp
                                with_reducible rfl
                              rotate_left
                              · simp only [Act.put, List.setIfInBounds_toArray, List.set_cons_zero, List.set_cons_succ, i64_w, i32_w]
                                rfl
                              refine one_ (i := 7) (N := some 44) #[true, true, true, true, true, true, true, true, false, false] rfl rfl (one_of HT_.out (by kernel_rfl)) (by decide) (fun K hK => ?_)
                              refine Kd.R_lit_step (Kd.int .u8) _ 5 ?hg (N := 44) ?hd (xs := ([92, bt (⟨#[48, 49, 50, 51, 52, 53, 54, 55, 56, 57, 97, 98, 99, 100, 101, 102]⟩ : ByteArray) (ji51), bt (⟨#[48, 49, 50, 51, 52, 53, 54, 55, 56, 57, 97, 98, 99, 100, 101, 102]⟩ : ByteArray) (Go.bits .and .u8 (bt a0 x9_1) 15)] : List Int)) (inner := [.int .u8 92, .int .u8 (bt (⟨#[48, 49, 50, 51, 52, 53, 54, 55, 56, 57, 97, 98, 99, 100, 101, 102]⟩ : ByteArray) (ji51)), .int .u8 (bt (⟨#[48, 49, 50, 51, 52, 53, 54, 55, 56, 57, 97, 98, 99, 100, 101, 102]⟩ : ByteArray) (Go.bits .and .u8 (bt a0 x9_1) 15))]) (ok := fun _ => True) (okp := fun _ => True) ?hr ?hp (fun _ hk => hk) trivial (Below.refl _ _) (Nat.le_refl _) (by simp) ?_; (case hd => rfl); (case hg => rfl); (case hr => first | (go_simp; done) | (go_simp; rfl)); (case hp => exact (Reps.one (show Kd.M (Kd.int .u8) _ _ _ 92 [.int .u8 92] from rfl) (Reps.one (show Kd.M (Kd.int .u8) _ _ _ (bt (⟨#[48, 49, 50, 51, 52, 53, 54, 55, 56, 57, 97, 98, 99, 100, 101, 102]⟩ : ByteArray) (ji51)) [.int .u8 (bt (⟨#[48, 49, 50, 51, 52, 53, 54, 55, 56, 57, 97, 98, 99, 100, 101, 102]⟩ : ByteArray) (ji51))] from rfl) (Reps.one (show Kd.M (Kd.int .u8) _ _ _ (bt (⟨#[48, 49, 50, 51, 52, 53, 54, 55, 56, 57, 97, 98, 99, 100, 101, 102]⟩ : ByteArray) (Go.bits .and .u8 (bt a0 x9_1) 15)) [.int .u8 (bt (⟨#[48, 49, 50, 51, 52, 53, 54, 55, 56, 57, 97, 98, 99, 100, 101, 102]⟩ : ByteArray) (Go.bits .and .u8 (bt a0 x9_1) 15))] from rfl) (Reps.none _ _)))))
                              intro v162 w60 ho61 hb hg_ hnew_
                              clear hg_ hnew_
                              (first | rw [← Ny161.out] at ho61 | (simp only [Int.reduceToNat] at ho61; rw [← Ny161.out] at ho61))
                              have n0_ := Aside0.mk (Kd.R_elder' (by (with_reducible repeat (first | apply Kd.R_alloc | apply Kd.R_drewN | apply Kd.R_drew)); exact HO_3.out) (Kd.R_base ho61) hb)
                              have n1_ := Aside0.mk (Kd.R_lower (Kd.R_new' ho61 (Kd.R_lt (by (with_reducible repeat (first | apply Kd.R_alloc | apply Kd.R_drewN | apply Kd.R_drew)); exact HO_3.out))) (below_size (by repeat (first | (with_reducible first | exact HB.out | apply below_alloc | apply pw_below_drewN | apply below_drew1) | exact HB.out))))
                              have n2_ := Aside0.mk (below_step (by repeat (first | (with_reducible first | exact HB.out | apply below_alloc | apply pw_below_drewN | apply below_drew1) | exact HB.out)) hb)
                              clear HO_3
                              clear HB
                              have HO_3 := n0_
                              have HO163 := n1_
                              have HB := n2_
                              clear n0_ n1_ n2_
                              clear hb ho61
                              obtain ⟨Ao63, co63, eo63⟩ := Kd.R_slice HO163.out
                              (first | subst eo63 | (injection eo63 with f1_ f2_ f3_; have f4_ := f1_.symm; have f5_ := f3_.symm; clear f1_ f2_ f3_; subst f4_; subst f5_))
                              refine hK.out _ _ trivial (fun hHeld => ?_)
                              clear hK K
                              refine norm_ (a' := ?_) ?_ ?_
                              rotate_left
                              · show Act.put _ (some 44) _ = _
                                simp only [Act.put, List.setIfInBounds_toArray, List.set_cons_zero, List.set_cons_succ, i64_w, i32_w]
                                rfl
                              refine one_ (i := 8) (N := some 45) #[true, true, true, true, true, true, true, true, true, false] rfl rfl (one_of HT_.out (by kernel_rfl)) (by decide) (fun K hK => ?_)
                              refine Kd.R_append_rows_step (Kd.int .u8) (w0 := w) w.heap.size (by rfl) (.tmp 37) (.tmp 44) 23 5 (.int .u8 0) 1 rfl Try.underlying23 info5 rfl (by decide) (by omega) u3 x3_1 y161 _ _ _ (fun k_ => some k_ ≠ (.slice Ao63 y161.length co63 : Value).ownBlock) (fun _ => False) rfl rfl ?aO ?aR (fun _ _ h => h) (fun _ h => h.elim) ?aF ?aB ?aS ?aL ?_
                              (case aR => repeat (first | exact (Kd.R_reads' HO163.out).2.2 | (with_reducible refine Kd.C_alloc ?_ _) | (with_reducible refine Kd.C_drewN ?_ _) | (with_reducible refine Kd.C_drew ?_)))
                              (case aB => exact (by repeat (first | (with_reducible first | exact HB.out | apply below_alloc | apply pw_below_drewN | apply below_drew1) | exact HB.out)))
                              (case aF => exact (fun k_ hk => Kd.fresh' (Kd.R_lt (by (with_reducible repeat (first | apply Kd.R_alloc | apply Kd.R_drewN | apply Kd.R_drew)); exact HO163.out)) k_ hk))
                              (case aO => exact (by (with_reducible repeat (first | apply Kd.R_alloc | apply Kd.R_drewN | apply Kd.R_drew)); exact Kd.R_mono HO_3.out (fun _ hk => hk.2)))
                              (case aS => exact (below_size (by repeat (first | (with_reducible first | exact HB.out | apply below_alloc | apply pw_below_drewN | apply below_drew1) | exact HB.out))))
                              (case aL => have := LMc58.out; omega)
                              intro v165 w62 ho hb hg hat
                              rw [← Ny164.out] at ho
                              have n0_ := Aside0.mk (Kd.R_after (ok := (fun _ => True)) (by (with_reducible repeat (first | apply Kd.R_alloc | apply Kd.R_drewN | apply Kd.R_drew)); exact HO163.out) hg hat)
                              have n1_ := Aside0.mk (hb)
                              have n2_ := Aside0.mk (ho)
                              clear HO163
                              clear HB
                              clear HO_3
                              have HO163 := n0_
                              have HB := n1_
                              have HO166 := n2_
                              clear n0_ n1_ n2_
                              clear ho hb hg hat
                              refine hK.out _ _ trivial (fun hHeld => ?_)
                              clear hK K
                              refine norm_ (a' := ?_) ?_ ?_
                              rotate_left
                              · show Act.put _ (some 45) _ = _
                                simp only [Act.put, List.setIfInBounds_toArray, List.set_cons_zero, List.set_cons_succ, i64_w, i32_w]
                                rfl
                              refine pure_ (i := 9) (N := some 3) (v := ?_) (a' := ?_) #[true, true, true, true, true, true, true, true, true, true] rfl rfl (any_of HT_.out (by kernel_rfl)) (fun _ _ _ h => h) (Or.inl ⟨by rfl, ?_⟩) ?_ ?_
                              rotate_left
                              · intro w'
                                go_simp
                                with_reducible rfl
                              rotate_left
                              · simp only [Act.put, List.setIfInBounds_toArray, List.set_cons_zero, List.set_cons_succ, i64_w, i32_w]
                                rfl
                              refine done_ (done_of HT_.out (by kernel_rfl)) ?_
                              try go_wp2
                              go_roundg k1
                              case measure => have := HK1.out; omega
                              case rel => exact ⟨(y164), (wrap64 (x9_1 + 1)), (by first | rfl | (simp; done) | (simp [*]; done)), H', ⟨by have := HK1.out; omega⟩, ⟨by (with_reducible repeat (first | apply Kd.R_alloc | apply Kd.R_drewN | apply Kd.R_drew)); exact Kd.R_mono HO166.out (fun _ hk => trivial)⟩, ⟨by repeat (first | (with_reducible first | exact HB.out | apply below_alloc | apply pw_below_drewN | apply below_drew1) | exact HB.out)⟩⟩
                            · rw [if_neg c58] at H
                              exact absurd H (by simp)
                          · rw [if_neg c56] at H
                            exact absurd H (by simp)
                        · rw [if_neg c55] at H
                          exact absurd H (by simp)
                      · rw [if_neg c53] at H
                        exact absurd H (by simp)
                    · rw [if_neg c52] at H
                      exact absurd H (by simp)
                  · rw [if_neg c50] at H
                    have c50b0 : ((bt a0 x9_1) == 92) = false := beq_eq_false_iff_ne.mpr c50
                    have c50b1 : ((bt a0 x9_1) != 92) = true := bne_iff_ne.mpr c50
                    by_cases c64 : (bt a0 x9_1) = 0
                    · rw [if_pos c64] at H
                      have c64b0 : ((bt a0 x9_1) == 0) = true := beq_iff_eq.mpr c64
                      have c64b1 : ((bt a0 x9_1) != 0) = false := bne_eq_false_iff_eq.mpr c64
                      clear c64
                      obtain ⟨ji65, hji65⟩ : ∃ j_ : Int, ((bt a0 x9_1) / 16) = j_ := ⟨_, rfl⟩
                      replace H : (if 0 ≤ (ji65) then (if (ji65) < 16 then (if 0 ≤ (Go.bits .and .u8 (bt a0 x9_1) 15) then (if (Go.bits .and .u8 (bt a0 x9_1) 15) < 16 then ((some (([92, bt (⟨#[48, 49, 50, 51, 52, 53, 54, 55, 56, 57, 97, 98, 99, 100, 101, 102]⟩ : ByteArray) (ji65), bt (⟨#[48, 49, 50, 51, 52, 53, 54, 55, 56, 57, 97, 98, 99, 100, 101, 102]⟩ : ByteArray) (Go.bits .and .u8 (bt a0 x9_1) 15)] : List Int) : List Int)).bind fun y167 => (if x3_1.length + y167.length < 140737488355328 then (spec_Escaped.l0 k1 a0 (x3_1 ++ y167) (a0.size : Int) (wrap64 (x9_1 + 1))) else (none))) else (none)) else (none)) else (none)) else (none)) = some r := by first | (rw [hji65] at H; exact H) | (simp only [hji65] at H ⊢; exact H)
                      by_cases c66 : 0 ≤ (ji65)
                      · rw [if_pos c66] at H
                        have c66b0 : decide (0 ≤ (ji65)) = true := decide_eq_true c66
                        clear c66
                        by_cases c67 : (ji65) < 16
                        · rw [if_pos c67] at H
                          have c67b0 : decide ((ji65) < 16) = true := decide_eq_true c67
                          clear c67
                          by_cases c69 : 0 ≤ (Go.bits .and .u8 (bt a0 x9_1) 15)
                          · rw [if_pos c69] at H
                            have c69b0 : decide (0 ≤ (Go.bits .and .u8 (bt a0 x9_1) 15)) = true := decide_eq_true c69
                            clear c69
                            by_cases c70 : (Go.bits .and .u8 (bt a0 x9_1) 15) < 16
                            · rw [if_pos c70] at H
                              have c70b0 : decide ((Go.bits .and .u8 (bt a0 x9_1) 15) < 16) = true := decide_eq_true c70
                              clear c70
                              obtain ⟨y167, hy167⟩ : ∃ y_ : List Int, y_ = (([92, bt (⟨#[48, 49, 50, 51, 52, 53, 54, 55, 56, 57, 97, 98, 99, 100, 101, 102]⟩ : ByteArray) (ji65), bt (⟨#[48, 49, 50, 51, 52, 53, 54, 55, 56, 57, 97, 98, 99, 100, 101, 102]⟩ : ByteArray) (Go.bits .and .u8 (bt a0 x9_1) 15)] : List Int)) := ⟨_, rfl⟩
                              replace H : (if x3_1.length + y167.length < 140737488355328 then (spec_Escaped.l0 k1 a0 (x3_1 ++ y167) (a0.size : Int) (wrap64 (x9_1 + 1))) else (none)) = some r := by first | (rw [hy167]; with_reducible exact H) | (have H2_ := (Option.bind_some _ _).symm.trans H; rw [hy167]; with_reducible exact H2_) | (have H2_ := (Option.bind_some _ _).symm.trans H; with_reducible exact H2_) | with_reducible exact H | (rw [hy167]; exact H) | exact H
                              have Ny167 := Aside0.mk hy167
                              clear hy167
                              by_cases c72 : x3_1.length + y167.length < 140737488355328
                              · rw [if_pos c72] at H
                                have LMc72 := Aside0.mk c72
                                clear c72
                                obtain ⟨y170, hy170⟩ : ∃ y_ : List Int, y_ = (x3_1 ++ y167) := ⟨_, rfl⟩
                                replace H : (spec_Escaped.l0 k1 a0 y170 (a0.size : Int) (wrap64 (x9_1 + 1))) = some r := by first | (rw [hy170]; with_reducible exact H) | (have H2_ := (Option.bind_some _ _).symm.trans H; rw [hy170]; with_reducible exact H2_) | (have H2_ := (Option.bind_some _ _).symm.trans H; with_reducible exact H2_) | with_reducible exact H | (rw [hy170]; exact H) | exact H
                                have Ny170 := Aside0.mk hy170
                                clear hy170
                                have H' := Aside0.mk H
                                clear H
                                have p7 : 0 ≤ (x9_1 : Int) := of_decide_eq_true (by first | (with_reducible assumption) | assumption)
                                have q7 : x9_1 < (a0.size : Int) := of_decide_eq_true (by first | (with_reducible assumption) | assumption)
                                have hx7 := bt_at a0 x9_1
                                replace p7 := eq_true p7
                                replace q7 := eq_true q7
                                try go_wp2
                                have n0_ := Aside0.mk (Kd.R_drew HO_3.out)
                                have n1_ := Aside0.mk (below_drew1 HB.out)
                                clear HO_3
                                clear HB
                                have HO_3 := n0_
                                have HB := n1_
                                clear n0_ n1_
                                have p68 : 0 ≤ ((ji65) : Int) := of_decide_eq_true (by first | (with_reducible assumption) | assumption)
                                have q68 : (ji65) < (16 : Int) := of_decide_eq_true (by first | (with_reducible assumption) | assumption)
                                have hx68 := bt_at (⟨#[48, 49, 50, 51, 52, 53, 54, 55, 56, 57, 97, 98, 99, 100, 101, 102]⟩ : ByteArray) (ji65)
                                replace p68 := eq_true p68
                                replace q68 := eq_true q68
                                have p71 : 0 ≤ ((Go.bits .and .u8 (bt a0 x9_1) 15) : Int) := of_decide_eq_true (by first | (with_reducible assumption) | assumption)
                                have q71 : (Go.bits .and .u8 (bt a0 x9_1) 15) < (16 : Int) := of_decide_eq_true (by first | (with_reducible assumption) | assumption)
                                have hx71 := bt_at (⟨#[48, 49, 50, 51, 52, 53, 54, 55, 56, 57, 97, 98, 99, 100, 101, 102]⟩ : ByteArray) (Go.bits .and .u8 (bt a0 x9_1) 15)
                                replace p71 := eq_true p71
                                replace q71 := eq_true q71
                                refine start_ (n := 10) (S := fun w' => True) (ds := []) #[false, false, false, false, false, false, false, false, false, false] (by kernel_rfl) rfl rfl trivial (fun hHeld => ?_); refine with_tabW spec_Escaped.tab7 spec_Escaped.bits7 (fun HT_ HW_ => ?_)
                                generalize wr.drew = w73 at HO_3 HB hHeld ⊢
                                refine pure_ (i := 0) (N := some 37) (v := ?_) (a' := ?_) #[true, false, false, false, false, false, false, false, false, false] rfl rfl (any_of HT_.out (by kernel_rfl)) (fun _ _ _ h => h) (Or.inl ⟨by rfl, ?_⟩) ?_ ?_
                                rotate_left
                                · intro w'
                                  go_simp
                                  with_reducible rfl
                                rotate_left
                                · simp only [Act.put, List.setIfInBounds_toArray, List.set_cons_zero, List.set_cons_succ, i64_w, i32_w]
                                  rfl
                                refine pure_ (i := 1) (N := some 38) (v := ?_) (a' := ?_) #[true, true, false, false, false, false, false, false, false, false] rfl rfl (any_of HT_.out (by kernel_rfl)) (fun _ _ _ h => h) (Or.inl ⟨by rfl, ?_⟩) ?_ ?_
                                rotate_left
                                · intro w'
                                  go_simp
                                  with_reducible rfl
                                rotate_left
                                · simp only [Act.put, List.setIfInBounds_toArray, List.set_cons_zero, List.set_cons_succ, i64_w, i32_w]
                                  rfl
                                refine pure_ (i := 2) (N := some 39) (v := ?_) (a' := ?_) #[true, true, true, false, false, false, false, false, false, false] rfl rfl (any_of HT_.out (by kernel_rfl)) (fun _ _ _ h => h) (Or.inl ⟨by rfl, ?_⟩) ?_ ?_
                                rotate_left
                                · intro w'
                                  go_simp
                                  with_reducible rfl
                                rotate_left
                                · simp only [Act.put, List.setIfInBounds_toArray, List.set_cons_zero, List.set_cons_succ, i64_w, i32_w]
                                  rfl
                                refine pure_ (i := 4) (N := some 41) (v := ?_) (a' := ?_) #[true, true, true, false, true, false, false, false, false, false] rfl rfl (any_of HT_.out (by kernel_rfl)) (fun _ _ _ h => h) (Or.inl ⟨by rfl, ?_⟩) ?_ ?_
                                rotate_left
                                · intro w'
                                  go_simp
                                  with_reducible rfl
                                rotate_left
                                · simp only [Act.put, List.setIfInBounds_toArray, List.set_cons_zero, List.set_cons_succ, i64_w, i32_w]
                                  rfl
                                refine pure_ (i := 5) (N := some 42) (v := ?_) (a' := ?_) #[true, true, true, false, true, true, false, false, false, false] rfl rfl (any_of HT_.out (by kernel_rfl)) (fun _ _ _ h => h) (Or.inl ⟨by rfl, ?_⟩) ?_ ?_
                                rotate_left
                                · intro w'
                                  go_simp
                                  with_reducible rfl
                                rotate_left
                                · simp only [Act.put, List.setIfInBounds_toArray, List.set_cons_zero, List.set_cons_succ, i64_w, i32_w]
                                  rfl
                                refine take_ (i := 3) (N := some 40) (v := ?_) (a' := ?_) #[true, true, true, true, true, true, false, false, false, false] rfl rfl (take_ofW HT_.out HW_.out (by kernel_rfl)) (fun _ _ _ h => h) (Or.inl ⟨by rfl, ?_⟩) hHeld ?_ ?_
                                rotate_left
                                · intro w' _
                                  go_simp
                                  with_reducible rfl
                                rotate_left
                                · simp only [Act.put, List.setIfInBounds_toArray, List.set_cons_zero, List.set_cons_succ, i64_w, i32_w]
                                  rfl
                                refine take_ (i := 6) (N := some 43) (v := ?_) (a' := ?_) #[true, true, true, true, true, true, true, false, false, false] rfl rfl (take_ofW HT_.out HW_.out (by kernel_rfl)) (fun _ _ _ h => h) (Or.inl ⟨by rfl, ?_⟩) hHeld ?_ ?_
                                rotate_left
                                · intro w' _
                                  go_simp
                                  with_reducible rfl
                                rotate_left
                                · simp only [Act.put, List.setIfInBounds_toArray, List.set_cons_zero, List.set_cons_succ, i64_w, i32_w]
                                  rfl
                                refine one_ (i := 7) (N := some 44) #[true, true, true, true, true, true, true, true, false, false] rfl rfl (one_of HT_.out (by kernel_rfl)) (by decide) (fun K hK => ?_)
                                refine Kd.R_lit_step (Kd.int .u8) _ 5 ?hg (N := 44) ?hd (xs := ([92, bt (⟨#[48, 49, 50, 51, 52, 53, 54, 55, 56, 57, 97, 98, 99, 100, 101, 102]⟩ : ByteArray) (ji65), bt (⟨#[48, 49, 50, 51, 52, 53, 54, 55, 56, 57, 97, 98, 99, 100, 101, 102]⟩ : ByteArray) (Go.bits .and .u8 (bt a0 x9_1) 15)] : List Int)) (inner := [.int .u8 92, .int .u8 (bt (⟨#[48, 49, 50, 51, 52, 53, 54, 55, 56, 57, 97, 98, 99, 100, 101, 102]⟩ : ByteArray) (ji65)), .int .u8 (bt (⟨#[48, 49, 50, 51, 52, 53, 54, 55, 56, 57, 97, 98, 99, 100, 101, 102]⟩ : ByteArray) (Go.bits .and .u8 (bt a0 x9_1) 15))]) (ok := fun _ => True) (okp := fun _ => True) ?hr ?hp (fun _ hk => hk) trivial (Below.refl _ _) (Nat.le_refl _) (by simp) ?_; (case hd => rfl); (case hg => rfl); (case hr => first | (go_simp; done) | (go_simp; rfl)); (case hp => exact (Reps.one (show Kd.M (Kd.int .u8) _ _ _ 92 [.int .u8 92] from rfl) (Reps.one (show Kd.M (Kd.int .u8) _ _ _ (bt (⟨#[48, 49, 50, 51, 52, 53, 54, 55, 56, 57, 97, 98, 99, 100, 101, 102]⟩ : ByteArray) (ji65)) [.int .u8 (bt (⟨#[48, 49, 50, 51, 52, 53, 54, 55, 56, 57, 97, 98, 99, 100, 101, 102]⟩ : ByteArray) (ji65))] from rfl) (Reps.one (show Kd.M (Kd.int .u8) _ _ _ (bt (⟨#[48, 49, 50, 51, 52, 53, 54, 55, 56, 57, 97, 98, 99, 100, 101, 102]⟩ : ByteArray) (Go.bits .and .u8 (bt a0 x9_1) 15)) [.int .u8 (bt (⟨#[48, 49, 50, 51, 52, 53, 54, 55, 56, 57, 97, 98, 99, 100, 101, 102]⟩ : ByteArray) (Go.bits .and .u8 (bt a0 x9_1) 15))] from rfl) (Reps.none _ _)))))
                                intro v168 w74 ho75 hb hg_ hnew_
                                clear hg_ hnew_
                                (first | rw [← Ny167.out] at ho75 | (simp only [Int.reduceToNat] at ho75; rw [← Ny167.out] at ho75))
                                have n0_ := Aside0.mk (Kd.R_elder' (by (with_reducible repeat (first | apply Kd.R_alloc | apply Kd.R_drewN | apply Kd.R_drew)); exact HO_3.out) (Kd.R_base ho75) hb)
                                have n1_ := Aside0.mk (Kd.R_lower (Kd.R_new' ho75 (Kd.R_lt (by (with_reducible repeat (first | apply Kd.R_alloc | apply Kd.R_drewN | apply Kd.R_drew)); exact HO_3.out))) (below_size (by repeat (first | (with_reducible first | exact HB.out | apply below_alloc | apply pw_below_drewN | apply below_drew1) | exact HB.out))))
                                have n2_ := Aside0.mk (below_step (by repeat (first | (with_reducible first | exact HB.out | apply below_alloc | apply pw_below_drewN | apply below_drew1) | exact HB.out)) hb)
                                clear HO_3
                                clear HB
                                have HO_3 := n0_
                                have HO169 := n1_
                                have HB := n2_
                                clear n0_ n1_ n2_
                                clear hb ho75
                                obtain ⟨Ao77, co77, eo77⟩ := Kd.R_slice HO169.out
                                (first | subst eo77 | (injection eo77 with f1_ f2_ f3_; have f4_ := f1_.symm; have f5_ := f3_.symm; clear f1_ f2_ f3_; subst f4_; subst f5_))
                                refine hK.out _ _ trivial (fun hHeld => ?_)
                                clear hK K
                                refine norm_ (a' := ?_) ?_ ?_
                                rotate_left
                                · show Act.put _ (some 44) _ = _
                                  simp only [Act.put, List.setIfInBounds_toArray, List.set_cons_zero, List.set_cons_succ, i64_w, i32_w]
                                  rfl
                                refine one_ (i := 8) (N := some 45) #[true, true, true, true, true, true, true, true, true, false] rfl rfl (one_of HT_.out (by kernel_rfl)) (by decide) (fun K hK => ?_)
                                refine Kd.R_append_rows_step (Kd.int .u8) (w0 := w) w.heap.size (by rfl) (.tmp 37) (.tmp 44) 23 5 (.int .u8 0) 1 rfl Try.underlying23 info5 rfl (by decide) (by omega) u3 x3_1 y167 _ _ _ (fun k_ => some k_ ≠ (.slice Ao77 y167.length co77 : Value).ownBlock) (fun _ => False) rfl rfl ?aO ?aR (fun _ _ h => h) (fun _ h => h.elim) ?aF ?aB ?aS ?aL ?_
                                (case aR => repeat (first | exact (Kd.R_reads' HO169.out).2.2 | (with_reducible refine Kd.C_alloc ?_ _) | (with_reducible refine Kd.C_drewN ?_ _) | (with_reducible refine Kd.C_drew ?_)))
                                (case aB => exact (by repeat (first | (with_reducible first | exact HB.out | apply below_alloc | apply pw_below_drewN | apply below_drew1) | exact HB.out)))
                                (case aF => exact (fun k_ hk => Kd.fresh' (Kd.R_lt (by (with_reducible repeat (first | apply Kd.R_alloc | apply Kd.R_drewN | apply Kd.R_drew)); exact HO169.out)) k_ hk))
                                (case aO => exact (by (with_reducible repeat (first | apply Kd.R_alloc | apply Kd.R_drewN | apply Kd.R_drew)); exact Kd.R_mono HO_3.out (fun _ hk => hk.2)))
                                (case aS => exact (below_size (by repeat (first | (with_reducible first | exact HB.out | apply below_alloc | apply pw_below_drewN | apply below_drew1) | exact HB.out))))
                                (case aL => have := LMc72.out; omega)
                                intro v171 w76 ho hb hg hat
                                rw [← Ny170.out] at ho
                                have n0_ := Aside0.mk (Kd.R_after (ok := (fun _ => True)) (by (with_reducible repeat (first | apply Kd.R_alloc | apply Kd.R_drewN | apply Kd.R_drew)); exact HO169.out) hg hat)
                                have n1_ := Aside0.mk (hb)
                                have n2_ := Aside0.mk (ho)
                                clear HO169
                                clear HB
                                clear HO_3
                                have HO169 := n0_
                                have HB := n1_
                                have HO172 := n2_
                                clear n0_ n1_ n2_
                                clear ho hb hg hat
                                refine hK.out _ _ trivial (fun hHeld => ?_)
                                clear hK K
                                refine norm_ (a' := ?_) ?_ ?_
                                rotate_left
                                · show Act.put _ (some 45) _ = _
                                  simp only [Act.put, List.setIfInBounds_toArray, List.set_cons_zero, List.set_cons_succ, i64_w, i32_w]
                                  rfl
                                refine pure_ (i := 9) (N := some 3) (v := ?_) (a' := ?_) #[true, true, true, true, true, true, true, true, true, true] rfl rfl (any_of HT_.out (by kernel_rfl)) (fun _ _ _ h => h) (Or.inl ⟨by rfl, ?_⟩) ?_ ?_
                                rotate_left
                                · intro w'
                                  go_simp
                                  with_reducible rfl
                                rotate_left
                                · simp only [Act.put, List.setIfInBounds_toArray, List.set_cons_zero, List.set_cons_succ, i64_w, i32_w]
                                  rfl
                                refine done_ (done_of HT_.out (by kernel_rfl)) ?_
                                try go_wp2
                                go_roundg k1
                                case measure => have := HK1.out; omega
                                case rel => exact ⟨(y170), (wrap64 (x9_1 + 1)), (by first | rfl | (simp; done) | (simp [*]; done)), H', ⟨by have := HK1.out; omega⟩, ⟨by (with_reducible repeat (first | apply Kd.R_alloc | apply Kd.R_drewN | apply Kd.R_drew)); exact Kd.R_mono HO172.out (fun _ hk => trivial)⟩, ⟨by repeat (first | (with_reducible first | exact HB.out | apply below_alloc | apply pw_below_drewN | apply below_drew1) | exact HB.out)⟩⟩
                              · rw [if_neg c72] at H
                                exact absurd H (by simp)
                            · rw [if_neg c70] at H
                              exact absurd H (by simp)
                          · rw [if_neg c69] at H
                            exact absurd H (by simp)
                        · rw [if_neg c67] at H
                          exact absurd H (by simp)
                      · rw [if_neg c66] at H
                        exact absurd H (by simp)
                    · rw [if_neg c64] at H
                      have c64b0 : ((bt a0 x9_1) == 0) = false := beq_eq_false_iff_ne.mpr c64
                      have c64b1 : ((bt a0 x9_1) != 0) = true := bne_iff_ne.mpr c64
                      by_cases c78 : (bt a0 x9_1) ≥ 128
                      · rw [if_pos c78] at H
                        have c78b0 : decide (128 ≤ (bt a0 x9_1)) = true := decide_eq_true c78
                        clear c78
                        obtain ⟨ji79, hji79⟩ : ∃ j_ : Int, ((bt a0 x9_1) / 16) = j_ := ⟨_, rfl⟩
                        replace H : (if 0 ≤ (ji79) then (if (ji79) < 16 then (if 0 ≤ (Go.bits .and .u8 (bt a0 x9_1) 15) then (if (Go.bits .and .u8 (bt a0 x9_1) 15) < 16 then ((some (([92, bt (⟨#[48, 49, 50, 51, 52, 53, 54, 55, 56, 57, 97, 98, 99, 100, 101, 102]⟩ : ByteArray) (ji79), bt (⟨#[48, 49, 50, 51, 52, 53, 54, 55, 56, 57, 97, 98, 99, 100, 101, 102]⟩ : ByteArray) (Go.bits .and .u8 (bt a0 x9_1) 15)] : List Int) : List Int)).bind fun y173 => (if x3_1.length + y173.length < 140737488355328 then (spec_Escaped.l0 k1 a0 (x3_1 ++ y173) (a0.size : Int) (wrap64 (x9_1 + 1))) else (none))) else (none)) else (none)) else (none)) else (none)) = some r := by first | (rw [hji79] at H; exact H) | (simp only [hji79] at H ⊢; exact H)
                        by_cases c80 : 0 ≤ (ji79)
                        · rw [if_pos c80] at H
                          have c80b0 : decide (0 ≤ (ji79)) = true := decide_eq_true c80
                          clear c80
                          by_cases c81 : (ji79) < 16
                          · rw [if_pos c81] at H
                            have c81b0 : decide ((ji79) < 16) = true := decide_eq_true c81
                            clear c81
                            by_cases c83 : 0 ≤ (Go.bits .and .u8 (bt a0 x9_1) 15)
                            · rw [if_pos c83] at H
                              have c83b0 : decide (0 ≤ (Go.bits .and .u8 (bt a0 x9_1) 15)) = true := decide_eq_true c83
                              clear c83
                              by_cases c84 : (Go.bits .and .u8 (bt a0 x9_1) 15) < 16
                              · rw [if_pos c84] at H
                                have c84b0 : decide ((Go.bits .and .u8 (bt a0 x9_1) 15) < 16) = true := decide_eq_true c84
                                clear c84
                                obtain ⟨y173, hy173⟩ : ∃ y_ : List Int, y_ = (([92, bt (⟨#[48, 49, 50, 51, 52, 53, 54, 55, 56, 57, 97, 98, 99, 100, 101, 102]⟩ : ByteArray) (ji79), bt (⟨#[48, 49, 50, 51, 52, 53, 54, 55, 56, 57, 97, 98, 99, 100, 101, 102]⟩ : ByteArray) (Go.bits .and .u8 (bt a0 x9_1) 15)] : List Int)) := ⟨_, rfl⟩
                                replace H : (if x3_1.length + y173.length < 140737488355328 then (spec_Escaped.l0 k1 a0 (x3_1 ++ y173) (a0.size : Int) (wrap64 (x9_1 + 1))) else (none)) = some r := by first | (rw [hy173]; with_reducible exact H) | (have H2_ := (Option.bind_some _ _).symm.trans H; rw [hy173]; with_reducible exact H2_) | (have H2_ := (Option.bind_some _ _).symm.trans H; with_reducible exact H2_) | with_reducible exact H | (rw [hy173]; exact H) | exact H
                                have Ny173 := Aside0.mk hy173
                                clear hy173
                                by_cases c86 : x3_1.length + y173.length < 140737488355328
                                · rw [if_pos c86] at H
                                  have LMc86 := Aside0.mk c86
                                  clear c86
                                  obtain ⟨y176, hy176⟩ : ∃ y_ : List Int, y_ = (x3_1 ++ y173) := ⟨_, rfl⟩
                                  replace H : (spec_Escaped.l0 k1 a0 y176 (a0.size : Int) (wrap64 (x9_1 + 1))) = some r := by first | (rw [hy176]; with_reducible exact H) | (have H2_ := (Option.bind_some _ _).symm.trans H; rw [hy176]; with_reducible exact H2_) | (have H2_ := (Option.bind_some _ _).symm.trans H; with_reducible exact H2_) | with_reducible exact H | (rw [hy176]; exact H) | exact H
                                  have Ny176 := Aside0.mk hy176
                                  clear hy176
                                  have H' := Aside0.mk H
                                  clear H
                                  have p7 : 0 ≤ (x9_1 : Int) := of_decide_eq_true (by first | (with_reducible assumption) | assumption)
                                  have q7 : x9_1 < (a0.size : Int) := of_decide_eq_true (by first | (with_reducible assumption) | assumption)
                                  have hx7 := bt_at a0 x9_1
                                  replace p7 := eq_true p7
                                  replace q7 := eq_true q7
                                  try go_wp2
                                  have n0_ := Aside0.mk (Kd.R_drew HO_3.out)
                                  have n1_ := Aside0.mk (below_drew1 HB.out)
                                  clear HO_3
                                  clear HB
                                  have HO_3 := n0_
                                  have HB := n1_
                                  clear n0_ n1_
                                  have p82 : 0 ≤ ((ji79) : Int) := of_decide_eq_true (by first | (with_reducible assumption) | assumption)
                                  have q82 : (ji79) < (16 : Int) := of_decide_eq_true (by first | (with_reducible assumption) | assumption)
                                  have hx82 := bt_at (⟨#[48, 49, 50, 51, 52, 53, 54, 55, 56, 57, 97, 98, 99, 100, 101, 102]⟩ : ByteArray) (ji79)
                                  replace p82 := eq_true p82
                                  replace q82 := eq_true q82
                                  have p85 : 0 ≤ ((Go.bits .and .u8 (bt a0 x9_1) 15) : Int) := of_decide_eq_true (by first | (with_reducible assumption) | assumption)
                                  have q85 : (Go.bits .and .u8 (bt a0 x9_1) 15) < (16 : Int) := of_decide_eq_true (by first | (with_reducible assumption) | assumption)
                                  have hx85 := bt_at (⟨#[48, 49, 50, 51, 52, 53, 54, 55, 56, 57, 97, 98, 99, 100, 101, 102]⟩ : ByteArray) (Go.bits .and .u8 (bt a0 x9_1) 15)
                                  replace p85 := eq_true p85
                                  replace q85 := eq_true q85
                                  refine start_ (n := 10) (S := fun w' => True) (ds := []) #[false, false, false, false, false, false, false, false, false, false] (by kernel_rfl) rfl rfl trivial (fun hHeld => ?_); refine with_tabW spec_Escaped.tab7 spec_Escaped.bits7 (fun HT_ HW_ => ?_)
                                  generalize wr.drew = w87 at HO_3 HB hHeld ⊢
                                  refine pure_ (i := 0) (N := some 37) (v := ?_) (a' := ?_) #[true, false, false, false, false, false, false, false, false, false] rfl rfl (any_of HT_.out (by kernel_rfl)) (fun _ _ _ h => h) (Or.inl ⟨by rfl, ?_⟩) ?_ ?_
                                  rotate_left
                                  · intro w'
                                    go_simp
                                    with_reducible rfl
                                  rotate_left
                                  · simp only [Act.put, List.setIfInBounds_toArray, List.set_cons_zero, List.set_cons_succ, i64_w, i32_w]
                                    rfl
                                  refine pure_ (i := 1) (N := some 38) (v := ?_) (a' := ?_) #[true, true, false, false, false, false, false, false, false, false] rfl rfl (any_of HT_.out (by kernel_rfl)) (fun _ _ _ h => h) (Or.inl ⟨by rfl, ?_⟩) ?_ ?_
                                  rotate_left
                                  · intro w'
                                    go_simp
                                    with_reducible rfl
                                  rotate_left
                                  · simp only [Act.put, List.setIfInBounds_toArray, List.set_cons_zero, List.set_cons_succ, i64_w, i32_w]
                                    rfl
                                  refine pure_ (i := 2) (N := some 39) (v := ?_) (a' := ?_) #[true, true, true, false, false, false, false, false, false, false] rfl rfl (any_of HT_.out (by kernel_rfl)) (fun _ _ _ h => h) (Or.inl ⟨by rfl, ?_⟩) ?_ ?_
                                  rotate_left
                                  · intro w'
                                    go_simp
                                    with_reducible rfl
                                  rotate_left
                                  · simp only [Act.put, List.setIfInBounds_toArray, List.set_cons_zero, List.set_cons_succ, i64_w, i32_w]
                                    rfl
                                  refine pure_ (i := 4) (N := some 41) (v := ?_) (a' := ?_) #[true, true, true, false, true, false, false, false, false, false] rfl rfl (any_of HT_.out (by kernel_rfl)) (fun _ _ _ h => h) (Or.inl ⟨by rfl, ?_⟩) ?_ ?_
                                  rotate_left
                                  · intro w'
                                    go_simp
                                    with_reducible rfl
                                  rotate_left
                                  · simp only [Act.put, List.setIfInBounds_toArray, List.set_cons_zero, List.set_cons_succ, i64_w, i32_w]
                                    rfl
                                  refine pure_ (i := 5) (N := some 42) (v := ?_) (a' := ?_) #[true, true, true, false, true, true, false, false, false, false] rfl rfl (any_of HT_.out (by kernel_rfl)) (fun _ _ _ h => h) (Or.inl ⟨by rfl, ?_⟩) ?_ ?_
                                  rotate_left
                                  · intro w'
                                    go_simp
                                    with_reducible rfl
                                  rotate_left
                                  · simp only [Act.put, List.setIfInBounds_toArray, List.set_cons_zero, List.set_cons_succ, i64_w, i32_w]
                                    rfl
                                  refine take_ (i := 3) (N := some 40) (v := ?_) (a' := ?_) #[true, true, true, true, true, true, false, false, false, false] rfl rfl (take_ofW HT_.out HW_.out (by kernel_rfl)) (fun _ _ _ h => h) (Or.inl ⟨by rfl, ?_⟩) hHeld ?_ ?_
                                  rotate_left
                                  · intro w' _
                                    go_simp
                                    with_reducible rfl
                                  rotate_left
                                  · simp only [Act.put, List.setIfInBounds_toArray, List.set_cons_zero, List.set_cons_succ, i64_w, i32_w]
                                    rfl
                                  refine take_ (i := 6) (N := some 43) (v := ?_) (a' := ?_) #[true, true, true, true, true, true, true, false, false, false] rfl rfl (take_ofW HT_.out HW_.out (by kernel_rfl)) (fun _ _ _ h => h) (Or.inl ⟨by rfl, ?_⟩) hHeld ?_ ?_
                                  rotate_left
                                  · intro w' _
                                    go_simp
                                    with_reducible rfl
                                  rotate_left
                                  · simp only [Act.put, List.setIfInBounds_toArray, List.set_cons_zero, List.set_cons_succ, i64_w, i32_w]
                                    rfl
                                  refine one_ (i := 7) (N := some 44) #[true, true, true, true, true, true, true, true, false, false] rfl rfl (one_of HT_.out (by kernel_rfl)) (by decide) (fun K hK => ?_)
                                  refine Kd.R_lit_step (Kd.int .u8) _ 5 ?hg (N := 44) ?hd (xs := ([92, bt (⟨#[48, 49, 50, 51, 52, 53, 54, 55, 56, 57, 97, 98, 99, 100, 101, 102]⟩ : ByteArray) (ji79), bt (⟨#[48, 49, 50, 51, 52, 53, 54, 55, 56, 57, 97, 98, 99, 100, 101, 102]⟩ : ByteArray) (Go.bits .and .u8 (bt a0 x9_1) 15)] : List Int)) (inner := [.int .u8 92, .int .u8 (bt (⟨#[48, 49, 50, 51, 52, 53, 54, 55, 56, 57, 97, 98, 99, 100, 101, 102]⟩ : ByteArray) (ji79)), .int .u8 (bt (⟨#[48, 49, 50, 51, 52, 53, 54, 55, 56, 57, 97, 98, 99, 100, 101, 102]⟩ : ByteArray) (Go.bits .and .u8 (bt a0 x9_1) 15))]) (ok := fun _ => True) (okp := fun _ => True) ?hr ?hp (fun _ hk => hk) trivial (Below.refl _ _) (Nat.le_refl _) (by simp) ?_; (case hd => rfl); (case hg => rfl); (case hr => first | (go_simp; done) | (go_simp; rfl)); (case hp => exact (Reps.one (show Kd.M (Kd.int .u8) _ _ _ 92 [.int .u8 92] from rfl) (Reps.one (show Kd.M (Kd.int .u8) _ _ _ (bt (⟨#[48, 49, 50, 51, 52, 53, 54, 55, 56, 57, 97, 98, 99, 100, 101, 102]⟩ : ByteArray) (ji79)) [.int .u8 (bt (⟨#[48, 49, 50, 51, 52, 53, 54, 55, 56, 57, 97, 98, 99, 100, 101, 102]⟩ : ByteArray) (ji79))] from rfl) (Reps.one (show Kd.M (Kd.int .u8) _ _ _ (bt (⟨#[48, 49, 50, 51, 52, 53, 54, 55, 56, 57, 97, 98, 99, 100, 101, 102]⟩ : ByteArray) (Go.bits .and .u8 (bt a0 x9_1) 15)) [.int .u8 (bt (⟨#[48, 49, 50, 51, 52, 53, 54, 55, 56, 57, 97, 98, 99, 100, 101, 102]⟩ : ByteArray) (Go.bits .and .u8 (bt a0 x9_1) 15))] from rfl) (Reps.none _ _)))))
                                  intro v174 w88 ho89 hb hg_ hnew_
                                  clear hg_ hnew_
                                  (first | rw [← Ny173.out] at ho89 | (simp only [Int.reduceToNat] at ho89; rw [← Ny173.out] at ho89))
                                  have n0_ := Aside0.mk (Kd.R_elder' (by (with_reducible repeat (first | apply Kd.R_alloc | apply Kd.R_drewN | apply Kd.R_drew)); exact HO_3.out) (Kd.R_base ho89) hb)
                                  have n1_ := Aside0.mk (Kd.R_lower (Kd.R_new' ho89 (Kd.R_lt (by (with_reducible repeat (first | apply Kd.R_alloc | apply Kd.R_drewN | apply Kd.R_drew)); exact HO_3.out))) (below_size (by repeat (first | (with_reducible first | exact HB.out | apply below_alloc | apply pw_below_drewN | apply below_drew1) | exact HB.out))))
                                  have n2_ := Aside0.mk (below_step (by repeat (first | (with_reducible first | exact HB.out | apply below_alloc | apply pw_below_drewN | apply below_drew1) | exact HB.out)) hb)
                                  clear HO_3
                                  clear HB
                                  have HO_3 := n0_
                                  have HO175 := n1_
                                  have HB := n2_
                                  clear n0_ n1_ n2_
                                  clear hb ho89
                                  obtain ⟨Ao91, co91, eo91⟩ := Kd.R_slice HO175.out
                                  (first | subst eo91 | (injection eo91 with f1_ f2_ f3_; have f4_ := f1_.symm; have f5_ := f3_.symm; clear f1_ f2_ f3_; subst f4_; subst f5_))
                                  refine hK.out _ _ trivial (fun hHeld => ?_)
                                  clear hK K
                                  refine norm_ (a' := ?_) ?_ ?_
                                  rotate_left
                                  · show Act.put _ (some 44) _ = _
                                    simp only [Act.put, List.setIfInBounds_toArray, List.set_cons_zero, List.set_cons_succ, i64_w, i32_w]
                                    rfl
                                  refine one_ (i := 8) (N := some 45) #[true, true, true, true, true, true, true, true, true, false] rfl rfl (one_of HT_.out (by kernel_rfl)) (by decide) (fun K hK => ?_)
                                  refine Kd.R_append_rows_step (Kd.int .u8) (w0 := w) w.heap.size (by rfl) (.tmp 37) (.tmp 44) 23 5 (.int .u8 0) 1 rfl Try.underlying23 info5 rfl (by decide) (by omega) u3 x3_1 y173 _ _ _ (fun k_ => some k_ ≠ (.slice Ao91 y173.length co91 : Value).ownBlock) (fun _ => False) rfl rfl ?aO ?aR (fun _ _ h => h) (fun _ h => h.elim) ?aF ?aB ?aS ?aL ?_
                                  (case aR => repeat (first | exact (Kd.R_reads' HO175.out).2.2 | (with_reducible refine Kd.C_alloc ?_ _) | (with_reducible refine Kd.C_drewN ?_ _) | (with_reducible refine Kd.C_drew ?_)))
                                  (case aB => exact (by repeat (first | (with_reducible first | exact HB.out | apply below_alloc | apply pw_below_drewN | apply below_drew1) | exact HB.out)))
                                  (case aF => exact (fun k_ hk => Kd.fresh' (Kd.R_lt (by (with_reducible repeat (first | apply Kd.R_alloc | apply Kd.R_drewN | apply Kd.R_drew)); exact HO175.out)) k_ hk))
                                  (case aO => exact (by (with_reducible repeat (first | apply Kd.R_alloc | apply Kd.R_drewN | apply Kd.R_drew)); exact Kd.R_mono HO_3.out (fun _ hk => hk.2)))
                                  (case aS => exact (below_size (by repeat (first | (with_reducible first | exact HB.out | apply below_alloc | apply pw_below_drewN | apply below_drew1) | exact HB.out))))
                                  (case aL => have := LMc86.out; omega)
                                  intro v177 w90 ho hb hg hat
                                  rw [← Ny176.out] at ho
                                  have n0_ := Aside0.mk (Kd.R_after (ok := (fun _ => True)) (by (with_reducible repeat (first | apply Kd.R_alloc | apply Kd.R_drewN | apply Kd.R_drew)); exact HO175.out) hg hat)
                                  have n1_ := Aside0.mk (hb)
                                  have n2_ := Aside0.mk (ho)
                                  clear HO175
                                  clear HB
                                  clear HO_3
                                  have HO175 := n0_
                                  have HB := n1_
                                  have HO178 := n2_
                                  clear n0_ n1_ n2_
                                  clear ho hb hg hat
                                  refine hK.out _ _ trivial (fun hHeld => ?_)
                                  clear hK K
                                  refine norm_ (a' := ?_) ?_ ?_
                                  rotate_left
                                  · show Act.put _ (some 45) _ = _
                                    simp only [Act.put, List.setIfInBounds_toArray, List.set_cons_zero, List.set_cons_succ, i64_w, i32_w]
                                    rfl
                                  refine pure_ (i := 9) (N := some 3) (v := ?_) (a' := ?_) #[true, true, true, true, true, true, true, true, true, true] rfl rfl (any_of HT_.out (by kernel_rfl)) (fun _ _ _ h => h) (Or.inl ⟨by rfl, ?_⟩) ?_ ?_
                                  rotate_left
                                  · intro w'
                                    go_simp
                                    with_reducible rfl
                                  rotate_left
                                  · simp only [Act.put, List.setIfInBounds_toArray, List.set_cons_zero, List.set_cons_succ, i64_w, i32_w]
                                    rfl
                                  refine done_ (done_of HT_.out (by kernel_rfl)) ?_
                                  try go_wp2
                                  go_roundg k1
                                  case measure => have := HK1.out; omega
                                  case rel => exact ⟨(y176), (wrap64 (x9_1 + 1)), (by first | rfl | (simp; done) | (simp [*]; done)), H', ⟨by have := HK1.out; omega⟩, ⟨by (with_reducible repeat (first | apply Kd.R_alloc | apply Kd.R_drewN | apply Kd.R_drew)); exact Kd.R_mono HO178.out (fun _ hk => trivial)⟩, ⟨by repeat (first | (with_reducible first | exact HB.out | apply below_alloc | apply pw_below_drewN | apply below_drew1) | exact HB.out)⟩⟩
                                · rw [if_neg c86] at H
                                  exact absurd H (by simp)
                              · rw [if_neg c84] at H
                                exact absurd H (by simp)
                            · rw [if_neg c83] at H
                              exact absurd H (by simp)
                          · rw [if_neg c81] at H
                            exact absurd H (by simp)
                        · rw [if_neg c80] at H
                          exact absurd H (by simp)
                      · rw [if_neg c78] at H
                        have c78b0 : decide (128 ≤ (bt a0 x9_1)) = false := decide_eq_false c78
                        clear c78
                        by_cases c92 : x3_1.length < 140737488355328
                        · rw [if_pos c92] at H
                          have LMc92 := Aside0.mk c92
                          clear c92
                          obtain ⟨y179, hy179⟩ : ∃ y_ : List Int, y_ = (x3_1 ++ [bt a0 x9_1]) := ⟨_, rfl⟩
                          replace H : (spec_Escaped.l0 k1 a0 y179 (a0.size : Int) (wrap64 (x9_1 + 1))) = some r := by first | (rw [hy179]; with_reducible exact H) | (have H2_ := (Option.bind_some _ _).symm.trans H; rw [hy179]; with_reducible exact H2_) | (have H2_ := (Option.bind_some _ _).symm.trans H; with_reducible exact H2_) | with_reducible exact H | (rw [hy179]; exact H) | exact H
                          have Ny179 := Aside0.mk hy179
                          clear hy179
                          have H' := Aside0.mk H
                          clear H
                          have p7 : 0 ≤ (x9_1 : Int) := of_decide_eq_true (by first | (with_reducible assumption) | assumption)
                          have q7 : x9_1 < (a0.size : Int) := of_decide_eq_true (by first | (with_reducible assumption) | assumption)
                          have hx7 := bt_at a0 x9_1
                          replace p7 := eq_true p7
                          replace q7 := eq_true q7
                          go_wp2_with (first | ((with_reducible refine gate_builtin (b := .append) (xs := #[.tmp 46, .tmp 48]) rfl ?_); at_builtin; refine Kd.R_append (Kd.int .u8) (w0 := w) w.heap.size rfl (.tmp 46) (.tmp 48) 23 5 (.int .u8 0) 1 rfl Try.underlying23 info5 rfl (by decide) (by omega) u3 x3_1 (bt a0 x9_1) [.int .u8 (bt a0 x9_1)] (fun _ => True) (fun _ => False) rfl rfl ?aP (fun _ hk => hk.elim) ?aF ?aO ?aB ?aS ?aL ?_; (case aP => exact rfl); (case aB => exact (by repeat (first | (with_reducible first | exact HB.out | apply below_alloc | apply pw_below_drewN | apply below_drew1) | exact HB.out))); (case aF => exact (fun _ _ => trivial)); (case aO => exact (by (with_reducible repeat (first | apply Kd.R_alloc | apply Kd.R_drewN | apply Kd.R_drew)); exact HO_3.out)); (case aS => exact (below_size (by repeat (first | (with_reducible first | exact HB.out | apply below_alloc | apply pw_below_drewN | apply below_drew1) | exact HB.out)))); (case aL => have := LMc92.out; omega); intro v180 w93 ho hb hg hat; rw [← Ny179.out] at ho; have n0_ := Aside0.mk (hb); have n1_ := Aside0.mk (ho); clear HB; clear HO_3; have HB := n0_; have HO181 := n1_; clear n0_ n1_; clear ho hb hg hat))
                          go_roundg k1
                          case measure => have := HK1.out; omega
                          case rel => exact ⟨(y179), (wrap64 (x9_1 + 1)), (by first | rfl | (simp; done) | (simp [*]; done)), H', ⟨by have := HK1.out; omega⟩, ⟨by (with_reducible repeat (first | apply Kd.R_alloc | apply Kd.R_drewN | apply Kd.R_drew)); exact HO181.out⟩, ⟨by repeat (first | (with_reducible first | exact HB.out | apply below_alloc | apply pw_below_drewN | apply below_drew1) | exact HB.out)⟩⟩
                        · rw [if_neg c92] at H
                          exact absurd H (by simp)
          · rw [if_neg c6] at H
            exact absurd H (by simp)
        · rw [if_neg c5] at H
          exact absurd H (by simp)
      · rw [if_neg c4] at H
        have c4b0 : decide (x9_1 < (a0.size : Int)) = false := decide_eq_false c4
        clear c4
        obtain rfl := Option.some.inj H
        have hcv94 := own_string (P := Try.prog) Try.underlying23 Try.underlying5 Try.underlying9 (Kd.own_of_R HO_3.out)
        go_wp2
        go_ret
        exact ⟨by first | rfl | (simp [errW_none, errW_some] <;> rfl) | (simp [*, errW_none, errW_some] <;> rfl), by repeat (first | (with_reducible first | exact HB.out | apply below_alloc | apply pw_below_drewN | apply below_drew1) | exact HB.out)⟩

end Go.Proofs.Ythlameofbhopkaa.PFnEscapeFilter
