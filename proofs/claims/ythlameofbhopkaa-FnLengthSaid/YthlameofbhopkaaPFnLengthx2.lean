-- PRINTED BY print.sh 35421559b90ae4d0a3588c463048766b98c2df88dd9212a6774a882060cdf62d: not written by this session
import Derived.Test.YthlameofbhopkaaPFnLengthx0
import Derived.Test.YthlameofbhopkaaPFnLengthx1
namespace Go.Proofs.Ythlameofbhopkaa.PFnLength
open Go.RowKit Go.Proofs.YthlameofbhopkaaW.PrintWords Go.Proofs.YthlameofbhopkaaW.PrintLast Go.Proofs.YthlameofbhopkaaW.PrintMore
attribute [local go_sem] max2_int min2_int max_two min_two max_three min_three max_four min_four   -- for this text's walks alone
set_option linter.unusedVariables false
set_option linter.unusedSimpArgs false

/-! ### laws_FnLength: function 3 -/
def laws_FnLength.j0 : Nat → Int → Bool → Option (Bool)
  | 0, _, _ => none
  | k + 1, x0, x8 => if x8 = true then ((laws_works.f k).bind fun t145 => (some t145)) else ((impl_EncodeLength.f k x0).bind fun t146 => ((spec_Length.f k x0).bind fun t149 => (if (strOfNums t146).toList = (strOfNums t149).toList then ((laws_works.f k).bind fun t152 => (some t152)) else (some false))))
def laws_FnLength.f (k : Nat) (a0 : Int) : Option (Bool) := if a0 < 0 then (laws_FnLength.j0 k a0 true) else (laws_FnLength.j0 k a0 (decide (a0 ≥ 2147483648)))
theorem laws_FnLength.mono_l : ∀ k, (∀ y0 y1, LeO (laws_FnLength.j0 k y0 y1) (laws_FnLength.j0 (k + 1) y0 y1))
  | 0 => fun _ _ r h => by simp [laws_FnLength.j0] at h
  | k + 1 => by
    have ih0 := laws_FnLength.mono_l k
    · intro y0 y1
      unfold laws_FnLength.j0
      repeat' first
      | (with_reducible exact ih0 _ _)
      | (with_reducible exact impl_EncodeLength.mono _ _)
      | (with_reducible exact laws_works.mono _)
      | (with_reducible exact spec_Length.mono _ _)
      | (with_reducible exact LeO.refl _)
      | (with_reducible exact LeO.none _)
      | (with_reducible refine LeO.ite ?_ ?_)
      | (with_reducible refine LeO.bind ?_ (fun _ => ?_))
      | exact ih0 _ _
      | exact impl_EncodeLength.mono _ _
      | exact laws_works.mono _
      | exact spec_Length.mono _ _
      | exact LeO.none _
      | refine LeO.ite ?_ ?_
      | refine LeO.bind ?_ (fun _ => ?_)
theorem laws_FnLength.mono : ∀ a0 k, LeO (laws_FnLength.f k a0) (laws_FnLength.f (k + 1) a0) := by
  intro a0 k
  have ih0 := laws_FnLength.mono_l k
  unfold laws_FnLength.f
  repeat' first
      | (with_reducible exact ih0 _ _)
      | (with_reducible exact impl_EncodeLength.mono _ _)
      | (with_reducible exact laws_works.mono _)
      | (with_reducible exact spec_Length.mono _ _)
      | (with_reducible exact LeO.refl _)
      | (with_reducible exact LeO.none _)
      | (with_reducible refine LeO.ite ?_ ?_)
      | (with_reducible refine LeO.bind ?_ (fun _ => ?_))
      | exact ih0 _ _
      | exact impl_EncodeLength.mono _ _
      | exact laws_works.mono _
      | exact spec_Length.mono _ _
      | exact LeO.none _
      | refine LeO.ite ?_ ?_
      | refine LeO.bind ?_ (fun _ => ?_)
def laws_FnLength.T3 : Bool × List (List Nat × List Nat) := (true, [([], []), ([0], [0]), ([1], [1]), ([], []), ([3, 1], [3]), ([4], [4]), ([2, 5], [2, 5]), ([6, 4], [6]), ([7, 7], [7]), ([7, 8], [7, 8]), ([9, 8, 0, 1, 2, 3, 4, 5, 6, 7, 8, 9], [9])])
def laws_FnLength.B3 : List Nat := [0, 1, 3, 0, 11, 27, 63, 127, 255, 511, 1023]
theorem laws_FnLength.tab3 : rtab .any (opsOf Try.f3 3) = laws_FnLength.T3 := by kernel_rfl
theorem laws_FnLength.bits3 : waitsOk laws_FnLength.T3.2 laws_FnLength.B3 = true := by kernel_rfl
set_option maxHeartbeats 8000000 in
set_option maxRecDepth 100000 in
theorem laws_FnLength.calls (k : Nat) (a0 : Int) (r : Bool) (w : World) (h : laws_FnLength.f k a0 = some r) :
    Calls Try.prog 3 #[.int .i64 a0] w fun e w' => e = .returned (.bool r) ∧ Below w.heap.size w w' := by
  have HB := Aside0.mk (Below.refl w.heap.size w)
  have H : (if a0 < 0 then (laws_FnLength.j0 k a0 true) else (laws_FnLength.j0 k a0 (decide (a0 ≥ 2147483648)))) = some r := h
  clear h
  have HC2 := Aside0.mk H
  clear H
  go_enter Try.func3, Try.ntmps3
  go_upto_region 1 with (fail)
  go_cut [8] (fun v8 wc => ∃ (kq : Nat) (x8_1 : Bool), v8 = .bool x8_1 ∧ Aside0 (laws_FnLength.j0 kq a0 x8_1 = some r) ∧ Aside0 (kq ≤ k) ∧ Aside0 (Below w.heap.size w wc))
  case first =>
    have H := HC2.out
    clear HC2
    by_cases c3 : a0 < 0
    · rw [if_pos c3] at H
      have c3b0 : decide (a0 < 0) = true := decide_eq_true c3
      clear c3
      (first | rw [c3b0] | (simp only [i64_w, i32_w]; rw [c3b0]) | skip)
      have H' := Aside0.mk H
      clear H
      go_wp2
      go_meet
      case rel => exact ⟨_, (true), (by first | rfl | (simp; done) | (simp [*]; done)), H', ⟨by first | omega | exact Nat.le_refl _⟩, ⟨by repeat (first | (with_reducible first | exact HB.out | apply below_alloc | apply pw_below_drewN | apply below_drew1) | exact HB.out)⟩⟩
    · rw [if_neg c3] at H
      have c3b0 : decide (a0 < 0) = false := decide_eq_false c3
      clear c3
      (first | rw [c3b0] | (simp only [i64_w, i32_w]; rw [c3b0]) | skip)
      have H' := Aside0.mk H
      clear H
      go_wp2
      go_meet
      case rel => exact ⟨_, (decide (a0 ≥ 2147483648)), (by first | rfl | (simp; done) | (simp [*]; done)), H', ⟨by first | omega | exact Nat.le_refl _⟩, ⟨by repeat (first | (with_reducible first | exact HB.out | apply below_alloc | apply pw_below_drewN | apply below_drew1) | exact HB.out)⟩⟩
  case rest =>
    clear HC2
    try clear p2
    try clear c3
    try clear c3b0
    obtain ⟨kq, x8_1, rfl, HA, HJ1, HB⟩ := hcut
    cases kq with
    | zero => exact absurd HA.out (by simp [laws_FnLength.j0])
    | succ kj1 =>
      have H := HA.out
      clear HA
      simp only [laws_FnLength.j0] at H
      by_cases c4 : x8_1 = true
      · subst c4
        have H1 : ((laws_works.f kj1).bind fun t145 => (some t145)) = some r := by rw [if_pos rfl] at H; exact H
        clear H
        have H := H1
        clear H1
        replace H := Option.bind_eq_some_iff.mp H
        obtain ⟨t145, A50, H⟩ := H
        replace H : (some t145) = some r := H
        have A5 := Aside0.mk A50
        clear A50
        obtain rfl := Option.some.inj H
        go_wp2_with (first | ((with_reducible refine gate_callee (f := 5) rfl ?_); refine goesL_ (some 9) rfl rfl Try.func5 (by kernel_rfl) rfl #[] rfl (by (try simp only [List.map_toArray, List.map_cons, List.map_nil]); first | done | rfl | (simp only [List.length_drop, List.length_take]; rfl)) ?_; (with_reducible refine (laws_works.calls kj1  t145 _ A5.out).mono ?_); rintro e w6 ⟨rfl, hb⟩; refine ⟨_, rfl, ?_⟩; have n0_ := Aside0.mk (below_step (by repeat (first | (with_reducible first | exact HB.out | apply below_alloc | apply pw_below_drewN | apply below_drew1) | exact HB.out)) hb); clear HB; have HB := n0_; clear n0_; (try clear hb); (try clear hb2); (try clear hk); (try clear hi)))
        go_ret
        exact ⟨by first | rfl | (simp [errW_none, errW_some] <;> rfl) | (simp [*, errW_none, errW_some] <;> rfl), by repeat (first | (with_reducible first | exact HB.out | apply below_alloc | apply pw_below_drewN | apply below_drew1) | exact HB.out)⟩
      · replace c4 := Bool.eq_false_iff.mpr c4
        subst c4
        have H1 : ((impl_EncodeLength.f kj1 a0).bind fun t146 => ((spec_Length.f kj1 a0).bind fun t149 => (if (strOfNums t146).toList = (strOfNums t149).toList then ((laws_works.f kj1).bind fun t152 => (some t152)) else (some false)))) = some r := by rw [if_neg (show ¬ (false = true) by decide)] at H; exact H
        clear H
        have H := H1
        clear H1
        replace H := Option.bind_eq_some_iff.mp H
        obtain ⟨t146, A70, H⟩ := H
        replace H : ((spec_Length.f kj1 a0).bind fun t149 => (if (strOfNums t146).toList = (strOfNums t149).toList then ((laws_works.f kj1).bind fun t152 => (some t152)) else (some false))) = some r := H
        have A7 := Aside0.mk A70
        clear A70
        replace H := Option.bind_eq_some_iff.mp H
        obtain ⟨t149, A80, H⟩ := H
        replace H : (if (strOfNums t146).toList = (strOfNums t149).toList then ((laws_works.f kj1).bind fun t152 => (some t152)) else (some false)) = some r := H
        have A8 := Aside0.mk A80
        clear A80
        by_cases c9 : (strOfNums t146).toList = (strOfNums t149).toList
        · rw [if_pos c9] at H
          have c9b0 : ((strOfNums t146).toList == (strOfNums t149).toList) = true := beq_iff_eq.mpr c9
          have c9b1 : ((strOfNums t146).toList != (strOfNums t149).toList) = false := bne_eq_false_iff_eq.mpr c9
          clear c9
          replace H := Option.bind_eq_some_iff.mp H
          obtain ⟨t152, A100, H⟩ := H
          replace H : (some t152) = some r := H
          have A10 := Aside0.mk A100
          clear A100
          obtain rfl := Option.some.inj H
          try go_wp2
          have n0_ := Aside0.mk (below_drew1 HB.out)
          clear HB
          have HB := n0_
          clear n0_
          refine start_ (n := 11) (S := fun w' => True) (ds := []) #[false, false, false, false, false, false, false, false, false, false, false] (by kernel_rfl) rfl rfl trivial (fun hHeld => ?_); refine with_tabW laws_FnLength.tab3 laws_FnLength.bits3 (fun HT_ HW_ => ?_)
          generalize wc.drew = w11 at HB hHeld ⊢
          refine pure_ (i := 0) (N := some 10) (v := ?_) (a' := ?_) #[true, false, false, false, false, false, false, false, false, false, false] rfl rfl (any_of HT_.out (by kernel_rfl)) (fun _ _ _ h => h) (Or.inl ⟨by rfl, ?_⟩) ?_ ?_
          rotate_left
          · intro w'
            go_simp
            with_reducible rfl
          rotate_left
          · simp only [Act.put, List.setIfInBounds_toArray, List.set_cons_zero, List.set_cons_succ, i64_w, i32_w]
            rfl
          refine pure_ (i := 3) (N := some 13) (v := ?_) (a' := ?_) #[true, false, false, true, false, false, false, false, false, false, false] rfl rfl (any_of HT_.out (by kernel_rfl)) (fun _ _ _ h => h) (Or.inl ⟨by rfl, ?_⟩) ?_ ?_
          rotate_left
          · intro w'
            go_simp
            with_reducible rfl
          rotate_left
          · simp only [Act.put, List.setIfInBounds_toArray, List.set_cons_zero, List.set_cons_succ, i64_w, i32_w]
            rfl
          refine one_ (i := 1) (N := some 11) #[true, true, false, true, false, false, false, false, false, false, false] rfl rfl (one_of HT_.out (by kernel_rfl)) (by decide) (fun K hK => ?_)
          refine goes_ Try.func6 (by kernel_rfl) rfl #[.int .i64 a0] (by rfl) rfl rfl (by (try simp only [List.map_toArray, List.map_cons, List.map_nil]); first | done | rfl | (simp only [List.length_drop, List.length_take]; rfl)) ?_
          with_reducible refine (impl_EncodeLength.calls kj1 a0 t146 _ A7.out).mono ?_
          rintro e w12 ⟨v147, rfl, ho0, hb⟩
          refine ⟨_, rfl, ?_⟩
          have n0_ := Aside0.mk (Kd.R_lower ho0 (below_size (by repeat (first | (with_reducible first | exact HB.out | apply below_alloc | apply pw_below_drewN | apply below_drew1) | exact HB.out))))
          have n1_ := Aside0.mk (below_step (by repeat (first | (with_reducible first | exact HB.out | apply below_alloc | apply pw_below_drewN | apply below_drew1) | exact HB.out)) hb)
          clear HB
          have HO148 := n0_
          have HB := n1_
          clear n0_ n1_
          (try clear hb)
          (try clear hb2)
          (try clear hk)
          (try clear hi)
          (try clear ho0)
          refine hK.out _ _ trivial (fun hHeld => ?_)
          clear hK K
          refine norm_ (a' := ?_) ?_ ?_
          rotate_left
          · show Act.put _ (some 11) _ = _
            simp only [Act.put, List.setIfInBounds_toArray, List.set_cons_zero, List.set_cons_succ, i64_w, i32_w]
            rfl
          refine join_ (σ := Value) 5 #[true, true, true, true, true, true, false, false, false, false, false] (fun s_ => [(12, .string (strOfNums t146)), (14, s_), (15, .string (strOfNums t149))]) (fun s_ w' => (Kd.R (Kd.int .u8) 5 w' w.heap.size (fun k_ => some k_ ≠ (s_ : Value).ownBlock) v147 t146) ∧ (Kd.R (Kd.int .u8) 5 w' w.heap.size (fun k_ => some k_ ≠ (v147 : Value).ownBlock) s_ t149) ∧ (Below w.heap.size w w')) ?_ ?_
          rotate_left
          · intro hCont
            refine two_ (i := 2) (j := 4) (Ni := some 12) (Nj := some 14) #[true, true, true, true, false, false, false, false, false, false, false] #[true, true, false, true, true, false, false, false, false, false, false] rfl rfl rfl rfl (two_of HT_.out (by kernel_rfl)) (by decide) (by decide) (fun K hK => ?_) (fun K hK => ?_)
            · skip
              have hcv13 := own_string (P := Try.prog) Try.underlying23 Try.underlying5 Try.underlying9 (Kd.own_of_R HO148.out)
              refine value_ (w1 := ?_) (v := ?_) (by rfl) rfl ?_ ?_
              rotate_left 2
              · go_simp
                constructor
                · rfl
                · rfl
              clear hcv13
              refine hK.out _ _ trivial (fun hHeld => ?_)
              clear hK K
              refine norm_ (a' := ?_) ?_ ?_
              rotate_left
              · show Act.put _ (some 12) _ = _
                simp only [Act.put, List.setIfInBounds_toArray, List.set_cons_zero, List.set_cons_succ, i64_w, i32_w]
                rfl
              refine one_ (i := 4) (N := some 14) #[true, true, true, true, true, false, false, false, false, false, false] rfl rfl (one_of HT_.out (by kernel_rfl)) (by decide) (fun K hK => ?_)
              refine goes_ Try.func7 (by kernel_rfl) rfl #[.int .i64 a0] (by rfl) rfl rfl (by (try simp only [List.map_toArray, List.map_cons, List.map_nil]); first | done | rfl | (simp only [List.length_drop, List.length_take]; rfl)) ?_
              with_reducible refine (spec_Length.calls kj1 a0 t149 _ A8.out).mono ?_
              rintro e w14 ⟨v150, rfl, ho0, hb⟩
              refine ⟨_, rfl, ?_⟩
              have n0_ := Aside0.mk (Kd.R_elder' (by (with_reducible repeat (first | apply Kd.R_alloc | apply Kd.R_drewN | apply Kd.R_drew)); exact HO148.out) (Kd.R_base ho0) hb)
              have n1_ := Aside0.mk (Kd.R_lower (Kd.R_new' ho0 (Kd.R_lt (by (with_reducible repeat (first | apply Kd.R_alloc | apply Kd.R_drewN | apply Kd.R_drew)); exact HO148.out))) (below_size (by repeat (first | (with_reducible first | exact HB.out | apply below_alloc | apply pw_below_drewN | apply below_drew1) | exact HB.out))))
              have n2_ := Aside0.mk (below_step (by repeat (first | (with_reducible first | exact HB.out | apply below_alloc | apply pw_below_drewN | apply below_drew1) | exact HB.out)) hb)
              clear HO148
              clear HB
              have HO148 := n0_
              have HO151 := n1_
              have HB := n2_
              clear n0_ n1_ n2_
              (try clear hb)
              (try clear hb2)
              (try clear hk)
              (try clear hi)
              (try clear ho0)
              refine hK.out _ _ trivial (fun hHeld => ?_)
              clear hK K
              refine norm_ (a' := ?_) ?_ ?_
              rotate_left
              · show Act.put _ (some 14) _ = _
                simp only [Act.put, List.setIfInBounds_toArray, List.set_cons_zero, List.set_cons_succ, i64_w, i32_w]
                rfl
              refine one_ (i := 5) (N := some 15) #[true, true, true, true, true, true, false, false, false, false, false] rfl rfl (one_of HT_.out (by kernel_rfl)) (by decide) (fun K hK => ?_)
              have hcv15 := own_string (P := Try.prog) Try.underlying23 Try.underlying5 Try.underlying9 (Kd.own_of_R HO151.out)
              refine value_ (w1 := ?_) (v := ?_) (by rfl) rfl ?_ ?_
              rotate_left 2
              · go_simp
                constructor
                · rfl
                · rfl
              clear hcv15
              refine hK.out _ _ trivial (fun hHeld => ?_)
              clear hK K
              refine norm_ (a' := ?_) ?_ ?_
              rotate_left
              · show Act.put _ (some 15) _ = _
                simp only [Act.put, List.setIfInBounds_toArray, List.set_cons_zero, List.set_cons_succ, i64_w, i32_w]
                rfl
              exact norm_ (by simp only [putAll, Act.put, List.setIfInBounds_toArray, List.set_cons_zero, List.set_cons_succ]) (hCont (v150) _ ⟨(by (with_reducible repeat (first | apply Kd.R_alloc | apply Kd.R_drewN | apply Kd.R_drew)); exact Kd.R_mono HO148.out (fun _ hk => hk.2)), (by (with_reducible repeat (first | apply Kd.R_alloc | apply Kd.R_drewN | apply Kd.R_drew)); exact Kd.R_mono HO151.out (fun _ hk => hk.2)), (by repeat (first | (with_reducible first | exact HB.out | apply below_alloc | apply pw_below_drewN | apply below_drew1) | exact HB.out))⟩)
            · skip
              refine goes_ Try.func7 (by kernel_rfl) rfl #[.int .i64 a0] (by rfl) rfl rfl (by (try simp only [List.map_toArray, List.map_cons, List.map_nil]); first | done | rfl | (simp only [List.length_drop, List.length_take]; rfl)) ?_
              with_reducible refine (spec_Length.calls kj1 a0 t149 _ A8.out).mono ?_
              rintro e w13 ⟨v150, rfl, ho0, hb⟩
              refine ⟨_, rfl, ?_⟩
              have n0_ := Aside0.mk (Kd.R_elder' (by (with_reducible repeat (first | apply Kd.R_alloc | apply Kd.R_drewN | apply Kd.R_drew)); exact HO148.out) (Kd.R_base ho0) hb)
              have n1_ := Aside0.mk (Kd.R_lower (Kd.R_new' ho0 (Kd.R_lt (by (with_reducible repeat (first | apply Kd.R_alloc | apply Kd.R_drewN | apply Kd.R_drew)); exact HO148.out))) (below_size (by repeat (first | (with_reducible first | exact HB.out | apply below_alloc | apply pw_below_drewN | apply below_drew1) | exact HB.out))))
              have n2_ := Aside0.mk (below_step (by repeat (first | (with_reducible first | exact HB.out | apply below_alloc | apply pw_below_drewN | apply below_drew1) | exact HB.out)) hb)
              clear HO148
              clear HB
              have HO148 := n0_
              have HO151 := n1_
              have HB := n2_
              clear n0_ n1_ n2_
              (try clear hb)
              (try clear hb2)
              (try clear hk)
              (try clear hi)
              (try clear ho0)
              refine hK.out _ _ trivial (fun hHeld => ?_)
              clear hK K
              refine norm_ (a' := ?_) ?_ ?_
              rotate_left
              · show Act.put _ (some 14) _ = _
                simp only [Act.put, List.setIfInBounds_toArray, List.set_cons_zero, List.set_cons_succ, i64_w, i32_w]
                rfl
              refine two_ (i := 2) (j := 5) (Ni := some 12) (Nj := some 15) #[true, true, true, true, true, false, false, false, false, false, false] #[true, true, false, true, true, true, false, false, false, false, false] rfl rfl rfl rfl (two_of HT_.out (by kernel_rfl)) (by decide) (by decide) (fun K hK => ?_) (fun K hK => ?_)
              · skip
                have hcv14 := own_string (P := Try.prog) Try.underlying23 Try.underlying5 Try.underlying9 (Kd.own_of_R HO148.out)
                refine value_ (w1 := ?_) (v := ?_) (by rfl) rfl ?_ ?_
                rotate_left 2
                · go_simp
                  constructor
                  · rfl
                  · rfl
                clear hcv14
                refine hK.out _ _ trivial (fun hHeld => ?_)
                clear hK K
                refine norm_ (a' := ?_) ?_ ?_
                rotate_left
                · show Act.put _ (some 12) _ = _
                  simp only [Act.put, List.setIfInBounds_toArray, List.set_cons_zero, List.set_cons_succ, i64_w, i32_w]
                  rfl
                refine one_ (i := 5) (N := some 15) #[true, true, true, true, true, true, false, false, false, false, false] rfl rfl (one_of HT_.out (by kernel_rfl)) (by decide) (fun K hK => ?_)
                have hcv15 := own_string (P := Try.prog) Try.underlying23 Try.underlying5 Try.underlying9 (Kd.own_of_R HO151.out)
                refine value_ (w1 := ?_) (v := ?_) (by rfl) rfl ?_ ?_
                rotate_left 2
                · go_simp
                  constructor
                  · rfl
                  · rfl
                clear hcv15
                refine hK.out _ _ trivial (fun hHeld => ?_)
                clear hK K
                refine norm_ (a' := ?_) ?_ ?_
                rotate_left
                · show Act.put _ (some 15) _ = _
                  simp only [Act.put, List.setIfInBounds_toArray, List.set_cons_zero, List.set_cons_succ, i64_w, i32_w]
                  rfl
                exact norm_ (by simp only [putAll, Act.put, List.setIfInBounds_toArray, List.set_cons_zero, List.set_cons_succ]) (hCont (v150) _ ⟨(by (with_reducible repeat (first | apply Kd.R_alloc | apply Kd.R_drewN | apply Kd.R_drew)); exact Kd.R_mono HO148.out (fun _ hk => hk.2)), (by (with_reducible repeat (first | apply Kd.R_alloc | apply Kd.R_drewN | apply Kd.R_drew)); exact Kd.R_mono HO151.out (fun _ hk => hk.2)), (by repeat (first | (with_reducible first | exact HB.out | apply below_alloc | apply pw_below_drewN | apply below_drew1) | exact HB.out))⟩)
              · skip
                have hcv14 := own_string (P := Try.prog) Try.underlying23 Try.underlying5 Try.underlying9 (Kd.own_of_R HO151.out)
                refine value_ (w1 := ?_) (v := ?_) (by rfl) rfl ?_ ?_
                rotate_left 2
                · go_simp
                  constructor
                  · rfl
                  · rfl
                clear hcv14
                refine hK.out _ _ trivial (fun hHeld => ?_)
                clear hK K
                refine norm_ (a' := ?_) ?_ ?_
                rotate_left
                · show Act.put _ (some 15) _ = _
                  simp only [Act.put, List.setIfInBounds_toArray, List.set_cons_zero, List.set_cons_succ, i64_w, i32_w]
                  rfl
                refine one_ (i := 2) (N := some 12) #[true, true, true, true, true, true, false, false, false, false, false] rfl rfl (one_of HT_.out (by kernel_rfl)) (by decide) (fun K hK => ?_)
                have hcv15 := own_string (P := Try.prog) Try.underlying23 Try.underlying5 Try.underlying9 (Kd.own_of_R HO148.out)
                refine value_ (w1 := ?_) (v := ?_) (by rfl) rfl ?_ ?_
                rotate_left 2
                · go_simp
                  constructor
                  · rfl
                  · rfl
                clear hcv15
                refine hK.out _ _ trivial (fun hHeld => ?_)
                clear hK K
                refine norm_ (a' := ?_) ?_ ?_
                rotate_left
                · show Act.put _ (some 12) _ = _
                  simp only [Act.put, List.setIfInBounds_toArray, List.set_cons_zero, List.set_cons_succ, i64_w, i32_w]
                  rfl
                exact norm_ (by simp only [putAll, Act.put, List.setIfInBounds_toArray, List.set_cons_zero, List.set_cons_succ]) (hCont (v150) _ ⟨(by (with_reducible repeat (first | apply Kd.R_alloc | apply Kd.R_drewN | apply Kd.R_drew)); exact Kd.R_mono HO148.out (fun _ hk => hk.2)), (by (with_reducible repeat (first | apply Kd.R_alloc | apply Kd.R_drewN | apply Kd.R_drew)); exact Kd.R_mono HO151.out (fun _ hk => hk.2)), (by repeat (first | (with_reducible first | exact HB.out | apply below_alloc | apply pw_below_drewN | apply below_drew1) | exact HB.out))⟩)
          rintro v150 w16 ⟨h0_, h1_, h2_⟩
          have n0_ : Aside0 (Kd.R (Kd.int .u8) 5 w16 w.heap.size (fun k_ => some k_ ≠ (v150 : Value).ownBlock) v147 t146) := ⟨h0_⟩
          have n1_ : Aside0 (Kd.R (Kd.int .u8) 5 w16 w.heap.size (fun k_ => some k_ ≠ (v147 : Value).ownBlock) v150 t149) := ⟨h1_⟩
          have n2_ : Aside0 (Below w.heap.size w w16) := ⟨h2_⟩
          clear HB
          clear h0_ h1_ h2_
          have HO148 := n0_
          have HO151 := n1_
          have HB := n2_
          clear n0_ n1_ n2_
          have hHeld := trivial
          refine norm_ (a' := ?_) ?_ ?_
          rotate_left
          · simp only [putAll, Act.put, List.setIfInBounds_toArray, List.set_cons_zero, List.set_cons_succ]
            rfl
          refine pure_ (i := 6) (N := some 16) (v := ?_) (a' := ?_) #[true, true, true, true, true, true, true, false, false, false, false] rfl rfl (any_of HT_.out (by kernel_rfl)) (fun _ _ _ h => h) (Or.inl ⟨by rfl, ?_⟩) ?_ ?_
          rotate_left
          · intro w'
            go_simp
            with_reducible rfl
          rotate_left
          · simp only [Act.put, List.setIfInBounds_toArray, List.set_cons_zero, List.set_cons_succ, i64_w, i32_w]
            rfl
          refine pure_ (i := 7) (N := some 17) (v := ?_) (a' := ?_) #[true, true, true, true, true, true, true, true, false, false, false] rfl rfl (any_of HT_.out (by kernel_rfl)) (fun _ _ _ h => h) (Or.inl ⟨by rfl, ?_⟩) ?_ ?_
          rotate_left
          · intro w'
            go_simp
            with_reducible rfl
          rotate_left
          · simp only [Act.put, List.setIfInBounds_toArray, List.set_cons_zero, List.set_cons_succ, i64_w, i32_w]
            rfl
          refine one_ (i := 8) (N := some 18) #[true, true, true, true, true, true, true, true, true, false, false] rfl rfl (one_of HT_.out (by kernel_rfl)) (by decide) (fun K hK => ?_)
          refine goes_ Try.func5 (by kernel_rfl) rfl #[] (by rfl) rfl rfl (by (try simp only [List.map_toArray, List.map_cons, List.map_nil]); first | done | rfl | (simp only [List.length_drop, List.length_take]; rfl)) ?_
          with_reducible refine (laws_works.calls kj1  t152 _ A10.out).mono ?_
          rintro e w17 ⟨rfl, hb⟩
          refine ⟨_, rfl, ?_⟩
          have n0_ := Aside0.mk (Kd.R_below (by (with_reducible repeat (first | apply Kd.R_alloc | apply Kd.R_drewN | apply Kd.R_drew)); exact HO148.out) hb)
          have n1_ := Aside0.mk (Kd.R_below (by (with_reducible repeat (first | apply Kd.R_alloc | apply Kd.R_drewN | apply Kd.R_drew)); exact HO151.out) hb)
          have n2_ := Aside0.mk (below_step (by repeat (first | (with_reducible first | exact HB.out | apply below_alloc | apply pw_below_drewN | apply below_drew1) | exact HB.out)) hb)
          clear HO148
          clear HO151
          clear HB
          have HO148 := n0_
          have HO151 := n1_
          have HB := n2_
          clear n0_ n1_ n2_
          (try clear hb)
          (try clear hb2)
          (try clear hk)
          (try clear hi)
          refine hK.out _ _ trivial (fun hHeld => ?_)
          clear hK K
          refine norm_ (a' := ?_) ?_ ?_
          rotate_left
          · show Act.put _ (some 18) _ = _
            simp only [Act.put, List.setIfInBounds_toArray, List.set_cons_zero, List.set_cons_succ, i64_w, i32_w]
            rfl
          refine pure_ (i := 9) (N := some 19) (v := ?_) (a' := ?_) #[true, true, true, true, true, true, true, true, true, true, false] rfl rfl (any_of HT_.out (by kernel_rfl)) (fun _ _ _ h => h) (Or.inl ⟨by rfl, ?_⟩) ?_ ?_
          rotate_left
          · intro w'
            go_simp
            with_reducible rfl
          rotate_left
          · simp only [Act.put, List.setIfInBounds_toArray, List.set_cons_zero, List.set_cons_succ, i64_w, i32_w]
            rfl
          refine pure_ (i := 10) (N := some 2) (v := ?_) (a' := ?_) #[true, true, true, true, true, true, true, true, true, true, true] rfl rfl (any_of HT_.out (by kernel_rfl)) (fun _ _ _ h => h) (Or.inl ⟨by rfl, ?_⟩) ?_ ?_
          rotate_left
          · intro w'
            go_simp
            with_reducible rfl
          rotate_left
          · simp only [Act.put, List.setIfInBounds_toArray, List.set_cons_zero, List.set_cons_succ, i64_w, i32_w]
            rfl
          refine done_ (done_of HT_.out (by kernel_rfl)) ?_
          try go_wp2
          go_ret
          exact ⟨by first | rfl | (simp [errW_none, errW_some] <;> rfl) | (simp [*, errW_none, errW_some] <;> rfl), by repeat (first | (with_reducible first | exact HB.out | apply below_alloc | apply pw_below_drewN | apply below_drew1) | exact HB.out)⟩
        · rw [if_neg c9] at H
          have c9b0 : ((strOfNums t146).toList == (strOfNums t149).toList) = false := beq_eq_false_iff_ne.mpr c9
          have c9b1 : ((strOfNums t146).toList != (strOfNums t149).toList) = true := bne_iff_ne.mpr c9
          obtain rfl := Option.some.inj H
          try go_wp2
          have n0_ := Aside0.mk (below_drew1 HB.out)
          clear HB
          have HB := n0_
          clear n0_
          refine start_ (n := 11) (S := fun w' => True) (ds := []) #[false, false, false, false, false, false, false, false, false, false, false] (by kernel_rfl) rfl rfl trivial (fun hHeld => ?_); refine with_tabW laws_FnLength.tab3 laws_FnLength.bits3 (fun HT_ HW_ => ?_)
          generalize wc.drew = w18 at HB hHeld ⊢
          refine pure_ (i := 0) (N := some 10) (v := ?_) (a' := ?_) #[true, false, false, false, false, false, false, false, false, false, false] rfl rfl (any_of HT_.out (by kernel_rfl)) (fun _ _ _ h => h) (Or.inl ⟨by rfl, ?_⟩) ?_ ?_
          rotate_left
          · intro w'
            go_simp
            with_reducible rfl
          rotate_left
          · simp only [Act.put, List.setIfInBounds_toArray, List.set_cons_zero, List.set_cons_succ, i64_w, i32_w]
            rfl
          refine pure_ (i := 3) (N := some 13) (v := ?_) (a' := ?_) #[true, false, false, true, false, false, false, false, false, false, false] rfl rfl (any_of HT_.out (by kernel_rfl)) (fun _ _ _ h => h) (Or.inl ⟨by rfl, ?_⟩) ?_ ?_
          rotate_left
          · intro w'
            go_simp
            with_reducible rfl
          rotate_left
          · simp only [Act.put, List.setIfInBounds_toArray, List.set_cons_zero, List.set_cons_succ, i64_w, i32_w]
            rfl
          refine one_ (i := 1) (N := some 11) #[true, true, false, true, false, false, false, false, false, false, false] rfl rfl (one_of HT_.out (by kernel_rfl)) (by decide) (fun K hK => ?_)
          refine goes_ Try.func6 (by kernel_rfl) rfl #[.int .i64 a0] (by rfl) rfl rfl (by (try simp only [List.map_toArray, List.map_cons, List.map_nil]); first | done | rfl | (simp only [List.length_drop, List.length_take]; rfl)) ?_
          with_reducible refine (impl_EncodeLength.calls kj1 a0 t146 _ A7.out).mono ?_
          rintro e w19 ⟨v147, rfl, ho0, hb⟩
          refine ⟨_, rfl, ?_⟩
          have n0_ := Aside0.mk (Kd.R_lower ho0 (below_size (by repeat (first | (with_reducible first | exact HB.out | apply below_alloc | apply pw_below_drewN | apply below_drew1) | exact HB.out))))
          have n1_ := Aside0.mk (below_step (by repeat (first | (with_reducible first | exact HB.out | apply below_alloc | apply pw_below_drewN | apply below_drew1) | exact HB.out)) hb)
          clear HB
          have HO148 := n0_
          have HB := n1_
          clear n0_ n1_
          (try clear hb)
          (try clear hb2)
          (try clear hk)
          (try clear hi)
          (try clear ho0)
          refine hK.out _ _ trivial (fun hHeld => ?_)
          clear hK K
          refine norm_ (a' := ?_) ?_ ?_
          rotate_left
          · show Act.put _ (some 11) _ = _
            simp only [Act.put, List.setIfInBounds_toArray, List.set_cons_zero, List.set_cons_succ, i64_w, i32_w]
            rfl
          refine join_ (σ := Value) 5 #[true, true, true, true, true, true, false, false, false, false, false] (fun s_ => [(12, .string (strOfNums t146)), (14, s_), (15, .string (strOfNums t149))]) (fun s_ w' => (Kd.R (Kd.int .u8) 5 w' w.heap.size (fun k_ => some k_ ≠ (s_ : Value).ownBlock) v147 t146) ∧ (Kd.R (Kd.int .u8) 5 w' w.heap.size (fun k_ => some k_ ≠ (v147 : Value).ownBlock) s_ t149) ∧ (Below w.heap.size w w')) ?_ ?_
          rotate_left
          · intro hCont
            refine two_ (i := 2) (j := 4) (Ni := some 12) (Nj := some 14) #[true, true, true, true, false, false, false, false, false, false, false] #[true, true, false, true, true, false, false, false, false, false, false] rfl rfl rfl rfl (two_of HT_.out (by kernel_rfl)) (by decide) (by decide) (fun K hK => ?_) (fun K hK => ?_)
            · skip
              have hcv20 := own_string (P := Try.prog) Try.underlying23 Try.underlying5 Try.underlying9 (Kd.own_of_R HO148.out)
              refine value_ (w1 := ?_) (v := ?_) (by rfl) rfl ?_ ?_
              rotate_left 2
              · go_simp
                constructor
                · rfl
                · rfl
              clear hcv20
              refine hK.out _ _ trivial (fun hHeld => ?_)
              clear hK K
              refine norm_ (a' := ?_) ?_ ?_
              rotate_left
              · show Act.put _ (some 12) _ = _
                simp only [Act.put, List.setIfInBounds_toArray, List.set_cons_zero, List.set_cons_succ, i64_w, i32_w]
                rfl
              refine one_ (i := 4) (N := some 14) #[true, true, true, true, true, false, false, false, false, false, false] rfl rfl (one_of HT_.out (by kernel_rfl)) (by decide) (fun K hK => ?_)
              refine goes_ Try.func7 (by kernel_rfl) rfl #[.int .i64 a0] (by rfl) rfl rfl (by (try simp only [List.map_toArray, List.map_cons, List.map_nil]); first | done | rfl | (simp only [List.length_drop, List.length_take]; rfl)) ?_
              with_reducible refine (spec_Length.calls kj1 a0 t149 _ A8.out).mono ?_
              rintro e w21 ⟨v150, rfl, ho0, hb⟩
              refine ⟨_, rfl, ?_⟩
              have n0_ := Aside0.mk (Kd.R_elder' (by (with_reducible repeat (first | apply Kd.R_alloc | apply Kd.R_drewN | apply Kd.R_drew)); exact HO148.out) (Kd.R_base ho0) hb)
              have n1_ := Aside0.mk (Kd.R_lower (Kd.R_new' ho0 (Kd.R_lt (by (with_reducible repeat (first | apply Kd.R_alloc | apply Kd.R_drewN | apply Kd.R_drew)); exact HO148.out))) (below_size (by repeat (first | (with_reducible first | exact HB.out | apply below_alloc | apply pw_below_drewN | apply below_drew1) | exact HB.out))))
              have n2_ := Aside0.mk (below_step (by repeat (first | (with_reducible first | exact HB.out | apply below_alloc | apply pw_below_drewN | apply below_drew1) | exact HB.out)) hb)
              clear HO148
              clear HB
              have HO148 := n0_
              have HO151 := n1_
              have HB := n2_
              clear n0_ n1_ n2_
              (try clear hb)
              (try clear hb2)
              (try clear hk)
              (try clear hi)
              (try clear ho0)
              refine hK.out _ _ trivial (fun hHeld => ?_)
              clear hK K
              refine norm_ (a' := ?_) ?_ ?_
              rotate_left
              · show Act.put _ (some 14) _ = _
                simp only [Act.put, List.setIfInBounds_toArray, List.set_cons_zero, List.set_cons_succ, i64_w, i32_w]
                rfl
              refine one_ (i := 5) (N := some 15) #[true, true, true, true, true, true, false, false, false, false, false] rfl rfl (one_of HT_.out (by kernel_rfl)) (by decide) (fun K hK => ?_)
              have hcv22 := own_string (P := Try.prog) Try.underlying23 Try.underlying5 Try.underlying9 (Kd.own_of_R HO151.out)
              refine value_ (w1 := ?_) (v := ?_) (by rfl) rfl ?_ ?_
              rotate_left 2
              · go_simp
                constructor
                · rfl
                · rfl
              clear hcv22
              refine hK.out _ _ trivial (fun hHeld => ?_)
              clear hK K
              refine norm_ (a' := ?_) ?_ ?_
              rotate_left
              · show Act.put _ (some 15) _ = _
                simp only [Act.put, List.setIfInBounds_toArray, List.set_cons_zero, List.set_cons_succ, i64_w, i32_w]
                rfl
              exact norm_ (by simp only [putAll, Act.put, List.setIfInBounds_toArray, List.set_cons_zero, List.set_cons_succ]) (hCont (v150) _ ⟨(by (with_reducible repeat (first | apply Kd.R_alloc | apply Kd.R_drewN | apply Kd.R_drew)); exact Kd.R_mono HO148.out (fun _ hk => hk.2)), (by (with_reducible repeat (first | apply Kd.R_alloc | apply Kd.R_drewN | apply Kd.R_drew)); exact Kd.R_mono HO151.out (fun _ hk => hk.2)), (by repeat (first | (with_reducible first | exact HB.out | apply below_alloc | apply pw_below_drewN | apply below_drew1) | exact HB.out))⟩)
            · skip
              refine goes_ Try.func7 (by kernel_rfl) rfl #[.int .i64 a0] (by rfl) rfl rfl (by (try simp only [List.map_toArray, List.map_cons, List.map_nil]); first | done | rfl | (simp only [List.length_drop, List.length_take]; rfl)) ?_
              with_reducible refine (spec_Length.calls kj1 a0 t149 _ A8.out).mono ?_
              rintro e w20 ⟨v150, rfl, ho0, hb⟩
              refine ⟨_, rfl, ?_⟩
              have n0_ := Aside0.mk (Kd.R_elder' (by (with_reducible repeat (first | apply Kd.R_alloc | apply Kd.R_drewN | apply Kd.R_drew)); exact HO148.out) (Kd.R_base ho0) hb)
              have n1_ := Aside0.mk (Kd.R_lower (Kd.R_new' ho0 (Kd.R_lt (by (with_reducible repeat (first | apply Kd.R_alloc | apply Kd.R_drewN | apply Kd.R_drew)); exact HO148.out))) (below_size (by repeat (first | (with_reducible first | exact HB.out | apply below_alloc | apply pw_below_drewN | apply below_drew1) | exact HB.out))))
              have n2_ := Aside0.mk (below_step (by repeat (first | (with_reducible first | exact HB.out | apply below_alloc | apply pw_below_drewN | apply below_drew1) | exact HB.out)) hb)
              clear HO148
              clear HB
              have HO148 := n0_
              have HO151 := n1_
              have HB := n2_
              clear n0_ n1_ n2_
              (try clear hb)
              (try clear hb2)
              (try clear hk)
              (try clear hi)
              (try clear ho0)
              refine hK.out _ _ trivial (fun hHeld => ?_)
              clear hK K
              refine norm_ (a' := ?_) ?_ ?_
              rotate_left
              · show Act.put _ (some 14) _ = _
                simp only [Act.put, List.setIfInBounds_toArray, List.set_cons_zero, List.set_cons_succ, i64_w, i32_w]
                rfl
              refine two_ (i := 2) (j := 5) (Ni := some 12) (Nj := some 15) #[true, true, true, true, true, false, false, false, false, false, false] #[true, true, false, true, true, true, false, false, false, false, false] rfl rfl rfl rfl (two_of HT_.out (by kernel_rfl)) (by decide) (by decide) (fun K hK => ?_) (fun K hK => ?_)
              · skip
                have hcv21 := own_string (P := Try.prog) Try.underlying23 Try.underlying5 Try.underlying9 (Kd.own_of_R HO148.out)
                refine value_ (w1 := ?_) (v := ?_) (by rfl) rfl ?_ ?_
                rotate_left 2
                · go_simp
                  constructor
                  · rfl
                  · rfl
                clear hcv21
                refine hK.out _ _ trivial (fun hHeld => ?_)
                clear hK K
                refine norm_ (a' := ?_) ?_ ?_
                rotate_left
                · show Act.put _ (some 12) _ = _
                  simp only [Act.put, List.setIfInBounds_toArray, List.set_cons_zero, List.set_cons_succ, i64_w, i32_w]
                  rfl
                refine one_ (i := 5) (N := some 15) #[true, true, true, true, true, true, false, false, false, false, false] rfl rfl (one_of HT_.out (by kernel_rfl)) (by decide) (fun K hK => ?_)
                have hcv22 := own_string (P := Try.prog) Try.underlying23 Try.underlying5 Try.underlying9 (Kd.own_of_R HO151.out)
                refine value_ (w1 := ?_) (v := ?_) (by rfl) rfl ?_ ?_
                rotate_left 2
                · go_simp
                  constructor
                  · rfl
                  · rfl
                clear hcv22
                refine hK.out _ _ trivial (fun hHeld => ?_)
                clear hK K
                refine norm_ (a' := ?_) ?_ ?_
                rotate_left
                · show Act.put _ (some 15) _ = _
                  simp only [Act.put, List.setIfInBounds_toArray, List.set_cons_zero, List.set_cons_succ, i64_w, i32_w]
                  rfl
                exact norm_ (by simp only [putAll, Act.put, List.setIfInBounds_toArray, List.set_cons_zero, List.set_cons_succ]) (hCont (v150) _ ⟨(by (with_reducible repeat (first | apply Kd.R_alloc | apply Kd.R_drewN | apply Kd.R_drew)); exact Kd.R_mono HO148.out (fun _ hk => hk.2)), (by (with_reducible repeat (first | apply Kd.R_alloc | apply Kd.R_drewN | apply Kd.R_drew)); exact Kd.R_mono HO151.out (fun _ hk => hk.2)), (by repeat (first | (with_reducible first | exact HB.out | apply below_alloc | apply pw_below_drewN | apply below_drew1) | exact HB.out))⟩)
              · skip
                have hcv21 := own_string (P := Try.prog) Try.underlying23 Try.underlying5 Try.underlying9 (Kd.own_of_R HO151.out)
                refine value_ (w1 := ?_) (v := ?_) (by rfl) rfl ?_ ?_
                rotate_left 2
                · go_simp
                  constructor
                  · rfl
                  · rfl
                clear hcv21
                refine hK.out _ _ trivial (fun hHeld => ?_)
                clear hK K
                refine norm_ (a' := ?_) ?_ ?_
                rotate_left
                · show Act.put _ (some 15) _ = _
                  simp only [Act.put, List.setIfInBounds_toArray, List.set_cons_zero, List.set_cons_succ, i64_w, i32_w]
                  rfl
                refine one_ (i := 2) (N := some 12) #[true, true, true, true, true, true, false, false, false, false, false] rfl rfl (one_of HT_.out (by kernel_rfl)) (by decide) (fun K hK => ?_)
                have hcv22 := own_string (P := Try.prog) Try.underlying23 Try.underlying5 Try.underlying9 (Kd.own_of_R HO148.out)
                refine value_ (w1 := ?_) (v := ?_) (by rfl) rfl ?_ ?_
                rotate_left 2
                · go_simp
                  constructor
                  · rfl
                  · rfl
                clear hcv22
                refine hK.out _ _ trivial (fun hHeld => ?_)
                clear hK K
                refine norm_ (a' := ?_) ?_ ?_
                rotate_left
                · show Act.put _ (some 12) _ = _
                  simp only [Act.put, List.setIfInBounds_toArray, List.set_cons_zero, List.set_cons_succ, i64_w, i32_w]
                  rfl
                exact norm_ (by simp only [putAll, Act.put, List.setIfInBounds_toArray, List.set_cons_zero, List.set_cons_succ]) (hCont (v150) _ ⟨(by (with_reducible repeat (first | apply Kd.R_alloc | apply Kd.R_drewN | apply Kd.R_drew)); exact Kd.R_mono HO148.out (fun _ hk => hk.2)), (by (with_reducible repeat (first | apply Kd.R_alloc | apply Kd.R_drewN | apply Kd.R_drew)); exact Kd.R_mono HO151.out (fun _ hk => hk.2)), (by repeat (first | (with_reducible first | exact HB.out | apply below_alloc | apply pw_below_drewN | apply below_drew1) | exact HB.out))⟩)
          rintro v150 w23 ⟨h0_, h1_, h2_⟩
          have n0_ : Aside0 (Kd.R (Kd.int .u8) 5 w23 w.heap.size (fun k_ => some k_ ≠ (v150 : Value).ownBlock) v147 t146) := ⟨h0_⟩
          have n1_ : Aside0 (Kd.R (Kd.int .u8) 5 w23 w.heap.size (fun k_ => some k_ ≠ (v147 : Value).ownBlock) v150 t149) := ⟨h1_⟩
          have n2_ : Aside0 (Below w.heap.size w w23) := ⟨h2_⟩
          clear HB
          clear h0_ h1_ h2_
          have HO148 := n0_
          have HO151 := n1_
          have HB := n2_
          clear n0_ n1_ n2_
          have hHeld := trivial
          refine norm_ (a' := ?_) ?_ ?_
          rotate_left
          · simp only [putAll, Act.put, List.setIfInBounds_toArray, List.set_cons_zero, List.set_cons_succ]
            rfl
          refine pure_ (i := 6) (N := some 16) (v := ?_) (a' := ?_) #[true, true, true, true, true, true, true, false, false, false, false] rfl rfl (any_of HT_.out (by kernel_rfl)) (fun _ _ _ h => h) (Or.inl ⟨by rfl, ?_⟩) ?_ ?_
          rotate_left
          · intro w'
            go_simp
            with_reducible rfl
          rotate_left
          · simp only [Act.put, List.setIfInBounds_toArray, List.set_cons_zero, List.set_cons_succ, i64_w, i32_w]
            rfl
          refine pure_ (i := 7) (N := some 17) (v := ?_) (a' := ?_) #[true, true, true, true, true, true, true, true, false, false, false] rfl rfl (any_of HT_.out (by kernel_rfl)) (fun _ _ _ h => h) (Or.inl ⟨by rfl, ?_⟩) ?_ ?_
          rotate_left
          · intro w'
            go_simp
            with_reducible rfl
          rotate_left
          · simp only [Act.put, List.setIfInBounds_toArray, List.set_cons_zero, List.set_cons_succ, i64_w, i32_w]
            rfl
          refine pure_ (i := 8) (N := some 18) (v := undef) (a' := ?_) #[true, true, true, true, true, true, true, true, true, false, false] rfl rfl (any_of HT_.out (by kernel_rfl)) (fun _ _ _ h => h) (Or.inr ⟨by rfl, rfl⟩) ?_ ?_
          rotate_left
          · simp only [Act.put, List.setIfInBounds_toArray, List.set_cons_zero, List.set_cons_succ, i64_w, i32_w]
            rfl
          refine pure_ (i := 9) (N := some 19) (v := ?_) (a' := ?_) #[true, true, true, true, true, true, true, true, true, true, false] rfl rfl (any_of HT_.out (by kernel_rfl)) (fun _ _ _ h => h) (Or.inl ⟨by rfl, ?_⟩) ?_ ?_
          rotate_left
          · intro w'
            go_simp
            with_reducible rfl
          rotate_left
          · simp only [Act.put, List.setIfInBounds_toArray, List.set_cons_zero, List.set_cons_succ, i64_w, i32_w]
            rfl
          refine pure_ (i := 10) (N := some 2) (v := ?_) (a' := ?_) #[true, true, true, true, true, true, true, true, true, true, true] rfl rfl (any_of HT_.out (by kernel_rfl)) (fun _ _ _ h => h) (Or.inl ⟨by rfl, ?_⟩) ?_ ?_
          rotate_left
          · intro w'
            go_simp
            with_reducible rfl
          rotate_left
          · simp only [Act.put, List.setIfInBounds_toArray, List.set_cons_zero, List.set_cons_succ, i64_w, i32_w]
            rfl
          refine done_ (done_of HT_.out (by kernel_rfl)) ?_
          try go_wp2
          go_ret
          exact ⟨by first | rfl | (simp [errW_none, errW_some] <;> rfl) | (simp [*, errW_none, errW_some] <;> rfl), by repeat (first | (with_reducible first | exact HB.out | apply below_alloc | apply pw_below_drewN | apply below_drew1) | exact HB.out)⟩

/-- THE ONE PURE STATEMENT of laws_FnLength: yours. -/
def laws_FnLength.Pure : Prop := ∀ (a0 : Int), (Lit.int .i64 a0).wf = true → ∃ k, laws_FnLength.f k a0 = some true
theorem laws_FnLength.walk (P : laws_FnLength.Pure) (a0 : Int) (w : World) (w0 : (Lit.int .i64 a0).wf = true) :
    Calls Try.prog 3 #[.int .i64 a0] w fun e w' => e = .returned (.bool true) ∧ Below w.heap.size w w' := by
  obtain ⟨k, h⟩ := P a0 w0
  refine (laws_FnLength.calls k a0 true w h).mono ?_
  rintro e w' ⟨rfl, hd⟩
  exact ⟨rfl, hd⟩

end Go.Proofs.Ythlameofbhopkaa.PFnLength
