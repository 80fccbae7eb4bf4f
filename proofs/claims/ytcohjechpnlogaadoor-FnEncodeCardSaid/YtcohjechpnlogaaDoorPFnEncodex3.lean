-- PRINTED BY print.sh 35421559b90ae4d0a3588c463048766b98c2df88dd9212a6774a882060cdf62d: not written by this session
import Derived.Test.YtcohjechpnlogaaDoorPFnEncodex0
import Derived.Test.YtcohjechpnlogaaDoorPFnEncodex2
namespace Go.Proofs.YtcohjechpnlogaaDoor.PFnEncode
open Go.RowKit Go.Proofs.YtcohjechpnlogaaDoorW.PrintWords Go.Proofs.YtcohjechpnlogaaDoorW.PrintLast Go.Proofs.YtcohjechpnlogaaDoorW.PrintMore
attribute [local go_sem] max2_int min2_int max_two min_two max_three min_three max_four min_four   -- for this text's walks alone
set_option linter.unusedVariables false
set_option linter.unusedSimpArgs false

/-! ### asn1ber_encodeLength: function 45 -/
def asn1ber_encodeLength.f (k : Nat) (a0 : Int) : Option (List Int) := (asn1ber_encodeUnsignedInteger.f k (IntKind.u64.wrap (a0))).bind fun t125 => (if a0 > 127 then ((some (([Go.bits .or .u8 128 (((t125.length : Int)) % 256)] : List Int) : List Int)).bind fun y128 => (if y128.length + t125.length < 140737488355328 then (some (y128 ++ t125)) else (none))) else (if (t125.length : Int) > 1 then ((some (([Go.bits .or .u8 128 (((t125.length : Int)) % 256)] : List Int) : List Int)).bind fun y134 => (if y134.length + t125.length < 140737488355328 then (some (y134 ++ t125)) else (none))) else (some t125)))
theorem asn1ber_encodeLength.mono : ∀ a0 k, LeO (asn1ber_encodeLength.f k a0) (asn1ber_encodeLength.f (k + 1) a0) := by
  intro a0 k
  unfold asn1ber_encodeLength.f
  repeat' first
      | (with_reducible exact asn1ber_encodeUnsignedInteger.mono _ _)
      | (with_reducible exact LeO.refl _)
      | (with_reducible exact LeO.none _)
      | (with_reducible refine LeO.ite ?_ ?_)
      | (with_reducible refine LeO.bind ?_ (fun _ => ?_))
      | exact asn1ber_encodeUnsignedInteger.mono _ _
      | exact LeO.none _
      | refine LeO.ite ?_ ?_
      | refine LeO.bind ?_ (fun _ => ?_)
set_option maxHeartbeats 8000000 in
set_option maxRecDepth 100000 in
theorem asn1ber_encodeLength.calls (k : Nat) (a0 : Int) (r : List Int) (w : World) (h : asn1ber_encodeLength.f k a0 = some r) :
    Calls Tryd.prog 45 #[.int .i64 a0] w fun e w' => ∃ v0_ : Value, e = .returned (v0_) ∧ Kd.R (Kd.int .u8) 5 w' w.heap.size (fun _ => True) v0_ r ∧ Below w.heap.size w w' := by
  have HB := Aside0.mk (Below.refl w.heap.size w)
  have H : ((asn1ber_encodeUnsignedInteger.f k (IntKind.u64.wrap (a0))).bind fun t125 => (if a0 > 127 then ((some (([Go.bits .or .u8 128 (((t125.length : Int)) % 256)] : List Int) : List Int)).bind fun y128 => (if y128.length + t125.length < 140737488355328 then (some (y128 ++ t125)) else (none))) else (if (t125.length : Int) > 1 then ((some (([Go.bits .or .u8 128 (((t125.length : Int)) % 256)] : List Int) : List Int)).bind fun y134 => (if y134.length + t125.length < 140737488355328 then (some (y134 ++ t125)) else (none))) else (some t125)))) = some r := h
  clear h
  replace H := Option.bind_eq_some_iff.mp H
  obtain ⟨t125, A20, H⟩ := H
  replace H : (if a0 > 127 then ((some (([Go.bits .or .u8 128 (((t125.length : Int)) % 256)] : List Int) : List Int)).bind fun y128 => (if y128.length + t125.length < 140737488355328 then (some (y128 ++ t125)) else (none))) else (if (t125.length : Int) > 1 then ((some (([Go.bits .or .u8 128 (((t125.length : Int)) % 256)] : List Int) : List Int)).bind fun y134 => (if y134.length + t125.length < 140737488355328 then (some (y134 ++ t125)) else (none))) else (some t125))) = some r := H
  have A2 := Aside0.mk A20
  clear A20
  by_cases c3 : a0 > 127
  · rw [if_pos c3] at H
    have c3b0 : decide (127 < a0) = true := decide_eq_true c3
    clear c3
    obtain ⟨y128, hy128⟩ : ∃ y_ : List Int, y_ = (([Go.bits .or .u8 128 (((t125.length : Int)) % 256)] : List Int)) := ⟨_, rfl⟩
    replace H : (if y128.length + t125.length < 140737488355328 then (some (y128 ++ t125)) else (none)) = some r := by first | (rw [hy128]; with_reducible exact H) | (have H2_ := (Option.bind_some _ _).symm.trans H; rw [hy128]; with_reducible exact H2_) | (have H2_ := (Option.bind_some _ _).symm.trans H; with_reducible exact H2_) | with_reducible exact H | (rw [hy128]; exact H) | exact H
    have Ny128 := Aside0.mk hy128
    clear hy128
    by_cases c4 : y128.length + t125.length < 140737488355328
    · rw [if_pos c4] at H
      have LMc4 := Aside0.mk c4
      clear c4
      obtain ⟨y131, hy131⟩ : ∃ y_ : List Int, y_ = (y128 ++ t125) := ⟨_, rfl⟩
      replace H : (some y131) = some r := by first | (rw [hy131]; with_reducible exact H) | (have H2_ := (Option.bind_some _ _).symm.trans H; rw [hy131]; with_reducible exact H2_) | (have H2_ := (Option.bind_some _ _).symm.trans H; with_reducible exact H2_) | with_reducible exact H | (rw [hy131]; exact H) | exact H
      have Ny131 := Aside0.mk hy131
      clear hy131
      obtain rfl := Option.some.inj H
      go_enter Tryd.func45, Tryd.ntmps45
      go_wp2_with (first | ((with_reducible refine gate_callee (f := 56) rfl ?_); refine goesL_ (some 7) rfl rfl Tryd.func56 (by kernel_rfl) rfl #[.int .u64 (IntKind.u64.wrap (a0))] rfl (by (try simp only [List.map_toArray, List.map_cons, List.map_nil]); first | done | rfl | (simp only [List.length_drop, List.length_take]; rfl)) ?_; (with_reducible refine (asn1ber_encodeUnsignedInteger.calls k (IntKind.u64.wrap (a0)) t125 _ A2.out).mono ?_); rintro e w5 ⟨v126, rfl, ho0, hb⟩; refine ⟨_, rfl, ?_⟩; have n0_ := Aside0.mk (Kd.R_lower ho0 (below_size (by repeat (first | (with_reducible first | exact HB.out | apply below_alloc | apply pw_below_drewN | apply below_drew1) | exact HB.out)))); have n1_ := Aside0.mk (below_step (by repeat (first | (with_reducible first | exact HB.out | apply below_alloc | apply pw_below_drewN | apply below_drew1) | exact HB.out)) hb); clear HB; have HO127 := n0_; have HB := n1_; clear n0_ n1_; (try clear hb); (try clear hb2); (try clear hk); (try clear hi); (try clear ho0); obtain ⟨Ao6, co6, eo6⟩ := Kd.R_slice HO127.out; subst eo6) | ((with_reducible refine gate_dst (N := 19) rfl ?_); (try (refine gate_guard (by rfl) ?_; dsimp only)); refine Kd.R_lit (Kd.int .u8) _ 5 ?hg (N := 19) ?hd (xs := ([Go.bits .or .u8 128 (((t125.length : Int)) % 256)] : List Int)) (inner := [.int .u8 (Go.bits .or .u8 128 (((t125.length : Int)) % 256))]) (ok := fun _ => True) (okp := fun _ => True) ?hr ?hp (fun _ hk => hk) trivial (Below.refl _ _) (Nat.le_refl _) (by simp) ?_; (case hd => rfl); (case hg => rfl); (case hr => first | (go_simp; done) | (go_simp; rfl)); (case hp => exact (Reps.one (show Kd.M (Kd.int .u8) _ _ _ (Go.bits .or .u8 128 (((t125.length : Int)) % 256)) [.int .u8 (Go.bits .or .u8 128 (((t125.length : Int)) % 256))] from rfl) (Reps.none _ _))); intro v129 w7 ho8 hb hg_ hnew_; clear hg_ hnew_; (first | rw [← Ny128.out] at ho8 | (simp only [Int.reduceToNat] at ho8; rw [← Ny128.out] at ho8)); have n0_ := Aside0.mk (Kd.R_elder' (by (with_reducible repeat (first | apply Kd.R_alloc | apply Kd.R_drewN | apply Kd.R_drew)); exact HO127.out) (Kd.R_base ho8) hb); have n1_ := Aside0.mk (Kd.R_lower (Kd.R_new' ho8 (Kd.R_lt (by (with_reducible repeat (first | apply Kd.R_alloc | apply Kd.R_drewN | apply Kd.R_drew)); exact HO127.out))) (below_size (by repeat (first | (with_reducible first | exact HB.out | apply below_alloc | apply pw_below_drewN | apply below_drew1) | exact HB.out)))); have n2_ := Aside0.mk (below_step (by repeat (first | (with_reducible first | exact HB.out | apply below_alloc | apply pw_below_drewN | apply below_drew1) | exact HB.out)) hb); clear HO127; clear HB; have HO127 := n0_; have HO130 := n1_; have HB := n2_; clear n0_ n1_ n2_; clear hb ho8) | ((with_reducible refine gate_builtin (b := .append) (xs := #[.tmp 20, .tmp 21]) rfl ?_); (try (refine gate_guard (by rfl) ?_; dsimp only)); at_builtin; refine Kd.R_append_rows (Kd.int .u8) (w0 := w) w.heap.size rfl (.tmp 20) (.tmp 21) 22 5 (.int .u8 0) 1 rfl Tryd.underlying22 info5 rfl (by decide) (by omega) v129 y128 t125 _ _ _ (fun k_ => some k_ ≠ (.slice Ao6 t125.length co6 : Value).ownBlock) (fun _ => False) rfl rfl ?aO ?aR (fun _ _ h => h) (fun _ h => h.elim) ?aF ?aB ?aS ?aL ?_; (case aR => repeat (first | exact (Kd.R_reads' HO127.out).2.2 | (with_reducible refine Kd.C_alloc ?_ _) | (with_reducible refine Kd.C_drewN ?_ _) | (with_reducible refine Kd.C_drew ?_))); (case aB => exact (by repeat (first | (with_reducible first | exact HB.out | apply below_alloc | apply pw_below_drewN | apply below_drew1) | exact HB.out))); (case aF => exact (fun k_ hk => Kd.fresh' (Kd.R_lt (by (with_reducible repeat (first | apply Kd.R_alloc | apply Kd.R_drewN | apply Kd.R_drew)); exact HO127.out)) k_ hk)); (case aO => exact (by (with_reducible repeat (first | apply Kd.R_alloc | apply Kd.R_drewN | apply Kd.R_drew)); exact Kd.R_mono HO130.out (fun _ hk => hk.2))); (case aS => exact (below_size (by repeat (first | (with_reducible first | exact HB.out | apply below_alloc | apply pw_below_drewN | apply below_drew1) | exact HB.out)))); (case aL => have := LMc4.out; omega); intro v132 w9 ho hb hg hat; rw [← Ny131.out] at ho; have n0_ := Aside0.mk (Kd.R_after (ok := (fun _ => True)) (by (with_reducible repeat (first | apply Kd.R_alloc | apply Kd.R_drewN | apply Kd.R_drew)); exact HO127.out) hg hat); have n1_ := Aside0.mk (hb); have n2_ := Aside0.mk (ho); clear HO127; clear HB; clear HO130; have HO127 := n0_; have HB := n1_; have HO133 := n2_; clear n0_ n1_ n2_; clear ho hb hg hat))
      go_ret
      exact ⟨_, by first | rfl | (simp [errW_none, errW_some] <;> rfl) | (simp [*, errW_none, errW_some] <;> rfl), by (with_reducible repeat (first | apply Kd.R_alloc | apply Kd.R_drewN | apply Kd.R_drew)); exact Kd.R_mono HO133.out (fun _ hk => trivial), by repeat (first | (with_reducible first | exact HB.out | apply below_alloc | apply pw_below_drewN | apply below_drew1) | exact HB.out)⟩
    · rw [if_neg c4] at H
      exact absurd H (by simp)
  · rw [if_neg c3] at H
    have c3b0 : decide (127 < a0) = false := decide_eq_false c3
    clear c3
    by_cases c10 : (t125.length : Int) > 1
    · rw [if_pos c10] at H
      have c10b0 : decide (1 < (t125.length : Int)) = true := decide_eq_true c10
      have c10b1 : decide (1 < t125.length) = true := decide_eq_true (by omega)
      clear c10
      obtain ⟨y134, hy134⟩ : ∃ y_ : List Int, y_ = (([Go.bits .or .u8 128 (((t125.length : Int)) % 256)] : List Int)) := ⟨_, rfl⟩
      replace H : (if y134.length + t125.length < 140737488355328 then (some (y134 ++ t125)) else (none)) = some r := by first | (rw [hy134]; with_reducible exact H) | (have H2_ := (Option.bind_some _ _).symm.trans H; rw [hy134]; with_reducible exact H2_) | (have H2_ := (Option.bind_some _ _).symm.trans H; with_reducible exact H2_) | with_reducible exact H | (rw [hy134]; exact H) | exact H
      have Ny134 := Aside0.mk hy134
      clear hy134
      by_cases c11 : y134.length + t125.length < 140737488355328
      · rw [if_pos c11] at H
        have LMc11 := Aside0.mk c11
        clear c11
        obtain ⟨y137, hy137⟩ : ∃ y_ : List Int, y_ = (y134 ++ t125) := ⟨_, rfl⟩
        replace H : (some y137) = some r := by first | (rw [hy137]; with_reducible exact H) | (have H2_ := (Option.bind_some _ _).symm.trans H; rw [hy137]; with_reducible exact H2_) | (have H2_ := (Option.bind_some _ _).symm.trans H; with_reducible exact H2_) | with_reducible exact H | (rw [hy137]; exact H) | exact H
        have Ny137 := Aside0.mk hy137
        clear hy137
        obtain rfl := Option.some.inj H
        go_enter Tryd.func45, Tryd.ntmps45
        go_wp2_with (first | ((with_reducible refine gate_callee (f := 56) rfl ?_); refine goesL_ (some 7) rfl rfl Tryd.func56 (by kernel_rfl) rfl #[.int .u64 (IntKind.u64.wrap (a0))] rfl (by (try simp only [List.map_toArray, List.map_cons, List.map_nil]); first | done | rfl | (simp only [List.length_drop, List.length_take]; rfl)) ?_; (with_reducible refine (asn1ber_encodeUnsignedInteger.calls k (IntKind.u64.wrap (a0)) t125 _ A2.out).mono ?_); rintro e w12 ⟨v126, rfl, ho0, hb⟩; refine ⟨_, rfl, ?_⟩; have n0_ := Aside0.mk (Kd.R_lower ho0 (below_size (by repeat (first | (with_reducible first | exact HB.out | apply below_alloc | apply pw_below_drewN | apply below_drew1) | exact HB.out)))); have n1_ := Aside0.mk (below_step (by repeat (first | (with_reducible first | exact HB.out | apply below_alloc | apply pw_below_drewN | apply below_drew1) | exact HB.out)) hb); clear HB; have HO127 := n0_; have HB := n1_; clear n0_ n1_; (try clear hb); (try clear hb2); (try clear hk); (try clear hi); (try clear ho0); obtain ⟨Ao13, co13, eo13⟩ := Kd.R_slice HO127.out; subst eo13) | ((with_reducible refine gate_dst (N := 19) rfl ?_); (try (refine gate_guard (by rfl) ?_; dsimp only)); refine Kd.R_lit (Kd.int .u8) _ 5 ?hg (N := 19) ?hd (xs := ([Go.bits .or .u8 128 (((t125.length : Int)) % 256)] : List Int)) (inner := [.int .u8 (Go.bits .or .u8 128 (((t125.length : Int)) % 256))]) (ok := fun _ => True) (okp := fun _ => True) ?hr ?hp (fun _ hk => hk) trivial (Below.refl _ _) (Nat.le_refl _) (by simp) ?_; (case hd => rfl); (case hg => rfl); (case hr => first | (go_simp; done) | (go_simp; rfl)); (case hp => exact (Reps.one (show Kd.M (Kd.int .u8) _ _ _ (Go.bits .or .u8 128 (((t125.length : Int)) % 256)) [.int .u8 (Go.bits .or .u8 128 (((t125.length : Int)) % 256))] from rfl) (Reps.none _ _))); intro v135 w14 ho15 hb hg_ hnew_; clear hg_ hnew_; (first | rw [← Ny134.out] at ho15 | (simp only [Int.reduceToNat] at ho15; rw [← Ny134.out] at ho15)); have n0_ := Aside0.mk (Kd.R_elder' (by (with_reducible repeat (first | apply Kd.R_alloc | apply Kd.R_drewN | apply Kd.R_drew)); exact HO127.out) (Kd.R_base ho15) hb); have n1_ := Aside0.mk (Kd.R_lower (Kd.R_new' ho15 (Kd.R_lt (by (with_reducible repeat (first | apply Kd.R_alloc | apply Kd.R_drewN | apply Kd.R_drew)); exact HO127.out))) (below_size (by repeat (first | (with_reducible first | exact HB.out | apply below_alloc | apply pw_below_drewN | apply below_drew1) | exact HB.out)))); have n2_ := Aside0.mk (below_step (by repeat (first | (with_reducible first | exact HB.out | apply below_alloc | apply pw_below_drewN | apply below_drew1) | exact HB.out)) hb); clear HO127; clear HB; have HO127 := n0_; have HO136 := n1_; have HB := n2_; clear n0_ n1_ n2_; clear hb ho15) | ((with_reducible refine gate_builtin (b := .append) (xs := #[.tmp 20, .tmp 21]) rfl ?_); (try (refine gate_guard (by rfl) ?_; dsimp only)); at_builtin; refine Kd.R_append_rows (Kd.int .u8) (w0 := w) w.heap.size rfl (.tmp 20) (.tmp 21) 22 5 (.int .u8 0) 1 rfl Tryd.underlying22 info5 rfl (by decide) (by omega) v135 y134 t125 _ _ _ (fun k_ => some k_ ≠ (.slice Ao13 t125.length co13 : Value).ownBlock) (fun _ => False) rfl rfl ?aO ?aR (fun _ _ h => h) (fun _ h => h.elim) ?aF ?aB ?aS ?aL ?_; (case aR => repeat (first | exact (Kd.R_reads' HO127.out).2.2 | (with_reducible refine Kd.C_alloc ?_ _) | (with_reducible refine Kd.C_drewN ?_ _) | (with_reducible refine Kd.C_drew ?_))); (case aB => exact (by repeat (first | (with_reducible first | exact HB.out | apply below_alloc | apply pw_below_drewN | apply below_drew1) | exact HB.out))); (case aF => exact (fun k_ hk => Kd.fresh' (Kd.R_lt (by (with_reducible repeat (first | apply Kd.R_alloc | apply Kd.R_drewN | apply Kd.R_drew)); exact HO127.out)) k_ hk)); (case aO => exact (by (with_reducible repeat (first | apply Kd.R_alloc | apply Kd.R_drewN | apply Kd.R_drew)); exact Kd.R_mono HO136.out (fun _ hk => hk.2))); (case aS => exact (below_size (by repeat (first | (with_reducible first | exact HB.out | apply below_alloc | apply pw_below_drewN | apply below_drew1) | exact HB.out)))); (case aL => have := LMc11.out; omega); intro v138 w16 ho hb hg hat; rw [← Ny137.out] at ho; have n0_ := Aside0.mk (Kd.R_after (ok := (fun _ => True)) (by (with_reducible repeat (first | apply Kd.R_alloc | apply Kd.R_drewN | apply Kd.R_drew)); exact HO127.out) hg hat); have n1_ := Aside0.mk (hb); have n2_ := Aside0.mk (ho); clear HO127; clear HB; clear HO136; have HO127 := n0_; have HB := n1_; have HO139 := n2_; clear n0_ n1_ n2_; clear ho hb hg hat))
        go_ret
        exact ⟨_, by first | rfl | (simp [errW_none, errW_some] <;> rfl) | (simp [*, errW_none, errW_some] <;> rfl), by (with_reducible repeat (first | apply Kd.R_alloc | apply Kd.R_drewN | apply Kd.R_drew)); exact Kd.R_mono HO139.out (fun _ hk => trivial), by repeat (first | (with_reducible first | exact HB.out | apply below_alloc | apply pw_below_drewN | apply below_drew1) | exact HB.out)⟩
      · rw [if_neg c11] at H
        exact absurd H (by simp)
    · rw [if_neg c10] at H
      have c10b0 : decide (1 < (t125.length : Int)) = false := decide_eq_false c10
      have c10b1 : decide (1 < t125.length) = false := decide_eq_false (by omega)
      clear c10
      obtain rfl := Option.some.inj H
      go_enter Tryd.func45, Tryd.ntmps45
      go_wp2_with (first | ((with_reducible refine gate_callee (f := 56) rfl ?_); refine goesL_ (some 7) rfl rfl Tryd.func56 (by kernel_rfl) rfl #[.int .u64 (IntKind.u64.wrap (a0))] rfl (by (try simp only [List.map_toArray, List.map_cons, List.map_nil]); first | done | rfl | (simp only [List.length_drop, List.length_take]; rfl)) ?_; (with_reducible refine (asn1ber_encodeUnsignedInteger.calls k (IntKind.u64.wrap (a0)) t125 _ A2.out).mono ?_); rintro e w17 ⟨v126, rfl, ho0, hb⟩; refine ⟨_, rfl, ?_⟩; have n0_ := Aside0.mk (Kd.R_lower ho0 (below_size (by repeat (first | (with_reducible first | exact HB.out | apply below_alloc | apply pw_below_drewN | apply below_drew1) | exact HB.out)))); have n1_ := Aside0.mk (below_step (by repeat (first | (with_reducible first | exact HB.out | apply below_alloc | apply pw_below_drewN | apply below_drew1) | exact HB.out)) hb); clear HB; have HO127 := n0_; have HB := n1_; clear n0_ n1_; (try clear hb); (try clear hb2); (try clear hk); (try clear hi); (try clear ho0); obtain ⟨Ao18, co18, eo18⟩ := Kd.R_slice HO127.out; subst eo18))
      go_ret
      exact ⟨_, by first | rfl | (simp [errW_none, errW_some] <;> rfl) | (simp [*, errW_none, errW_some] <;> rfl), by (with_reducible repeat (first | apply Kd.R_alloc | apply Kd.R_drewN | apply Kd.R_drew)); exact HO127.out, by repeat (first | (with_reducible first | exact HB.out | apply below_alloc | apply pw_below_drewN | apply below_drew1) | exact HB.out)⟩

/-! ### asn1ber_LengthBytes: function 40 -/
def asn1ber_LengthBytes.f (k : Nat) (a0 : Int) : Option (List Int) := (asn1ber_encodeLength.f k a0).bind fun t140 => (some t140)
theorem asn1ber_LengthBytes.mono : ∀ a0 k, LeO (asn1ber_LengthBytes.f k a0) (asn1ber_LengthBytes.f (k + 1) a0) := by
  intro a0 k
  unfold asn1ber_LengthBytes.f
  repeat' first
      | (with_reducible exact asn1ber_encodeLength.mono _ _)
      | (with_reducible exact LeO.refl _)
      | (with_reducible exact LeO.none _)
      | (with_reducible refine LeO.ite ?_ ?_)
      | (with_reducible refine LeO.bind ?_ (fun _ => ?_))
      | exact asn1ber_encodeLength.mono _ _
      | exact LeO.none _
      | refine LeO.ite ?_ ?_
      | refine LeO.bind ?_ (fun _ => ?_)
set_option maxHeartbeats 8000000 in
set_option maxRecDepth 100000 in
theorem asn1ber_LengthBytes.calls (k : Nat) (a0 : Int) (r : List Int) (w : World) (h : asn1ber_LengthBytes.f k a0 = some r) :
    Calls Tryd.prog 40 #[.int .i64 a0] w fun e w' => ∃ v0_ : Value, e = .returned (v0_) ∧ Kd.R (Kd.int .u8) 5 w' w.heap.size (fun _ => True) v0_ r ∧ Below w.heap.size w w' := by
  have HB := Aside0.mk (Below.refl w.heap.size w)
  have H : ((asn1ber_encodeLength.f k a0).bind fun t140 => (some t140)) = some r := h
  clear h
  replace H := Option.bind_eq_some_iff.mp H
  obtain ⟨t140, A20, H⟩ := H
  replace H : (some t140) = some r := H
  have A2 := Aside0.mk A20
  clear A20
  obtain rfl := Option.some.inj H
  go_enter Tryd.func40, Tryd.ntmps40
  go_wp2_with (first | ((with_reducible refine gate_callee (f := 45) rfl ?_); refine goesL_ (some 4) rfl rfl Tryd.func45 (by kernel_rfl) rfl #[.int .i64 a0] rfl (by (try simp only [List.map_toArray, List.map_cons, List.map_nil]); first | done | rfl | (simp only [List.length_drop, List.length_take]; rfl)) ?_; (with_reducible refine (asn1ber_encodeLength.calls k a0 t140 _ A2.out).mono ?_); rintro e w3 ⟨v141, rfl, ho0, hb⟩; refine ⟨_, rfl, ?_⟩; have n0_ := Aside0.mk (Kd.R_lower ho0 (below_size (by repeat (first | (with_reducible first | exact HB.out | apply below_alloc | apply pw_below_drewN | apply below_drew1) | exact HB.out)))); have n1_ := Aside0.mk (below_step (by repeat (first | (with_reducible first | exact HB.out | apply below_alloc | apply pw_below_drewN | apply below_drew1) | exact HB.out)) hb); clear HB; have HO142 := n0_; have HB := n1_; clear n0_ n1_; (try clear hb); (try clear hb2); (try clear hk); (try clear hi); (try clear ho0)))
  go_ret
  exact ⟨_, by first | rfl | (simp [errW_none, errW_some] <;> rfl) | (simp [*, errW_none, errW_some] <;> rfl), by (with_reducible repeat (first | apply Kd.R_alloc | apply Kd.R_drewN | apply Kd.R_drew)); exact HO142.out, by repeat (first | (with_reducible first | exact HB.out | apply below_alloc | apply pw_below_drewN | apply below_drew1) | exact HB.out)⟩

/-! ### impl_EncodeLength: function 26 -/
def impl_EncodeLength.f (k : Nat) (a0 : Int) : Option (List Int) := (asn1ber_LengthBytes.f k a0).bind fun t143 => (some t143)
theorem impl_EncodeLength.mono : ∀ a0 k, LeO (impl_EncodeLength.f k a0) (impl_EncodeLength.f (k + 1) a0) := by
  intro a0 k
  unfold impl_EncodeLength.f
  repeat' first
      | (with_reducible exact asn1ber_LengthBytes.mono _ _)
      | (with_reducible exact LeO.refl _)
      | (with_reducible exact LeO.none _)
      | (with_reducible refine LeO.ite ?_ ?_)
      | (with_reducible refine LeO.bind ?_ (fun _ => ?_))
      | exact asn1ber_LengthBytes.mono _ _
      | exact LeO.none _
      | refine LeO.ite ?_ ?_
      | refine LeO.bind ?_ (fun _ => ?_)
set_option maxHeartbeats 8000000 in
set_option maxRecDepth 100000 in
theorem impl_EncodeLength.calls (k : Nat) (a0 : Int) (r : List Int) (w : World) (h : impl_EncodeLength.f k a0 = some r) :
    Calls Tryd.prog 26 #[.int .i64 a0] w fun e w' => ∃ v0_ : Value, e = .returned (v0_) ∧ Kd.R (Kd.int .u8) 5 w' w.heap.size (fun _ => True) v0_ r ∧ Below w.heap.size w w' := by
  have HB := Aside0.mk (Below.refl w.heap.size w)
  have H : ((asn1ber_LengthBytes.f k a0).bind fun t143 => (some t143)) = some r := h
  clear h
  replace H := Option.bind_eq_some_iff.mp H
  obtain ⟨t143, A20, H⟩ := H
  replace H : (some t143) = some r := H
  have A2 := Aside0.mk A20
  clear A20
  obtain rfl := Option.some.inj H
  go_enter Tryd.func26, Tryd.ntmps26
  go_wp2_with (first | ((with_reducible refine gate_callee (f := 40) rfl ?_); refine goesL_ (some 4) rfl rfl Tryd.func40 (by kernel_rfl) rfl #[.int .i64 a0] rfl (by (try simp only [List.map_toArray, List.map_cons, List.map_nil]); first | done | rfl | (simp only [List.length_drop, List.length_take]; rfl)) ?_; (with_reducible refine (asn1ber_LengthBytes.calls k a0 t143 _ A2.out).mono ?_); rintro e w3 ⟨v144, rfl, ho0, hb⟩; refine ⟨_, rfl, ?_⟩; have n0_ := Aside0.mk (Kd.R_lower ho0 (below_size (by repeat (first | (with_reducible first | exact HB.out | apply below_alloc | apply pw_below_drewN | apply below_drew1) | exact HB.out)))); have n1_ := Aside0.mk (below_step (by repeat (first | (with_reducible first | exact HB.out | apply below_alloc | apply pw_below_drewN | apply below_drew1) | exact HB.out)) hb); clear HB; have HO145 := n0_; have HB := n1_; clear n0_ n1_; (try clear hb); (try clear hb2); (try clear hk); (try clear hi); (try clear ho0)))
  go_ret
  exact ⟨_, by first | rfl | (simp [errW_none, errW_some] <;> rfl) | (simp [*, errW_none, errW_some] <;> rfl), by (with_reducible repeat (first | apply Kd.R_alloc | apply Kd.R_drewN | apply Kd.R_drew)); exact HO145.out, by repeat (first | (with_reducible first | exact HB.out | apply below_alloc | apply pw_below_drewN | apply below_drew1) | exact HB.out)⟩

/-! ### laws_works: function 9 -/
def laws_works.f (k : Nat)  : Option (Bool) := (impl_EncodeLength.f k 5).bind fun t146 => (some ((strOfNums t146).toList == ([5] : List UInt8)))
theorem laws_works.mono : ∀ k, LeO (laws_works.f k ) (laws_works.f (k + 1) ) := by
  intro  k
  unfold laws_works.f
  repeat' first
      | (with_reducible exact impl_EncodeLength.mono _ _)
      | (with_reducible exact LeO.refl _)
      | (with_reducible exact LeO.none _)
      | (with_reducible refine LeO.ite ?_ ?_)
      | (with_reducible refine LeO.bind ?_ (fun _ => ?_))
      | exact impl_EncodeLength.mono _ _
      | exact LeO.none _
      | refine LeO.ite ?_ ?_
      | refine LeO.bind ?_ (fun _ => ?_)
set_option maxHeartbeats 8000000 in
set_option maxRecDepth 100000 in
theorem laws_works.calls (k : Nat)  (r : Bool) (w : World) (h : laws_works.f k  = some r) :
    Calls Tryd.prog 9 #[] w fun e w' => e = .returned (.bool r) ∧ Below w.heap.size w w' := by
  have HB := Aside0.mk (Below.refl w.heap.size w)
  have H : ((impl_EncodeLength.f k 5).bind fun t146 => (some ((strOfNums t146).toList == ([5] : List UInt8)))) = some r := h
  clear h
  replace H := Option.bind_eq_some_iff.mp H
  obtain ⟨t146, A10, H⟩ := H
  replace H : (some ((strOfNums t146).toList == ([5] : List UInt8))) = some r := H
  have A1 := Aside0.mk A10
  clear A10
  obtain rfl := Option.some.inj H
  go_enter Tryd.func9, Tryd.ntmps9
  go_wp2_with (first | ((with_reducible refine gate_callee (f := 26) rfl ?_); refine goesL_ (some 1) rfl rfl Tryd.func26 (by kernel_rfl) rfl #[.int .i64 5] rfl (by (try simp only [List.map_toArray, List.map_cons, List.map_nil]); first | done | rfl | (simp only [List.length_drop, List.length_take]; rfl)) ?_; (with_reducible refine (impl_EncodeLength.calls k 5 t146 _ A1.out).mono ?_); rintro e w2 ⟨v147, rfl, ho0, hb⟩; refine ⟨_, rfl, ?_⟩; have n0_ := Aside0.mk (Kd.R_lower ho0 (below_size (by repeat (first | (with_reducible first | exact HB.out | apply below_alloc | apply pw_below_drewN | apply below_drew1) | exact HB.out)))); have n1_ := Aside0.mk (below_step (by repeat (first | (with_reducible first | exact HB.out | apply below_alloc | apply pw_below_drewN | apply below_drew1) | exact HB.out)) hb); clear HB; have HO148 := n0_; have HB := n1_; clear n0_ n1_; (try clear hb); (try clear hb2); (try clear hk); (try clear hi); (try clear ho0); have hcv3 := own_string (P := Tryd.prog) Tryd.underlying22 Tryd.underlying5 Tryd.underlying9 (Kd.own_of_R HO148.out)))
  go_ret
  exact ⟨by first | rfl | (simp [errW_none, errW_some] <;> rfl) | (simp [*, errW_none, errW_some] <;> rfl), by repeat (first | (with_reducible first | exact HB.out | apply below_alloc | apply pw_below_drewN | apply below_drew1) | exact HB.out)⟩

-- NOT PRINTED: function 53 (bytes_Buffer_tryGrowByReslice)

/-- A state of type 81 at block g of W; what its slices lead to came in by w0. -/
def IsS81 (w0 W : World) (g : Nat) (f0 : List Int) (f1 : Int) (f2 : Int) : Prop := ∃ A0 c0, W.heap[g]? = some (.cells #[.slice A0 f0.length c0, .int .i64 f1, .int .i8 f2] 81 (0, 0)) ∧ w0.heap.size ≤ g ∧ Kd.C (Kd.int .u8) w0 A0 f0.length f0
theorem IsS81.grown {w0 W : World} {g : Nat} {f0 : List Int} {f1 : Int} {f2 : Int} {W1 : World} {row : Option Nat} (h : IsS81 w0 W g f0 f1 f2) (hw : W.grownBy W1 row) (hne : some g ≠ row) : IsS81 w0 W1 g f0 f1 f2 := by
  obtain ⟨A0, c0, hb, hg, hr0⟩ := h
  exact ⟨A0, c0, blk_grown hb hw hne, hg, hr0⟩
theorem IsS81.own_neN {w0 W : World} {g : Nat} {f0 : List Int} {f1 : Int} {f2 : Int} {α : Type} {d : Kd α} {e : Nat} {base : Nat} {ok : Nat → Prop} {v : Value} {xs : List α} (h : IsS81 w0 W g f0 f1 f2) (ho : Kd.N d e W base ok v xs) (ht : e ≠ 81) : some g ≠ v.ownBlock := by
  obtain ⟨A0, c0, hb, hg, hr0⟩ := h
  exact Kd.N_ne ho hb ht
theorem IsS81.fresh {w0 W : World} {g : Nat} {f0 : List Int} {f1 : Int} {f2 : Int} (h : IsS81 w0 W g f0 f1 f2) : ∀ k, W.heap.size ≤ k → k ≠ g := by
  obtain ⟨A0, c0, hb, hg, hr0⟩ := h
  exact Kd.freshB hb
theorem IsS81.kept {w0 W : World} {g : Nat} {f0 : List Int} {f1 : Int} {f2 : Int} {W1 : World} {S : Nat → Prop} (h : IsS81 w0 W g f0 f1 f2) (hk : Kept W W1 S) (hne : ¬ S g) : IsS81 w0 W1 g f0 f1 f2 := by
  obtain ⟨A0, c0, hb, hg, hr0⟩ := h
  exact ⟨A0, c0, blk_kept hb hk hne, hg, hr0⟩
theorem IsS81.below {w0 W : World} {g : Nat} {f0 : List Int} {f1 : Int} {f2 : Int} {W1 : World} (h : IsS81 w0 W g f0 f1 f2) (hw : Below W.heap.size W W1) : IsS81 w0 W1 g f0 f1 f2 := h.grown (grown_of_below hw none) (by simp)
theorem IsS81.alloc {w0 W : World} {g : Nat} {f0 : List Int} {f1 : Int} {f2 : Int} (h : IsS81 w0 W g f0 f1 f2) (o : Obj) : IsS81 w0 (W.alloc o) g f0 f1 f2 := h.below (below_alloc (Below.refl _ _) o)
theorem IsS81.drewN {w0 W : World} {g : Nat} {f0 : List Int} {f1 : Int} {f2 : Int} (h : IsS81 w0 W g f0 f1 f2) (m : Nat) : IsS81 w0 (W.drewN m) g f0 f1 f2 := h
theorem IsS81.drew {w0 W : World} {g : Nat} {f0 : List Int} {f1 : Int} {f2 : Int} (h : IsS81 w0 W g f0 f1 f2) : IsS81 w0 W.drew g f0 f1 f2 := h
theorem IsS81.at_ {w0 W : World} {g : Nat} {f0 : List Int} {f1 : Int} {f2 : Int} {w' : World} {m : Nat} (hq : W.drewN m = w') (h : IsS81 w0 W g f0 f1 f2) : IsS81 w0 w' g f0 f1 f2 := by subst hq; exact IsS81.drewN h m
theorem IsS81.apart {w0 W : World} {g : Nat} {f0 : List Int} {f1 : Int} {f2 : Int} {α : Type} {d : Kd α} {e : Nat} {base : Nat} {ok : Nat → Prop} {v : Value} {xs : List α} (h : IsS81 w0 W g f0 f1 f2) (ho : d.R e W base ok v xs) (ht : ∀ q, q ∈ e :: d.E → q ≠ 81) : d.R e W base (fun k => ok k ∧ k ≠ g) v xs := by
  obtain ⟨A0, c0, hb, hg, hr0⟩ := h
  exact Kd.R_types ho hb ht
theorem IsS81.own_ne {w0 W : World} {g : Nat} {f0 : List Int} {f1 : Int} {f2 : Int} {α : Type} {d : Kd α} {e : Nat} {base : Nat} {ok : Nat → Prop} {v : Value} {xs : List α} (h : IsS81 w0 W g f0 f1 f2) (ho : d.R e W base ok v xs) (ht : e ≠ 81) : some g ≠ v.ownBlock := by
  obtain ⟨A0, c0, hb, hg, hr0⟩ := h
  exact Kd.R_ne ho hb ht
theorem IsS81.apartQ {w0 W : World} {g : Nat} {f0 : List Int} {f1 : Int} {f2 : Int} {α : Type} {d : Kd α} {e : Nat} {base : Nat} {ok : Nat → Prop} {v : Value} {xs : List α} (h : IsS81 w0 W g f0 f1 f2) (ho : d.Q e W base ok v xs) (ht : ∀ q, q ∈ e :: d.E → q ≠ 81) : d.Q e W base (fun k => ok k ∧ k ≠ g) v xs := by
  obtain ⟨A0, c0, hb, hg, hr0⟩ := h
  exact Kd.Q_types ho hb ht
theorem IsS81.own_neQ {w0 W : World} {g : Nat} {f0 : List Int} {f1 : Int} {f2 : Int} {α : Type} {d : Kd α} {e : Nat} {base : Nat} {ok : Nat → Prop} {v : Value} {xs : List α} (h : IsS81 w0 W g f0 f1 f2) (ho : d.Q e W base ok v xs) (ht : e ≠ 81) : some g ≠ v.ownBlock := by
  obtain ⟨A0, c0, hb, hg, hr0⟩ := h
  exact Kd.Q_ne ho hb ht
theorem IsS81.apartS {w0 W : World} {g : Nat} {f0 : List Int} {f1 : Int} {f2 : Int} {α : Type} {d : Kd α} {e : Nat} {base : Nat} {ok : Nat → Prop} {v : Value} {xs : List α} (h : IsS81 w0 W g f0 f1 f2) (ho : d.S e W base ok v xs) (ht : ∀ q, q ∈ e :: d.E → q ≠ 81) : d.S e W base (fun k => ok k ∧ k ≠ g) v xs := by
  obtain ⟨A0, c0, hb, hg, hr0⟩ := h
  exact Kd.S_types ho hb ht
theorem IsS81.own_neS {w0 W : World} {g : Nat} {f0 : List Int} {f1 : Int} {f2 : Int} {α : Type} {d : Kd α} {e : Nat} {base : Nat} {ok : Nat → Prop} {v : Value} {xs : List α} (h : IsS81 w0 W g f0 f1 f2) (ho : d.S e W base ok v xs) (ht : e ≠ 81) : some g ≠ v.ownBlock := by
  obtain ⟨A0, c0, hb, hg, hr0⟩ := h
  exact Kd.S_ne ho hb ht
theorem IsS81.lt {w0 W : World} {g : Nat} {f0 : List Int} {f1 : Int} {f2 : Int} (h : IsS81 w0 W g f0 f1 f2) : g < W.heap.size := by
  obtain ⟨A0, c0, hb, hg, hr0⟩ := h
  exact blk_lt hb
theorem IsS81.ge {w0 W : World} {g : Nat} {f0 : List Int} {f1 : Int} {f2 : Int} (h : IsS81 w0 W g f0 f1 f2) : w0.heap.size ≤ g := by
  obtain ⟨A0, c0, hb, hg, hr0⟩ := h
  exact hg
theorem IsS81.ne_blk {w0 W : World} {g : Nat} {f0 : List Int} {f1 : Int} {f2 : Int} {a : Nat} {cs : Array Value} {t : TypeId} {fr : Nat × Nat} (h : IsS81 w0 W g f0 f1 f2) (hb2 : W.heap[a]? = some (.cells cs t fr)) (ht : t ≠ 81) : g ≠ a := by
  obtain ⟨A0, c0, hb, hg, hr0⟩ := h
  rintro rfl
  rw [hb] at hb2
  injection hb2 with hb2
  injection hb2 with _ ht2
  exact ht ht2.symm
theorem IsS81.far {w0 W : World} {g : Nat} {f0 : List Int} {f1 : Int} {f2 : Int} {p : Addr} (h : IsS81 w0 W g f0 f1 f2) (hne : g ≠ p.block) (u : Value) : IsS81 w0 (W.setCell p u) g f0 f1 f2 := by
  obtain ⟨A0, c0, hb, hg, hr0⟩ := h
  exact ⟨A0, c0, blk_far hb hne u, hg, hr0⟩
theorem cellS81_0 {W : World} {g : Nat} {A0 : Option Addr} {c0 : Nat} {f0 : List Int} {f1 : Int} {f2 : Int} (h : W.heap[g]? = some (.cells #[.slice A0 f0.length c0, .int .i64 f1, .int .i8 f2] 81 (0, 0))) : W.cell? ⟨g, 0, none⟩ = some (.slice A0 f0.length c0) := (blk_cell h 0).trans rfl
theorem cellS81_1 {W : World} {g : Nat} {A0 : Option Addr} {c0 : Nat} {f0 : List Int} {f1 : Int} {f2 : Int} (h : W.heap[g]? = some (.cells #[.slice A0 f0.length c0, .int .i64 f1, .int .i8 f2] 81 (0, 0))) : W.cell? ⟨g, 1, none⟩ = some (.int .i64 f1) := (blk_cell h 1).trans rfl
theorem IsS81.set_1 {w0 W : World} {g : Nat} {f0 : List Int} {f1 : Int} {f2 : Int} (h : IsS81 w0 W g f0 f1 f2) (x : Int) : IsS81 w0 (W.setCell ⟨g, 1, none⟩ (.int .i64 x)) g f0 x f2 := by
  obtain ⟨A0, c0, hb, hg, hr0⟩ := h
  exact ⟨A0, c0, by simpa using blk_set hb 1 (.int .i64 x), hg, hr0⟩
theorem cellS81_2 {W : World} {g : Nat} {A0 : Option Addr} {c0 : Nat} {f0 : List Int} {f1 : Int} {f2 : Int} (h : W.heap[g]? = some (.cells #[.slice A0 f0.length c0, .int .i64 f1, .int .i8 f2] 81 (0, 0))) : W.cell? ⟨g, 2, none⟩ = some (.int .i8 f2) := (blk_cell h 2).trans rfl
theorem IsS81.set_2 {w0 W : World} {g : Nat} {f0 : List Int} {f1 : Int} {f2 : Int} (h : IsS81 w0 W g f0 f1 f2) (x : Int) : IsS81 w0 (W.setCell ⟨g, 2, none⟩ (.int .i8 x)) g f0 f1 x := by
  obtain ⟨A0, c0, hb, hg, hr0⟩ := h
  exact ⟨A0, c0, by simpa using blk_set hb 2 (.int .i8 x), hg, hr0⟩
theorem IsS81.new (w0 W : World) (A0 : Option Addr) (c0 : Nat) (f0 : List Int) (f1 : Int) (f2 : Int) (hB : Below w0.heap.size w0 W) (hr0 : Kd.C (Kd.int .u8) w0 A0 f0.length f0) : IsS81 w0 (W.alloc (.cells #[.slice A0 f0.length c0, .int .i64 f1, .int .i8 f2] 81)) W.heap.size f0 f1 f2 := ⟨A0, c0, by simpa using heap_alloc_new W _, hB.size, hr0⟩

/-! ### bytes_Buffer_Len: function 46 -/
def bytes_Buffer_Len.f (s0_0 : List Int) (s0_1 : Int) (s0_2 : Int) : Option (Int × Int × Int) := some (wrap64 ((s0_0.length : Int) - s0_1), s0_1, s0_2)
set_option maxHeartbeats 8000000 in
set_option maxRecDepth 100000 in
theorem bytes_Buffer_Len.calls (g : Nat) (s0_0 : List Int) (s0_1 : Int) (s0_2 : Int) (r1 : Int) (r2 : Int) (r3 : Int) (w0 w : World) (hI : IsS81 w0 w g s0_0 s0_1 s0_2) (hB : Below w0.heap.size w0 w) (h : bytes_Buffer_Len.f s0_0 s0_1 s0_2 = some (r1, r2, r3)) :
    Calls Tryd.prog 46 #[.pointer (some ⟨g, 0, none⟩)] w fun e w' => e = .returned (.int .i64 r1) ∧ IsS81 w0 w' g s0_0 r2 r3 ∧ Below w0.heap.size w0 w' ∧ KeepBut w w' g none := by
  have HI0 := Aside0.mk hI
  have HK := Aside0.mk (KeepBut.refl w g none)
  have HL := Aside0.mk hB.size
  clear hI
  have HW0 := Aside0.mk hB.size
  have HB := Aside0.mk hB
  clear hB
  have H : (some (wrap64 ((s0_0.length : Int) - s0_1), s0_1, s0_2)) = some (r1, r2, r3) := h
  clear h
  simp only [Option.some.injEq, Prod.mk.injEq] at H
  obtain ⟨rfl, rfl, rfl⟩ := H
  obtain ⟨ASz2_0, cSz2_0, HGz2, hgz2, HSz2_0⟩ := HI0.out
  have hcz2_0 := cellS81_0 HGz2
  have hcz2_1 := cellS81_1 HGz2
  have hcz2_2 := cellS81_2 HGz2
  have hfz2_1 := blk_frozen HGz2 1
  have hfz2_2 := blk_frozen HGz2 2
  clear HGz2 hgz2
  go_enter Tryd.func46, Tryd.ntmps46
  go_wp2
  repeat (go_quiet (fail); try go_wp2)
  go_ret
  exact ⟨by first | rfl | (simp [errW_none, errW_some] <;> rfl) | (simp [*, errW_none, errW_some] <;> rfl), by repeat (first | (with_reducible first | exact HI0.out | apply IsS81.alloc | apply IsS81.drewN | apply IsS81.drew | apply IsS81.set_1 | apply IsS81.set_2) | exact HI0.out), by repeat (first | (with_reducible first | exact HB.out | apply below_alloc | apply pw_below_drewN | apply below_drew1 | refine below_set ?_ (IsS81.ge HI0.out)) | exact HB.out), by repeat (first | (with_reducible first | exact HK.out | apply KeepBut.set_ | apply keep_drewN | apply keep_drew | apply keep_alloc) | exact HK.out)⟩

-- NOT PRINTED: function 59 (bytes_Buffer_Reset)

-- NOT PRINTED: function 60 (bytes_growSlice)

-- NOT PRINTED: function 54 (bytes_Buffer_grow)

-- NOT PRINTED: function 42 (bytes_Buffer_Write)

-- NOT PRINTED: function 41 (asn1ber_Encode)

-- NOT PRINTED: function 55 (asn1ber_encodeHighTag)

-- NOT PRINTED: function 44 (asn1ber_encodeIdentifier)

-- NOT PRINTED: function 47 (bytes_Buffer_Bytes)

-- NOT PRINTED: function 28 (asn1ber_Packet_Bytes)

-- NOT PRINTED: function 43 (asn1ber_Packet_AppendChild)

-- NOT PRINTED: function 27 (impl_built)

-- NOT PRINTED: function 10 (impl_Encode)

/-! ### spec_Identifier: function 29 -/
mutual
def spec_Identifier.j0 : Nat → Int → Int → Int → Bool → List Int → List (S29) → Option (List Int)
  | 0, _, _, _, _, _, _ => none
  | k + 1, x3, x166000, x166001, x166002, x166003, x166004 => if x166001 < 31 then (some (([Go.bits .or .u8 x3 ((x166001) % 256)] : List Int))) else (spec_Identifier.l0 k x3 (([(Go.bits .and .i64 x166001 127) % 256] : List Int)) (x166001 / 128))
def spec_Identifier.l0 : Nat → Int → List Int → Int → Option (List Int)
  | 0, _, _, _ => none
  | k + 1, x3, x4, x5 => if x5 > 0 then ((some (([Go.bits .or .u8 128 ((Go.bits .and .i64 x5 127) % 256)] : List Int) : List Int)).bind fun y172 => (if y172.length + x4.length < 140737488355328 then (spec_Identifier.l0 k x3 (y172 ++ x4) (x5 / 128)) else (none))) else ((some (([Go.bits .or .u8 x3 31] : List Int) : List Int)).bind fun y178 => (if y178.length + x4.length < 140737488355328 then (some (y178 ++ x4)) else (none)))
end
def spec_Identifier.f (k : Nat) (a0_0 : Int) (a0_1 : Int) (a0_2 : Bool) (l0_3 : List Int) (l0_4 : List (S29)) : Option (List Int) := if a0_2 = true then (spec_Identifier.j0 k (Go.bits .or .u8 ((wrap64 (a0_0 * 64)) % 256) 32) a0_0 a0_1 a0_2 l0_3 l0_4) else (spec_Identifier.j0 k ((wrap64 (a0_0 * 64)) % 256) a0_0 a0_1 a0_2 l0_3 l0_4)
theorem spec_Identifier.mono_l : ∀ k, (∀ y0 y1 y2 y3 y4 y5, LeO (spec_Identifier.j0 k y0 y1 y2 y3 y4 y5) (spec_Identifier.j0 (k + 1) y0 y1 y2 y3 y4 y5)) ∧ (∀ y0 y1 y2, LeO (spec_Identifier.l0 k y0 y1 y2) (spec_Identifier.l0 (k + 1) y0 y1 y2))
  | 0 => ⟨fun _ _ _ _ _ _ r h => by simp [spec_Identifier.j0] at h, fun _ _ _ r h => by simp [spec_Identifier.l0] at h⟩
  | k + 1 => by
    obtain ⟨ih0, ih1⟩ := spec_Identifier.mono_l k
    refine ⟨?_, ?_⟩
    · intro y0 y1 y2 y3 y4 y5
      unfold spec_Identifier.j0
      repeat' first
      | (with_reducible exact ih0 _ _ _ _ _ _)
      | (with_reducible exact ih1 _ _ _)
      | (with_reducible exact LeO.refl _)
      | (with_reducible exact LeO.none _)
      | (with_reducible refine LeO.ite ?_ ?_)
      | (with_reducible refine LeO.bind ?_ (fun _ => ?_))
      | exact ih0 _ _ _ _ _ _
      | exact ih1 _ _ _
      | exact LeO.none _
      | refine LeO.ite ?_ ?_
      | refine LeO.bind ?_ (fun _ => ?_)
    · intro y0 y1 y2
      unfold spec_Identifier.l0
      repeat' first
      | (with_reducible exact ih0 _ _ _ _ _ _)
      | (with_reducible exact ih1 _ _ _)
      | (with_reducible exact LeO.refl _)
      | (with_reducible exact LeO.none _)
      | (with_reducible refine LeO.ite ?_ ?_)
      | (with_reducible refine LeO.bind ?_ (fun _ => ?_))
      | exact ih0 _ _ _ _ _ _
      | exact ih1 _ _ _
      | exact LeO.none _
      | refine LeO.ite ?_ ?_
      | refine LeO.bind ?_ (fun _ => ?_)
theorem spec_Identifier.mono : ∀ a0 a1 a2 a3 a4 k, LeO (spec_Identifier.f k a0 a1 a2 a3 a4) (spec_Identifier.f (k + 1) a0 a1 a2 a3 a4) := by
  intro a0 a1 a2 a3 a4 k
  obtain ⟨ih0, ih1⟩ := spec_Identifier.mono_l k
  unfold spec_Identifier.f
  repeat' first
      | (with_reducible exact ih0 _ _ _ _ _ _)
      | (with_reducible exact ih1 _ _ _)
      | (with_reducible exact LeO.refl _)
      | (with_reducible exact LeO.none _)
      | (with_reducible refine LeO.ite ?_ ?_)
      | (with_reducible refine LeO.bind ?_ (fun _ => ?_))
      | exact ih0 _ _ _ _ _ _
      | exact ih1 _ _ _
      | exact LeO.none _
      | refine LeO.ite ?_ ?_
      | refine LeO.bind ?_ (fun _ => ?_)
set_option maxHeartbeats 8000000 in
set_option maxRecDepth 100000 in
theorem spec_Identifier.calls (k : Nat) (a0_0 : Int) (a0_1 : Int) (a0_2 : Bool) (A0_3 : Option Addr) (c0_3 : Nat) (l0_3 : List Int) (A0_4 : Option Addr) (c0_4 : Nat) (l0_4 : List (S29)) (r : List Int) (w : World) (hr0_3 : Kd.C (Kd.int .u8) w A0_3 l0_3.length l0_3) (hc0_3 : l0_3.length ≤ c0_3) (hr0_4 : Kd.C k29 w A0_4 l0_4.length l0_4) (hc0_4 : l0_4.length ≤ c0_4) (h : spec_Identifier.f k a0_0 a0_1 a0_2 l0_3 l0_4 = some r) :
    Calls Tryd.prog 29 #[.agg #[.int .i64 a0_0, .int .i64 a0_1, .bool a0_2, .slice A0_3 l0_3.length c0_3, .slice A0_4 l0_4.length c0_4]] w fun e w' => ∃ v0_ : Value, e = .returned (v0_) ∧ Kd.R (Kd.int .u8) 5 w' w.heap.size (fun _ => True) v0_ r ∧ Below w.heap.size w w' := by
  have hu29 := Tryd.underlying29
  have HR0_3 := Aside0.mk hr0_3
  have HC0_3 := Aside0.mk hc0_3
  clear hr0_3 hc0_3
  have HR0_4 := Aside0.mk hr0_4
  have HC0_4 := Aside0.mk hc0_4
  clear hr0_4 hc0_4
  have HB := Aside0.mk (Below.refl w.heap.size w)
  have H : (if a0_2 = true then (spec_Identifier.j0 k (Go.bits .or .u8 ((wrap64 (a0_0 * 64)) % 256) 32) a0_0 a0_1 a0_2 l0_3 l0_4) else (spec_Identifier.j0 k ((wrap64 (a0_0 * 64)) % 256) a0_0 a0_1 a0_2 l0_3 l0_4)) = some r := h
  clear h
  have HC2 := Aside0.mk H
  clear H
  go_enter Tryd.func29, Tryd.ntmps29
  go_upto_if 11 with (first | ((with_reducible refine gate_dst (N := 1) rfl ?_); refine box_event ?hg (N := 1) ?hd (cs := #[.int .i64 a0_0, .int .i64 a0_1, .bool a0_2, .slice A0_3 l0_3.length c0_3, .slice A0_4 l0_4.length c0_4]) (t := 29) ?hr ?_; (case hd => rfl); (case hg => rfl); (case hr => first | (go_simp; done) | (go_simp; rfl)); intro gb165 hg w3 hbox hb; have n0_ := Aside0.mk (below_step (by repeat (first | (with_reducible first | exact HB.out | apply below_alloc | apply pw_below_drewN | apply below_drew1) | exact HB.out)) hb); have n1_ := Aside0.mk (hbox); have n2_ := Aside0.mk ((by rw [hg]; exact (below_size (by repeat (first | (with_reducible first | exact HB.out | apply below_alloc | apply pw_below_drewN | apply below_drew1) | exact HB.out))) : w.heap.size ≤ gb165)); have n3_ := Aside0.mk ((by rw [hg]; exact (below_size (by repeat (first | (with_reducible first | exact HB.out | apply below_alloc | apply pw_below_drewN | apply below_drew1) | exact HB.out))) : w.heap.size ≤ gb165)); clear HB; have HB := n0_; have BK165 := n1_; have GW165 := n2_; have GE165 := n3_; clear n0_ n1_ n2_ n3_; clear hb hbox hg; have hcz4_0 : w3.cell? ⟨gb165, 0, none⟩ = some (.int .i64 a0_0) := (blk_cell BK165.out 0).trans rfl; have hcz4_1 : w3.cell? ⟨gb165, 1, none⟩ = some (.int .i64 a0_1) := (blk_cell BK165.out 1).trans rfl; have hcz4_2 : w3.cell? ⟨gb165, 2, none⟩ = some (.bool a0_2) := (blk_cell BK165.out 2).trans rfl; have hcz4_3 : w3.cell? ⟨gb165, 3, none⟩ = some (.slice A0_3 l0_3.length c0_3) := (blk_cell BK165.out 3).trans rfl; have hcz4_4 : w3.cell? ⟨gb165, 4, none⟩ = some (.slice A0_4 l0_4.length c0_4) := (blk_cell BK165.out 4).trans rfl; have hfz4_0 := blk_frozen BK165.out 0; have hfz4_1 := blk_frozen BK165.out 1; have hfz4_2 := blk_frozen BK165.out 2; have hfz4_3 := blk_frozen BK165.out 3; have hfz4_4 := blk_frozen BK165.out 4))
  (try simp only [Act.put, List.setIfInBounds_toArray, List.set_cons_zero, List.set_cons_succ])
  go_cut [3] (fun v3 wc => ∃ (kq : Nat) (x3_1 : Int), v3 = .int .u8 x3_1 ∧ Aside0 (spec_Identifier.j0 kq x3_1 a0_0 a0_1 a0_2 l0_3 l0_4 = some r) ∧ Aside0 (kq ≤ k) ∧ Aside0 (wc.heap[gb165]? = some (.cells #[.int .i64 a0_0, .int .i64 a0_1, .bool a0_2, (.slice A0_3 l0_3.length c0_3), (.slice A0_4 l0_4.length c0_4)] 29 (0, 0))) ∧ Aside0 (Below w.heap.size w wc))
  case first =>
    have H := HC2.out
    clear HC2
    by_cases c5 : a0_2 = true
    · subst c5
      have H1 : (spec_Identifier.j0 k (Go.bits .or .u8 ((wrap64 (a0_0 * 64)) % 256) 32) a0_0 a0_1 true l0_3 l0_4) = some r := by rw [if_pos rfl] at H; exact H
      clear H
      have H := H1
      clear H1
      have H' := Aside0.mk H
      clear H
      go_wp2
      go_meet
      case rel => exact ⟨_, (Go.bits .or .u8 ((wrap64 (a0_0 * 64)) % 256) 32), (by first | rfl | (simp; done) | (simp [*]; done)), H', ⟨by first | omega | exact Nat.le_refl _⟩, ⟨by (with_reducible repeat (first | refine blk_drewN ?_ _ | refine blk_drew ?_ | refine blk_alloc ?_ _)); exact BK165.out⟩, ⟨by repeat (first | (with_reducible first | exact HB.out | apply below_alloc | apply pw_below_drewN | apply below_drew1 | refine below_set ?_ GE165.out) | exact HB.out)⟩⟩
    · replace c5 := Bool.eq_false_iff.mpr c5
      subst c5
      have H1 : (spec_Identifier.j0 k ((wrap64 (a0_0 * 64)) % 256) a0_0 a0_1 false l0_3 l0_4) = some r := by rw [if_neg (show ¬ (false = true) by decide)] at H; exact H
      clear H
      have H := H1
      clear H1
      have H' := Aside0.mk H
      clear H
      go_wp2
      go_meet
      case rel => exact ⟨_, ((wrap64 (a0_0 * 64)) % 256), (by first | rfl | (simp; done) | (simp [*]; done)), H', ⟨by first | omega | exact Nat.le_refl _⟩, ⟨by (with_reducible repeat (first | refine blk_drewN ?_ _ | refine blk_drew ?_ | refine blk_alloc ?_ _)); exact BK165.out⟩, ⟨by repeat (first | (with_reducible first | exact HB.out | apply below_alloc | apply pw_below_drewN | apply below_drew1 | refine below_set ?_ GE165.out) | exact HB.out)⟩⟩
  case rest =>
    clear HC2
    try clear c2
    try clear p2
    try clear c5
    try clear hcz4_0
    try clear hcz4_1
    try clear hcz4_2
    try clear hcz4_3
    try clear hcz4_4
    try clear hfz4_0
    try clear hfz4_1
    try clear hfz4_2
    try clear hfz4_3
    try clear hfz4_4
    obtain ⟨kq, x3_1, rfl, HA, HJ1, BK165, HB⟩ := hcut
    cases kq with
    | zero => exact absurd HA.out (by simp [spec_Identifier.j0])
    | succ kj1 =>
      have H := HA.out
      clear HA
      simp only [spec_Identifier.j0] at H
      by_cases c6 : a0_1 < 31
      · rw [if_pos c6] at H
        have c6b0 : decide (a0_1 < 31) = true := decide_eq_true c6
        clear c6
        obtain ⟨y166, hy166⟩ : ∃ y_ : List Int, y_ = (([Go.bits .or .u8 x3_1 ((a0_1) % 256)] : List Int)) := ⟨_, rfl⟩
        replace H : (some y166) = some r := by first | (rw [hy166]; with_reducible exact H) | (have H2_ := (Option.bind_some _ _).symm.trans H; rw [hy166]; with_reducible exact H2_) | (have H2_ := (Option.bind_some _ _).symm.trans H; with_reducible exact H2_) | with_reducible exact H | (rw [hy166]; exact H) | exact H
        have Ny166 := Aside0.mk hy166
        clear hy166
        obtain rfl := Option.some.inj H
        have hcz7_0 : wc.cell? ⟨gb165, 0, none⟩ = some (.int .i64 a0_0) := (blk_cell BK165.out 0).trans rfl
        have hcz7_1 : wc.cell? ⟨gb165, 1, none⟩ = some (.int .i64 a0_1) := (blk_cell BK165.out 1).trans rfl
        have hcz7_2 : wc.cell? ⟨gb165, 2, none⟩ = some (.bool a0_2) := (blk_cell BK165.out 2).trans rfl
        have hcz7_3 : wc.cell? ⟨gb165, 3, none⟩ = some (.slice A0_3 l0_3.length c0_3) := (blk_cell BK165.out 3).trans rfl
        have hcz7_4 : wc.cell? ⟨gb165, 4, none⟩ = some (.slice A0_4 l0_4.length c0_4) := (blk_cell BK165.out 4).trans rfl
        have hfz7_0 := blk_frozen BK165.out 0
        have hfz7_1 := blk_frozen BK165.out 1
        have hfz7_2 := blk_frozen BK165.out 2
        have hfz7_3 := blk_frozen BK165.out 3
        have hfz7_4 := blk_frozen BK165.out 4
        go_wp2_with (first | ((with_reducible refine gate_dst (N := 22) rfl ?_); refine Kd.R_lit (Kd.int .u8) _ 5 ?hg (N := 22) ?hd (xs := ([Go.bits .or .u8 x3_1 ((a0_1) % 256)] : List Int)) (inner := [.int .u8 (Go.bits .or .u8 x3_1 ((a0_1) % 256))]) (ok := fun _ => True) (okp := fun _ => True) ?hr ?hp (fun _ hk => hk) trivial (Below.refl _ _) (Nat.le_refl _) (by simp) ?_; (case hd => rfl); (case hg => rfl); (case hr => first | (go_simp; done) | (go_simp; rfl)); (case hp => exact (Reps.one (show Kd.M (Kd.int .u8) _ _ _ (Go.bits .or .u8 x3_1 ((a0_1) % 256)) [.int .u8 (Go.bits .or .u8 x3_1 ((a0_1) % 256))] from rfl) (Reps.none _ _))); intro v167 w8 ho9 hb hg_ hnew_; clear hg_ hnew_; (first | rw [← Ny166.out] at ho9 | (simp only [Int.reduceToNat] at ho9; rw [← Ny166.out] at ho9)); have n0_ := Aside0.mk (Kd.R_lower ho9 (below_size (by repeat (first | (with_reducible first | exact HB.out | apply below_alloc | apply pw_below_drewN | apply below_drew1 | refine below_set ?_ GE165.out) | exact HB.out)))); have n1_ := Aside0.mk (blk_below (g := gb165) (o := .cells #[.int .i64 a0_0, .int .i64 a0_1, .bool a0_2, .slice A0_3 l0_3.length c0_3, .slice A0_4 l0_4.length c0_4] 29 (0, 0)) (by (with_reducible repeat (first | refine blk_drewN ?_ _ | refine blk_drew ?_ | refine blk_alloc ?_ _)); exact BK165.out) hb); have n2_ := Aside0.mk (below_step (by repeat (first | (with_reducible first | exact HB.out | apply below_alloc | apply pw_below_drewN | apply below_drew1 | refine below_set ?_ GE165.out) | exact HB.out)) hb); clear BK165; clear HB; have HO168 := n0_; have BK165 := n1_; have HB := n2_; clear n0_ n1_ n2_; clear hb ho9))
        go_ret
        exact ⟨_, by first | rfl | (simp [errW_none, errW_some] <;> rfl) | (simp [*, errW_none, errW_some] <;> rfl), by (with_reducible repeat (first | apply Kd.R_alloc | apply Kd.R_drewN | apply Kd.R_drew)); exact HO168.out, by repeat (first | (with_reducible first | exact HB.out | apply below_alloc | apply pw_below_drewN | apply below_drew1 | refine below_set ?_ GE165.out) | exact HB.out)⟩
      · rw [if_neg c6] at H
        have c6b0 : decide (a0_1 < 31) = false := decide_eq_false c6
        clear c6
        obtain ⟨y169, hy169⟩ : ∃ y_ : List Int, y_ = (([(Go.bits .and .i64 a0_1 127) % 256] : List Int)) := ⟨_, rfl⟩
        replace H : (spec_Identifier.l0 kj1 x3_1 y169 (a0_1 / 128)) = some r := by first | (rw [hy169]; with_reducible exact H) | (have H2_ := (Option.bind_some _ _).symm.trans H; rw [hy169]; with_reducible exact H2_) | (have H2_ := (Option.bind_some _ _).symm.trans H; with_reducible exact H2_) | with_reducible exact H | (rw [hy169]; exact H) | exact H
        have Ny169 := Aside0.mk hy169
        clear hy169
        have H' := Aside0.mk H
        clear H
        have hcz10_0 : wc.cell? ⟨gb165, 0, none⟩ = some (.int .i64 a0_0) := (blk_cell BK165.out 0).trans rfl
        have hcz10_1 : wc.cell? ⟨gb165, 1, none⟩ = some (.int .i64 a0_1) := (blk_cell BK165.out 1).trans rfl
        have hcz10_2 : wc.cell? ⟨gb165, 2, none⟩ = some (.bool a0_2) := (blk_cell BK165.out 2).trans rfl
        have hcz10_3 : wc.cell? ⟨gb165, 3, none⟩ = some (.slice A0_3 l0_3.length c0_3) := (blk_cell BK165.out 3).trans rfl
        have hcz10_4 : wc.cell? ⟨gb165, 4, none⟩ = some (.slice A0_4 l0_4.length c0_4) := (blk_cell BK165.out 4).trans rfl
        have hfz10_0 := blk_frozen BK165.out 0
        have hfz10_1 := blk_frozen BK165.out 1
        have hfz10_2 := blk_frozen BK165.out 2
        have hfz10_3 := blk_frozen BK165.out 3
        have hfz10_4 := blk_frozen BK165.out 4
        go_wp2_with (first | ((with_reducible refine gate_dst (N := 27) rfl ?_); refine Kd.R_lit (Kd.int .u8) _ 5 ?hg (N := 27) ?hd (xs := ([(Go.bits .and .i64 a0_1 127) % 256] : List Int)) (inner := [.int .u8 ((Go.bits .and .i64 a0_1 127) % 256)]) (ok := fun _ => True) (okp := fun _ => True) ?hr ?hp (fun _ hk => hk) trivial (Below.refl _ _) (Nat.le_refl _) (by simp) ?_; (case hd => rfl); (case hg => rfl); (case hr => first | (go_simp; done) | (go_simp; rfl)); (case hp => exact (Reps.one (show Kd.M (Kd.int .u8) _ _ _ ((Go.bits .and .i64 a0_1 127) % 256) [.int .u8 ((Go.bits .and .i64 a0_1 127) % 256)] from rfl) (Reps.none _ _))); intro v170 w11 ho12 hb hg_ hnew_; clear hg_ hnew_; (first | rw [← Ny169.out] at ho12 | (simp only [Int.reduceToNat] at ho12; rw [← Ny169.out] at ho12)); have n0_ := Aside0.mk (Kd.R_lower ho12 (below_size (by repeat (first | (with_reducible first | exact HB.out | apply below_alloc | apply pw_below_drewN | apply below_drew1 | refine below_set ?_ GE165.out) | exact HB.out)))); have n1_ := Aside0.mk (blk_below (g := gb165) (o := .cells #[.int .i64 a0_0, .int .i64 a0_1, .bool a0_2, .slice A0_3 l0_3.length c0_3, .slice A0_4 l0_4.length c0_4] 29 (0, 0)) (by (with_reducible repeat (first | refine blk_drewN ?_ _ | refine blk_drew ?_ | refine blk_alloc ?_ _)); exact BK165.out) hb); have n2_ := Aside0.mk (below_step (by repeat (first | (with_reducible first | exact HB.out | apply below_alloc | apply pw_below_drewN | apply below_drew1 | refine below_set ?_ GE165.out) | exact HB.out)) hb); clear BK165; clear HB; have HO171 := n0_; have BK165 := n1_; have HB := n2_; clear n0_ n1_ n2_; clear hb ho12; have hcz13_0 : w11.cell? ⟨gb165, 0, none⟩ = some (.int .i64 a0_0) := (blk_cell BK165.out 0).trans rfl; have hcz13_1 : w11.cell? ⟨gb165, 1, none⟩ = some (.int .i64 a0_1) := (blk_cell BK165.out 1).trans rfl; have hcz13_2 : w11.cell? ⟨gb165, 2, none⟩ = some (.bool a0_2) := (blk_cell BK165.out 2).trans rfl; have hcz13_3 : w11.cell? ⟨gb165, 3, none⟩ = some (.slice A0_3 l0_3.length c0_3) := (blk_cell BK165.out 3).trans rfl; have hcz13_4 : w11.cell? ⟨gb165, 4, none⟩ = some (.slice A0_4 l0_4.length c0_4) := (blk_cell BK165.out 4).trans rfl; have hfz13_0 := blk_frozen BK165.out 0; have hfz13_1 := blk_frozen BK165.out 1; have hfz13_2 := blk_frozen BK165.out 2; have hfz13_3 := blk_frozen BK165.out 3; have hfz13_4 := blk_frozen BK165.out 4))
        go_loopg [4, 5] kj1 (fun kq v4 v5 w' => ∃ (x4_2 : List Int) (x5_2 : Int), v5 = .int .i64 x5_2 ∧ Aside0 (spec_Identifier.l0 kq x3_1 x4_2 x5_2 = some r) ∧ Aside0 (kq ≤ kj1) ∧ Aside0 (Kd.R (Kd.int .u8) 5 w' w.heap.size (fun _ => True) v4 x4_2) ∧ Aside0 (w'.heap[gb165]? = some (.cells #[.int .i64 a0_0, .int .i64 a0_1, .bool a0_2, (.slice A0_3 l0_3.length c0_3), (.slice A0_4 l0_4.length c0_4)] 29 (0, 0))) ∧ Aside0 (Below w.heap.size w w'))
        case atStart => exact ⟨(y169), (a0_1 / 128), (by first | rfl | (simp; done) | (simp [*]; done)), H', ⟨Nat.le_refl _⟩, ⟨by (with_reducible repeat (first | apply Kd.R_alloc | apply Kd.R_drewN | apply Kd.R_drew)); exact HO171.out⟩, ⟨by (with_reducible repeat (first | refine blk_drewN ?_ _ | refine blk_drew ?_ | refine blk_alloc ?_ _)); exact BK165.out⟩, ⟨by repeat (first | (with_reducible first | exact HB.out | apply below_alloc | apply pw_below_drewN | apply below_drew1 | refine below_set ?_ GE165.out) | exact HB.out)⟩⟩
        case round =>
          clear H'
          try clear c2
          try clear p2
          try clear c5
          try clear c6
          try clear c6b0
          try clear p6
          try clear hcz10_0
          try clear hcz10_1
          try clear hcz10_2
          try clear hcz10_3
          try clear hcz10_4
          try clear hcz13_0
          try clear hcz13_1
          try clear hcz13_2
          try clear hcz13_3
          try clear hcz13_4
          try clear hcz4_0
          try clear hcz4_1
          try clear hcz4_2
          try clear hcz4_3
          try clear hcz4_4
          try clear hcz7_0
          try clear hcz7_1
          try clear hcz7_2
          try clear hcz7_3
          try clear hcz7_4
          try clear hfz10_0
          try clear hfz10_1
          try clear hfz10_2
          try clear hfz10_3
          try clear hfz10_4
          try clear hfz13_0
          try clear hfz13_1
          try clear hfz13_2
          try clear hfz13_3
          try clear hfz13_4
          try clear hfz4_0
          try clear hfz4_1
          try clear hfz4_2
          try clear hfz4_3
          try clear hfz4_4
          try clear hfz7_0
          try clear hfz7_1
          try clear hfz7_2
          try clear hfz7_3
          try clear hfz7_4
          try clear p2
          obtain ⟨x4_2, x5_2, rfl, HA, HK2, HO_4, BK165, HB⟩ := hrel
          cases gk with
          | zero => exact absurd HA.out (by simp [spec_Identifier.l0])
          | succ k2 =>
            have H := HA.out
            clear HA
            simp only [spec_Identifier.l0] at H
            by_cases c14 : x5_2 > 0
            · rw [if_pos c14] at H
              have c14b0 : decide (0 < x5_2) = true := decide_eq_true c14
              clear c14
              obtain ⟨y172, hy172⟩ : ∃ y_ : List Int, y_ = (([Go.bits .or .u8 128 ((Go.bits .and .i64 x5_2 127) % 256)] : List Int)) := ⟨_, rfl⟩
              replace H : (if y172.length + x4_2.length < 140737488355328 then (spec_Identifier.l0 k2 x3_1 (y172 ++ x4_2) (x5_2 / 128)) else (none)) = some r := by first | (rw [hy172]; with_reducible exact H) | (have H2_ := (Option.bind_some _ _).symm.trans H; rw [hy172]; with_reducible exact H2_) | (have H2_ := (Option.bind_some _ _).symm.trans H; with_reducible exact H2_) | with_reducible exact H | (rw [hy172]; exact H) | exact H
              have Ny172 := Aside0.mk hy172
              clear hy172
              by_cases c15 : y172.length + x4_2.length < 140737488355328
              · rw [if_pos c15] at H
                have LMc15 := Aside0.mk c15
                clear c15
                obtain ⟨y175, hy175⟩ : ∃ y_ : List Int, y_ = (y172 ++ x4_2) := ⟨_, rfl⟩
                replace H : (spec_Identifier.l0 k2 x3_1 y175 (x5_2 / 128)) = some r := by first | (rw [hy175]; with_reducible exact H) | (have H2_ := (Option.bind_some _ _).symm.trans H; rw [hy175]; with_reducible exact H2_) | (have H2_ := (Option.bind_some _ _).symm.trans H; with_reducible exact H2_) | with_reducible exact H | (rw [hy175]; exact H) | exact H
                have Ny175 := Aside0.mk hy175
                clear hy175
                have H' := Aside0.mk H
                clear H
                go_wp2_with (first | ((with_reducible refine gate_dst (N := 39) rfl ?_); refine Kd.R_lit (Kd.int .u8) _ 5 ?hg (N := 39) ?hd (xs := ([Go.bits .or .u8 128 ((Go.bits .and .i64 x5_2 127) % 256)] : List Int)) (inner := [.int .u8 (Go.bits .or .u8 128 ((Go.bits .and .i64 x5_2 127) % 256))]) (ok := fun _ => True) (okp := fun _ => True) ?hr ?hp (fun _ hk => hk) trivial (Below.refl _ _) (Nat.le_refl _) (by simp) ?_; (case hd => rfl); (case hg => rfl); (case hr => first | (go_simp; done) | (go_simp; rfl)); (case hp => exact (Reps.one (show Kd.M (Kd.int .u8) _ _ _ (Go.bits .or .u8 128 ((Go.bits .and .i64 x5_2 127) % 256)) [.int .u8 (Go.bits .or .u8 128 ((Go.bits .and .i64 x5_2 127) % 256))] from rfl) (Reps.none _ _))); intro v173 w16 ho17 hb hg_ hnew_; clear hg_ hnew_; (first | rw [← Ny172.out] at ho17 | (simp only [Int.reduceToNat] at ho17; rw [← Ny172.out] at ho17)); have n0_ := Aside0.mk (Kd.R_elder' (by (with_reducible repeat (first | apply Kd.R_alloc | apply Kd.R_drewN | apply Kd.R_drew)); exact HO_4.out) (Kd.R_base ho17) hb); have n1_ := Aside0.mk (Kd.R_lower (Kd.R_new' ho17 (Kd.R_lt (by (with_reducible repeat (first | apply Kd.R_alloc | apply Kd.R_drewN | apply Kd.R_drew)); exact HO_4.out))) (below_size (by repeat (first | (with_reducible first | exact HB.out | apply below_alloc | apply pw_below_drewN | apply below_drew1 | refine below_set ?_ GE165.out) | exact HB.out)))); have n2_ := Aside0.mk (blk_below (g := gb165) (o := .cells #[.int .i64 a0_0, .int .i64 a0_1, .bool a0_2, .slice A0_3 l0_3.length c0_3, .slice A0_4 l0_4.length c0_4] 29 (0, 0)) (by (with_reducible repeat (first | refine blk_drewN ?_ _ | refine blk_drew ?_ | refine blk_alloc ?_ _)); exact BK165.out) hb); have n3_ := Aside0.mk (below_step (by repeat (first | (with_reducible first | exact HB.out | apply below_alloc | apply pw_below_drewN | apply below_drew1 | refine below_set ?_ GE165.out) | exact HB.out)) hb); clear HO_4; clear BK165; clear HB; have HO_4 := n0_; have HO174 := n1_; have BK165 := n2_; have HB := n3_; clear n0_ n1_ n2_ n3_; clear hb ho17; obtain ⟨Ao19, co19, eo19⟩ := Kd.R_slice HO_4.out; subst eo19) | ((with_reducible refine gate_builtin (b := .append) (xs := #[.tmp 39, .tmp 40]) rfl ?_); at_builtin; refine Kd.R_append_rows (Kd.int .u8) (w0 := w) w.heap.size rfl (.tmp 39) (.tmp 40) 22 5 (.int .u8 0) 1 rfl Tryd.underlying22 info5 rfl (by decide) (by omega) v173 y172 x4_2 _ _ _ (fun k_ => some k_ ≠ (.slice Ao19 x4_2.length co19 : Value).ownBlock) (fun _ => False) rfl rfl ?aO ?aR (fun _ _ h => h) (fun _ h => h.elim) ?aF ?aB ?aS ?aL ?_; (case aR => repeat (first | exact (Kd.R_reads' HO_4.out).2.2 | (with_reducible refine Kd.C_alloc ?_ _) | (with_reducible refine Kd.C_drewN ?_ _) | (with_reducible refine Kd.C_drew ?_))); (case aB => exact (by repeat (first | (with_reducible first | exact HB.out | apply below_alloc | apply pw_below_drewN | apply below_drew1 | refine below_set ?_ GE165.out) | exact HB.out))); (case aF => exact (fun k_ hk => Kd.fresh' (Kd.R_lt (by (with_reducible repeat (first | apply Kd.R_alloc | apply Kd.R_drewN | apply Kd.R_drew)); exact HO_4.out)) k_ hk)); (case aO => exact (by (with_reducible repeat (first | apply Kd.R_alloc | apply Kd.R_drewN | apply Kd.R_drew)); exact Kd.R_mono HO174.out (fun _ hk => hk.2))); (case aS => exact (below_size (by repeat (first | (with_reducible first | exact HB.out | apply below_alloc | apply pw_below_drewN | apply below_drew1 | refine below_set ?_ GE165.out) | exact HB.out)))); (case aL => have := LMc15.out; omega); intro v176 w18 ho hb hg hat; rw [← Ny175.out] at ho; have n0_ := Aside0.mk (Kd.R_after (ok := (fun _ => True)) (by (with_reducible repeat (first | apply Kd.R_alloc | apply Kd.R_drewN | apply Kd.R_drew)); exact HO_4.out) hg hat); have n1_ := Aside0.mk (blk_grown (g := gb165) (o := .cells #[.int .i64 a0_0, .int .i64 a0_1, .bool a0_2, .slice A0_3 l0_3.length c0_3, .slice A0_4 l0_4.length c0_4] 29 (0, 0)) (by (with_reducible repeat (first | refine blk_drewN ?_ _ | refine blk_drew ?_ | refine blk_alloc ?_ _)); exact BK165.out) hg (Kd.R_ne HO174.out BK165.out (by decide))); have n2_ := Aside0.mk (hb); have n3_ := Aside0.mk (ho); clear HO_4; clear BK165; clear HB; clear HO174; have HO_4 := n0_; have BK165 := n1_; have HB := n2_; have HO177 := n3_; clear n0_ n1_ n2_ n3_; clear ho hb hg hat))
                go_roundg k2
                case measure => have := HJ1.out; have := HK2.out; omega
                case rel => exact ⟨(y175), (x5_2 / 128), (by first | rfl | (simp; done) | (simp [*]; done)), H', ⟨by have := HJ1.out; have := HK2.out; omega⟩, ⟨by (with_reducible repeat (first | apply Kd.R_alloc | apply Kd.R_drewN | apply Kd.R_drew)); exact Kd.R_mono HO177.out (fun _ hk => trivial)⟩, ⟨by (with_reducible repeat (first | refine blk_drewN ?_ _ | refine blk_drew ?_ | refine blk_alloc ?_ _)); exact BK165.out⟩, ⟨by repeat (first | (with_reducible first | exact HB.out | apply below_alloc | apply pw_below_drewN | apply below_drew1 | refine below_set ?_ GE165.out) | exact HB.out)⟩⟩
              · rw [if_neg c15] at H
                exact absurd H (by simp)
            · rw [if_neg c14] at H
              have c14b0 : decide (0 < x5_2) = false := decide_eq_false c14
              clear c14
              obtain ⟨y178, hy178⟩ : ∃ y_ : List Int, y_ = (([Go.bits .or .u8 x3_1 31] : List Int)) := ⟨_, rfl⟩
              replace H : (if y178.length + x4_2.length < 140737488355328 then (some (y178 ++ x4_2)) else (none)) = some r := by first | (rw [hy178]; with_reducible exact H) | (have H2_ := (Option.bind_some _ _).symm.trans H; rw [hy178]; with_reducible exact H2_) | (have H2_ := (Option.bind_some _ _).symm.trans H; with_reducible exact H2_) | with_reducible exact H | (rw [hy178]; exact H) | exact H
              have Ny178 := Aside0.mk hy178
              clear hy178
              by_cases c20 : y178.length + x4_2.length < 140737488355328
              · rw [if_pos c20] at H
                have LMc20 := Aside0.mk c20
                clear c20
                obtain ⟨y181, hy181⟩ : ∃ y_ : List Int, y_ = (y178 ++ x4_2) := ⟨_, rfl⟩
                replace H : (some y181) = some r := by first | (rw [hy181]; with_reducible exact H) | (have H2_ := (Option.bind_some _ _).symm.trans H; rw [hy181]; with_reducible exact H2_) | (have H2_ := (Option.bind_some _ _).symm.trans H; with_reducible exact H2_) | with_reducible exact H | (rw [hy181]; exact H) | exact H
                have Ny181 := Aside0.mk hy181
                clear hy181
                obtain rfl := Option.some.inj H
                go_wp2_with (first | ((with_reducible refine gate_dst (N := 44) rfl ?_); refine Kd.R_lit (Kd.int .u8) _ 5 ?hg (N := 44) ?hd (xs := ([Go.bits .or .u8 x3_1 31] : List Int)) (inner := [.int .u8 (Go.bits .or .u8 x3_1 31)]) (ok := fun _ => True) (okp := fun _ => True) ?hr ?hp (fun _ hk => hk) trivial (Below.refl _ _) (Nat.le_refl _) (by simp) ?_; (case hd => rfl); (case hg => rfl); (case hr => first | (go_simp; done) | (go_simp; rfl)); (case hp => exact (Reps.one (show Kd.M (Kd.int .u8) _ _ _ (Go.bits .or .u8 x3_1 31) [.int .u8 (Go.bits .or .u8 x3_1 31)] from rfl) (Reps.none _ _))); intro v179 w21 ho22 hb hg_ hnew_; clear hg_ hnew_; (first | rw [← Ny178.out] at ho22 | (simp only [Int.reduceToNat] at ho22; rw [← Ny178.out] at ho22)); have n0_ := Aside0.mk (Kd.R_elder' (by (with_reducible repeat (first | apply Kd.R_alloc | apply Kd.R_drewN | apply Kd.R_drew)); exact HO_4.out) (Kd.R_base ho22) hb); have n1_ := Aside0.mk (Kd.R_lower (Kd.R_new' ho22 (Kd.R_lt (by (with_reducible repeat (first | apply Kd.R_alloc | apply Kd.R_drewN | apply Kd.R_drew)); exact HO_4.out))) (below_size (by repeat (first | (with_reducible first | exact HB.out | apply below_alloc | apply pw_below_drewN | apply below_drew1 | refine below_set ?_ GE165.out) | exact HB.out)))); have n2_ := Aside0.mk (blk_below (g := gb165) (o := .cells #[.int .i64 a0_0, .int .i64 a0_1, .bool a0_2, .slice A0_3 l0_3.length c0_3, .slice A0_4 l0_4.length c0_4] 29 (0, 0)) (by (with_reducible repeat (first | refine blk_drewN ?_ _ | refine blk_drew ?_ | refine blk_alloc ?_ _)); exact BK165.out) hb); have n3_ := Aside0.mk (below_step (by repeat (first | (with_reducible first | exact HB.out | apply below_alloc | apply pw_below_drewN | apply below_drew1 | refine below_set ?_ GE165.out) | exact HB.out)) hb); clear HO_4; clear BK165; clear HB; have HO_4 := n0_; have HO180 := n1_; have BK165 := n2_; have HB := n3_; clear n0_ n1_ n2_ n3_; clear hb ho22; obtain ⟨Ao24, co24, eo24⟩ := Kd.R_slice HO_4.out; subst eo24) | ((with_reducible refine gate_builtin (b := .append) (xs := #[.tmp 44, .tmp 45]) rfl ?_); at_builtin; refine Kd.R_append_rows (Kd.int .u8) (w0 := w) w.heap.size rfl (.tmp 44) (.tmp 45) 22 5 (.int .u8 0) 1 rfl Tryd.underlying22 info5 rfl (by decide) (by omega) v179 y178 x4_2 _ _ _ (fun k_ => some k_ ≠ (.slice Ao24 x4_2.length co24 : Value).ownBlock) (fun _ => False) rfl rfl ?aO ?aR (fun _ _ h => h) (fun _ h => h.elim) ?aF ?aB ?aS ?aL ?_; (case aR => repeat (first | exact (Kd.R_reads' HO_4.out).2.2 | (with_reducible refine Kd.C_alloc ?_ _) | (with_reducible refine Kd.C_drewN ?_ _) | (with_reducible refine Kd.C_drew ?_))); (case aB => exact (by repeat (first | (with_reducible first | exact HB.out | apply below_alloc | apply pw_below_drewN | apply below_drew1 | refine below_set ?_ GE165.out) | exact HB.out))); (case aF => exact (fun k_ hk => Kd.fresh' (Kd.R_lt (by (with_reducible repeat (first | apply Kd.R_alloc | apply Kd.R_drewN | apply Kd.R_drew)); exact HO_4.out)) k_ hk)); (case aO => exact (by (with_reducible repeat (first | apply Kd.R_alloc | apply Kd.R_drewN | apply Kd.R_drew)); exact Kd.R_mono HO180.out (fun _ hk => hk.2))); (case aS => exact (below_size (by repeat (first | (with_reducible first | exact HB.out | apply below_alloc | apply pw_below_drewN | apply below_drew1 | refine below_set ?_ GE165.out) | exact HB.out)))); (case aL => have := LMc20.out; omega); intro v182 w23 ho hb hg hat; rw [← Ny181.out] at ho; have n0_ := Aside0.mk (Kd.R_after (ok := (fun _ => True)) (by (with_reducible repeat (first | apply Kd.R_alloc | apply Kd.R_drewN | apply Kd.R_drew)); exact HO_4.out) hg hat); have n1_ := Aside0.mk (blk_grown (g := gb165) (o := .cells #[.int .i64 a0_0, .int .i64 a0_1, .bool a0_2, .slice A0_3 l0_3.length c0_3, .slice A0_4 l0_4.length c0_4] 29 (0, 0)) (by (with_reducible repeat (first | refine blk_drewN ?_ _ | refine blk_drew ?_ | refine blk_alloc ?_ _)); exact BK165.out) hg (Kd.R_ne HO180.out BK165.out (by decide))); have n2_ := Aside0.mk (hb); have n3_ := Aside0.mk (ho); clear HO_4; clear BK165; clear HB; clear HO180; have HO_4 := n0_; have BK165 := n1_; have HB := n2_; have HO183 := n3_; clear n0_ n1_ n2_ n3_; clear ho hb hg hat))
                go_ret
                exact ⟨_, by first | rfl | (simp [errW_none, errW_some] <;> rfl) | (simp [*, errW_none, errW_some] <;> rfl), by (with_reducible repeat (first | apply Kd.R_alloc | apply Kd.R_drewN | apply Kd.R_drew)); exact Kd.R_mono HO183.out (fun _ hk => trivial), by repeat (first | (with_reducible first | exact HB.out | apply below_alloc | apply pw_below_drewN | apply below_drew1 | refine below_set ?_ GE165.out) | exact HB.out)⟩
              · rw [if_neg c20] at H
                exact absurd H (by simp)

/-! ### spec_Length: function 30 -/
def spec_Length.l0 : Nat → Int → List Int → Option (List Int)
  | 0, _, _ => none
  | k + 1, x0, x3 => if x0 > 0 then ((some (([(x0) % 256] : List Int) : List Int)).bind fun y187 => (if y187.length + x3.length < 140737488355328 then (spec_Length.l0 k (x0 / 256) (y187 ++ x3)) else (none))) else ((some (([Go.bits .or .u8 128 (((x3.length : Int)) % 256)] : List Int) : List Int)).bind fun y193 => (if y193.length + x3.length < 140737488355328 then (some (y193 ++ x3)) else (none)))
def spec_Length.f (k : Nat) (a0 : Int) : Option (List Int) := if a0 < 128 then (some (([(a0) % 256] : List Int))) else (spec_Length.l0 k a0 ([] : List Int))
theorem spec_Length.mono_l : ∀ k, (∀ y0 y1, LeO (spec_Length.l0 k y0 y1) (spec_Length.l0 (k + 1) y0 y1))
  | 0 => fun _ _ r h => by simp [spec_Length.l0] at h
  | k + 1 => by
    have ih0 := spec_Length.mono_l k
    · intro y0 y1
      unfold spec_Length.l0
      repeat' first
      | (with_reducible exact ih0 _ _)
      | (with_reducible exact LeO.refl _)
      | (with_reducible exact LeO.none _)
      | (with_reducible refine LeO.ite ?_ ?_)
      | (with_reducible refine LeO.bind ?_ (fun _ => ?_))
      | exact ih0 _ _
      | exact LeO.none _
      | refine LeO.ite ?_ ?_
      | refine LeO.bind ?_ (fun _ => ?_)
theorem spec_Length.mono : ∀ a0 k, LeO (spec_Length.f k a0) (spec_Length.f (k + 1) a0) := by
  intro a0 k
  have ih0 := spec_Length.mono_l k
  unfold spec_Length.f
  repeat' first
      | (with_reducible exact ih0 _ _)
      | (with_reducible exact LeO.refl _)
      | (with_reducible exact LeO.none _)
      | (with_reducible refine LeO.ite ?_ ?_)
      | (with_reducible refine LeO.bind ?_ (fun _ => ?_))
      | exact ih0 _ _
      | exact LeO.none _
      | refine LeO.ite ?_ ?_
      | refine LeO.bind ?_ (fun _ => ?_)
set_option maxHeartbeats 8000000 in
set_option maxRecDepth 100000 in
theorem spec_Length.calls (k : Nat) (a0 : Int) (r : List Int) (w : World) (h : spec_Length.f k a0 = some r) :
    Calls Tryd.prog 30 #[.int .i64 a0] w fun e w' => ∃ v0_ : Value, e = .returned (v0_) ∧ Kd.R (Kd.int .u8) 5 w' w.heap.size (fun _ => True) v0_ r ∧ Below w.heap.size w w' := by
  have HB := Aside0.mk (Below.refl w.heap.size w)
  have H : (if a0 < 128 then (some (([(a0) % 256] : List Int))) else (spec_Length.l0 k a0 ([] : List Int))) = some r := h
  clear h
  by_cases c2 : a0 < 128
  · rw [if_pos c2] at H
    have c2b0 : decide (a0 < 128) = true := decide_eq_true c2
    clear c2
    obtain ⟨y184, hy184⟩ : ∃ y_ : List Int, y_ = (([(a0) % 256] : List Int)) := ⟨_, rfl⟩
    replace H : (some y184) = some r := by first | (rw [hy184]; with_reducible exact H) | (have H2_ := (Option.bind_some _ _).symm.trans H; rw [hy184]; with_reducible exact H2_) | (have H2_ := (Option.bind_some _ _).symm.trans H; with_reducible exact H2_) | with_reducible exact H | (rw [hy184]; exact H) | exact H
    have Ny184 := Aside0.mk hy184
    clear hy184
    obtain rfl := Option.some.inj H
    go_enter Tryd.func30, Tryd.ntmps30
    go_wp2_with (first | ((with_reducible refine gate_dst (N := 8) rfl ?_); refine Kd.R_lit (Kd.int .u8) _ 5 ?hg (N := 8) ?hd (xs := ([(a0) % 256] : List Int)) (inner := [.int .u8 ((a0) % 256)]) (ok := fun _ => True) (okp := fun _ => True) ?hr ?hp (fun _ hk => hk) trivial (Below.refl _ _) (Nat.le_refl _) (by simp) ?_; (case hd => rfl); (case hg => rfl); (case hr => first | (go_simp; done) | (go_simp; rfl)); (case hp => exact (Reps.one (show Kd.M (Kd.int .u8) _ _ _ ((a0) % 256) [.int .u8 ((a0) % 256)] from rfl) (Reps.none _ _))); intro v185 w3 ho4 hb hg_ hnew_; clear hg_ hnew_; (first | rw [← Ny184.out] at ho4 | (simp only [Int.reduceToNat] at ho4; rw [← Ny184.out] at ho4)); have n0_ := Aside0.mk (Kd.R_lower ho4 (below_size (by repeat (first | (with_reducible first | exact HB.out | apply below_alloc | apply pw_below_drewN | apply below_drew1) | exact HB.out)))); have n1_ := Aside0.mk (below_step (by repeat (first | (with_reducible first | exact HB.out | apply below_alloc | apply pw_below_drewN | apply below_drew1) | exact HB.out)) hb); clear HB; have HO186 := n0_; have HB := n1_; clear n0_ n1_; clear hb ho4))
    go_ret
    exact ⟨_, by first | rfl | (simp [errW_none, errW_some] <;> rfl) | (simp [*, errW_none, errW_some] <;> rfl), by (with_reducible repeat (first | apply Kd.R_alloc | apply Kd.R_drewN | apply Kd.R_drew)); exact HO186.out, by repeat (first | (with_reducible first | exact HB.out | apply below_alloc | apply pw_below_drewN | apply below_drew1) | exact HB.out)⟩
  · rw [if_neg c2] at H
    have c2b0 : decide (a0 < 128) = false := decide_eq_false c2
    clear c2
    have H' := Aside0.mk H
    clear H
    go_enter Tryd.func30, Tryd.ntmps30
    go_wp2
    go_loopg [0, 3] k (fun kq v0 v3 w' => ∃ (x0_1 : Int) (x3_1 : List Int), v0 = .int .i64 x0_1 ∧ Aside0 (spec_Length.l0 kq x0_1 x3_1 = some r) ∧ Aside0 (kq ≤ k) ∧ Aside0 (Kd.R (Kd.int .u8) 5 w' w.heap.size (fun _ => True) v3 x3_1) ∧ Aside0 (Below w.heap.size w w'))
    case atStart => exact ⟨(a0), (([] : List Int)), (by first | rfl | (simp; done) | (simp [*]; done)), H', ⟨Nat.le_refl _⟩, ⟨by first | exact Kd.R_nil _ _ _ _ _ | exact Kd.N_nil _ _ _ _ _ | exact Kd.V_nil _ _ _ _ _ | exact Kd.Q_nil _ _ _ _ _ | exact Kd.S_nil _ _ _ _ _⟩, ⟨by repeat (first | (with_reducible first | exact HB.out | apply below_alloc | apply pw_below_drewN | apply below_drew1) | exact HB.out)⟩⟩
    case round =>
      clear H'
      try clear c2
      try clear c2b0
      try clear p2
      try clear c3
      obtain ⟨x0_1, x3_1, rfl, HA, HK1, HO_3, HB⟩ := hrel
      cases gk with
      | zero => exact absurd HA.out (by simp [spec_Length.l0])
      | succ k1 =>
        have H := HA.out
        clear HA
        simp only [spec_Length.l0] at H
        by_cases c5 : x0_1 > 0
        · rw [if_pos c5] at H
          have c5b0 : decide (0 < x0_1) = true := decide_eq_true c5
          clear c5
          obtain ⟨y187, hy187⟩ : ∃ y_ : List Int, y_ = (([(x0_1) % 256] : List Int)) := ⟨_, rfl⟩
          replace H : (if y187.length + x3_1.length < 140737488355328 then (spec_Length.l0 k1 (x0_1 / 256) (y187 ++ x3_1)) else (none)) = some r := by first | (rw [hy187]; with_reducible exact H) | (have H2_ := (Option.bind_some _ _).symm.trans H; rw [hy187]; with_reducible exact H2_) | (have H2_ := (Option.bind_some _ _).symm.trans H; with_reducible exact H2_) | with_reducible exact H | (rw [hy187]; exact H) | exact H
          have Ny187 := Aside0.mk hy187
          clear hy187
          by_cases c6 : y187.length + x3_1.length < 140737488355328
          · rw [if_pos c6] at H
            have LMc6 := Aside0.mk c6
            clear c6
            obtain ⟨y190, hy190⟩ : ∃ y_ : List Int, y_ = (y187 ++ x3_1) := ⟨_, rfl⟩
            replace H : (spec_Length.l0 k1 (x0_1 / 256) y190) = some r := by first | (rw [hy190]; with_reducible exact H) | (have H2_ := (Option.bind_some _ _).symm.trans H; rw [hy190]; with_reducible exact H2_) | (have H2_ := (Option.bind_some _ _).symm.trans H; with_reducible exact H2_) | with_reducible exact H | (rw [hy190]; exact H) | exact H
            have Ny190 := Aside0.mk hy190
            clear hy190
            have H' := Aside0.mk H
            clear H
            go_wp2_with (first | ((with_reducible refine gate_dst (N := 15) rfl ?_); refine Kd.R_lit (Kd.int .u8) _ 5 ?hg (N := 15) ?hd (xs := ([(x0_1) % 256] : List Int)) (inner := [.int .u8 ((x0_1) % 256)]) (ok := fun _ => True) (okp := fun _ => True) ?hr ?hp (fun _ hk => hk) trivial (Below.refl _ _) (Nat.le_refl _) (by simp) ?_; (case hd => rfl); (case hg => rfl); (case hr => first | (go_simp; done) | (go_simp; rfl)); (case hp => exact (Reps.one (show Kd.M (Kd.int .u8) _ _ _ ((x0_1) % 256) [.int .u8 ((x0_1) % 256)] from rfl) (Reps.none _ _))); intro v188 w7 ho8 hb hg_ hnew_; clear hg_ hnew_; (first | rw [← Ny187.out] at ho8 | (simp only [Int.reduceToNat] at ho8; rw [← Ny187.out] at ho8)); have n0_ := Aside0.mk (Kd.R_elder' (by (with_reducible repeat (first | apply Kd.R_alloc | apply Kd.R_drewN | apply Kd.R_drew)); exact HO_3.out) (Kd.R_base ho8) hb); have n1_ := Aside0.mk (Kd.R_lower (Kd.R_new' ho8 (Kd.R_lt (by (with_reducible repeat (first | apply Kd.R_alloc | apply Kd.R_drewN | apply Kd.R_drew)); exact HO_3.out))) (below_size (by repeat (first | (with_reducible first | exact HB.out | apply below_alloc | apply pw_below_drewN | apply below_drew1) | exact HB.out)))); have n2_ := Aside0.mk (below_step (by repeat (first | (with_reducible first | exact HB.out | apply below_alloc | apply pw_below_drewN | apply below_drew1) | exact HB.out)) hb); clear HO_3; clear HB; have HO_3 := n0_; have HO189 := n1_; have HB := n2_; clear n0_ n1_ n2_; clear hb ho8; obtain ⟨Ao10, co10, eo10⟩ := Kd.R_slice HO_3.out; subst eo10) | ((with_reducible refine gate_builtin (b := .append) (xs := #[.tmp 15, .tmp 16]) rfl ?_); at_builtin; refine Kd.R_append_rows (Kd.int .u8) (w0 := w) w.heap.size rfl (.tmp 15) (.tmp 16) 22 5 (.int .u8 0) 1 rfl Tryd.underlying22 info5 rfl (by decide) (by omega) v188 y187 x3_1 _ _ _ (fun k_ => some k_ ≠ (.slice Ao10 x3_1.length co10 : Value).ownBlock) (fun _ => False) rfl rfl ?aO ?aR (fun _ _ h => h) (fun _ h => h.elim) ?aF ?aB ?aS ?aL ?_; (case aR => repeat (first | exact (Kd.R_reads' HO_3.out).2.2 | (with_reducible refine Kd.C_alloc ?_ _) | (with_reducible refine Kd.C_drewN ?_ _) | (with_reducible refine Kd.C_drew ?_))); (case aB => exact (by repeat (first | (with_reducible first | exact HB.out | apply below_alloc | apply pw_below_drewN | apply below_drew1) | exact HB.out))); (case aF => exact (fun k_ hk => Kd.fresh' (Kd.R_lt (by (with_reducible repeat (first | apply Kd.R_alloc | apply Kd.R_drewN | apply Kd.R_drew)); exact HO_3.out)) k_ hk)); (case aO => exact (by (with_reducible repeat (first | apply Kd.R_alloc | apply Kd.R_drewN | apply Kd.R_drew)); exact Kd.R_mono HO189.out (fun _ hk => hk.2))); (case aS => exact (below_size (by repeat (first | (with_reducible first | exact HB.out | apply below_alloc | apply pw_below_drewN | apply below_drew1) | exact HB.out)))); (case aL => have := LMc6.out; omega); intro v191 w9 ho hb hg hat; rw [← Ny190.out] at ho; have n0_ := Aside0.mk (Kd.R_after (ok := (fun _ => True)) (by (with_reducible repeat (first | apply Kd.R_alloc | apply Kd.R_drewN | apply Kd.R_drew)); exact HO_3.out) hg hat); have n1_ := Aside0.mk (hb); have n2_ := Aside0.mk (ho); clear HO_3; clear HB; clear HO189; have HO_3 := n0_; have HB := n1_; have HO192 := n2_; clear n0_ n1_ n2_; clear ho hb hg hat))
            go_roundg k1
            case measure => have := HK1.out; omega
            case rel => exact ⟨(x0_1 / 256), (y190), (by first | rfl | (simp; done) | (simp [*]; done)), H', ⟨by have := HK1.out; omega⟩, ⟨by (with_reducible repeat (first | apply Kd.R_alloc | apply Kd.R_drewN | apply Kd.R_drew)); exact Kd.R_mono HO192.out (fun _ hk => trivial)⟩, ⟨by repeat (first | (with_reducible first | exact HB.out | apply below_alloc | apply pw_below_drewN | apply below_drew1) | exact HB.out)⟩⟩
          · rw [if_neg c6] at H
            exact absurd H (by simp)
        · rw [if_neg c5] at H
          have c5b0 : decide (0 < x0_1) = false := decide_eq_false c5
          clear c5
          obtain ⟨y193, hy193⟩ : ∃ y_ : List Int, y_ = (([Go.bits .or .u8 128 (((x3_1.length : Int)) % 256)] : List Int)) := ⟨_, rfl⟩
          replace H : (if y193.length + x3_1.length < 140737488355328 then (some (y193 ++ x3_1)) else (none)) = some r := by first | (rw [hy193]; with_reducible exact H) | (have H2_ := (Option.bind_some _ _).symm.trans H; rw [hy193]; with_reducible exact H2_) | (have H2_ := (Option.bind_some _ _).symm.trans H; with_reducible exact H2_) | with_reducible exact H | (rw [hy193]; exact H) | exact H
          have Ny193 := Aside0.mk hy193
          clear hy193
          by_cases c11 : y193.length + x3_1.length < 140737488355328
          · rw [if_pos c11] at H
            have LMc11 := Aside0.mk c11
            clear c11
            obtain ⟨y196, hy196⟩ : ∃ y_ : List Int, y_ = (y193 ++ x3_1) := ⟨_, rfl⟩
            replace H : (some y196) = some r := by first | (rw [hy196]; with_reducible exact H) | (have H2_ := (Option.bind_some _ _).symm.trans H; rw [hy196]; with_reducible exact H2_) | (have H2_ := (Option.bind_some _ _).symm.trans H; with_reducible exact H2_) | with_reducible exact H | (rw [hy196]; exact H) | exact H
            have Ny196 := Aside0.mk hy196
            clear hy196
            obtain rfl := Option.some.inj H
            obtain ⟨Ao12, co12, eo12⟩ := Kd.R_slice HO_3.out
            subst eo12
            go_wp2_with (first | ((with_reducible refine gate_dst (N := 22) rfl ?_); refine Kd.R_lit (Kd.int .u8) _ 5 ?hg (N := 22) ?hd (xs := ([Go.bits .or .u8 128 (((x3_1.length : Int)) % 256)] : List Int)) (inner := [.int .u8 (Go.bits .or .u8 128 (((x3_1.length : Int)) % 256))]) (ok := fun _ => True) (okp := fun _ => True) ?hr ?hp (fun _ hk => hk) trivial (Below.refl _ _) (Nat.le_refl _) (by simp) ?_; (case hd => rfl); (case hg => rfl); (case hr => first | (go_simp; done) | (go_simp; rfl)); (case hp => exact (Reps.one (show Kd.M (Kd.int .u8) _ _ _ (Go.bits .or .u8 128 (((x3_1.length : Int)) % 256)) [.int .u8 (Go.bits .or .u8 128 (((x3_1.length : Int)) % 256))] from rfl) (Reps.none _ _))); intro v194 w13 ho14 hb hg_ hnew_; clear hg_ hnew_; (first | rw [← Ny193.out] at ho14 | (simp only [Int.reduceToNat] at ho14; rw [← Ny193.out] at ho14)); have n0_ := Aside0.mk (Kd.R_elder' (by (with_reducible repeat (first | apply Kd.R_alloc | apply Kd.R_drewN | apply Kd.R_drew)); exact HO_3.out) (Kd.R_base ho14) hb); have n1_ := Aside0.mk (Kd.R_lower (Kd.R_new' ho14 (Kd.R_lt (by (with_reducible repeat (first | apply Kd.R_alloc | apply Kd.R_drewN | apply Kd.R_drew)); exact HO_3.out))) (below_size (by repeat (first | (with_reducible first | exact HB.out | apply below_alloc | apply pw_below_drewN | apply below_drew1) | exact HB.out)))); have n2_ := Aside0.mk (below_step (by repeat (first | (with_reducible first | exact HB.out | apply below_alloc | apply pw_below_drewN | apply below_drew1) | exact HB.out)) hb); clear HO_3; clear HB; have HO_3 := n0_; have HO195 := n1_; have HB := n2_; clear n0_ n1_ n2_; clear hb ho14) | ((with_reducible refine gate_builtin (b := .append) (xs := #[.tmp 22, .tmp 23]) rfl ?_); at_builtin; refine Kd.R_append_rows (Kd.int .u8) (w0 := w) w.heap.size rfl (.tmp 22) (.tmp 23) 22 5 (.int .u8 0) 1 rfl Tryd.underlying22 info5 rfl (by decide) (by omega) v194 y193 x3_1 _ _ _ (fun k_ => some k_ ≠ (.slice Ao12 x3_1.length co12 : Value).ownBlock) (fun _ => False) rfl rfl ?aO ?aR (fun _ _ h => h) (fun _ h => h.elim) ?aF ?aB ?aS ?aL ?_; (case aR => repeat (first | exact (Kd.R_reads' HO_3.out).2.2 | (with_reducible refine Kd.C_alloc ?_ _) | (with_reducible refine Kd.C_drewN ?_ _) | (with_reducible refine Kd.C_drew ?_))); (case aB => exact (by repeat (first | (with_reducible first | exact HB.out | apply below_alloc | apply pw_below_drewN | apply below_drew1) | exact HB.out))); (case aF => exact (fun k_ hk => Kd.fresh' (Kd.R_lt (by (with_reducible repeat (first | apply Kd.R_alloc | apply Kd.R_drewN | apply Kd.R_drew)); exact HO_3.out)) k_ hk)); (case aO => exact (by (with_reducible repeat (first | apply Kd.R_alloc | apply Kd.R_drewN | apply Kd.R_drew)); exact Kd.R_mono HO195.out (fun _ hk => hk.2))); (case aS => exact (below_size (by repeat (first | (with_reducible first | exact HB.out | apply below_alloc | apply pw_below_drewN | apply below_drew1) | exact HB.out)))); (case aL => have := LMc11.out; omega); intro v197 w15 ho hb hg hat; rw [← Ny196.out] at ho; have n0_ := Aside0.mk (Kd.R_after (ok := (fun _ => True)) (by (with_reducible repeat (first | apply Kd.R_alloc | apply Kd.R_drewN | apply Kd.R_drew)); exact HO_3.out) hg hat); have n1_ := Aside0.mk (hb); have n2_ := Aside0.mk (ho); clear HO_3; clear HB; clear HO195; have HO_3 := n0_; have HB := n1_; have HO198 := n2_; clear n0_ n1_ n2_; clear ho hb hg hat))
            go_ret
            exact ⟨_, by first | rfl | (simp [errW_none, errW_some] <;> rfl) | (simp [*, errW_none, errW_some] <;> rfl), by (with_reducible repeat (first | apply Kd.R_alloc | apply Kd.R_drewN | apply Kd.R_drew)); exact Kd.R_mono HO198.out (fun _ hk => trivial), by repeat (first | (with_reducible first | exact HB.out | apply below_alloc | apply pw_below_drewN | apply below_drew1) | exact HB.out)⟩
          · rw [if_neg c11] at H
            exact absurd H (by simp)

end Go.Proofs.YtcohjechpnlogaaDoor.PFnEncode
