/- Parts of the proof of one law, in the order in which they build. Lengths as bytes: what encodeLength makes, in plain Lean; the contracts of encodeLength and works. -/
import Derived.Test.YtbmcpjkhnhbjdaaDoorMsg1
import Derived.Test.YtbmcpjkhnhbjdaaDoorMsg2
import Derived.Test.YtbmcpjkhnhbjdaaDoorMsg3
namespace Go.Proofs.YtbmcpjkhnhbjdaaDoor.PFnEncode
open Go.RowKit Go.Proofs.YtbmcpjkhnhbjdaaDoorW.PrintWords Go.Proofs.YtbmcpjkhnhbjdaaDoorW.PrintLast Go.Proofs.YtbmcpjkhnhbjdaaDoorW.PrintMore
attribute [local go_sem] max2_int min2_int max_two min_two max_three min_three max_four min_four   -- for this text's walks alone
set_option linter.unusedVariables false
set_option linter.unusedSimpArgs false

/-! ### laws_short: function 10 -/
def laws_short.l0 : Nat → List ByteArray → List ByteArray → Int → Int → Option (Bool)
  | 0, _, _, _, _ => none
  | k + 1, x0, x5, x6, x7 => if x7 < x6 then (if 0 ≤ x7 then (if x7 < (x5.length : Int) then (if ((rdOf ByteArray.empty x5 x7).size : Int) > 200 then (some false) else (laws_short.l0 k x0 x5 x6 (wrap64 (x7 + 1)))) else (none)) else (none)) else (some (decide ((x0.length : Int) ≤ 20)))
def laws_short.f (k : Nat) (l0 : List ByteArray) : Option (Bool) := laws_short.l0 k l0 l0 (l0.length : Int) 0
set_option maxHeartbeats 8000000 in
set_option maxRecDepth 100000 in
theorem laws_short.calls (k : Nat) (A0 : Option Addr) (c0 : Nat) (l0 : List ByteArray) (r : Bool) (w : World) (hr0 : Kd.C Kd.string w A0 l0.length l0) (hc0 : l0.length ≤ c0) (h : laws_short.f k l0 = some r) :
    Calls Tryd.prog 10 #[.slice A0 l0.length c0] w fun e w' => e = .returned (.bool r) ∧ Drawn0 w w' := by
  have HR0 := Aside0.mk hr0
  have HC0 := Aside0.mk hc0
  clear hr0 hc0
  have H : (laws_short.l0 k l0 l0 (l0.length : Int) 0) = some r := h
  clear h
  have H' := Aside0.mk H
  clear H
  go_enter Tryd.func10, Tryd.ntmps10
  go_wp2
  go_loopg [7] k (fun kq v7 w' => ∃ (x7_1 : Int), v7 = .int .i64 x7_1 ∧ Aside0 (laws_short.l0 kq l0 l0 (l0.length : Int) x7_1 = some r) ∧ Aside0 (kq ≤ k) ∧ Drawn0 w w')
  case atStart => exact ⟨(0), (by first | rfl | (simp; done) | (simp [*]; done)), H', ⟨Nat.le_refl _⟩, by repeat (first | exact Drawn0.refl _ | apply Drawn0.step)⟩
  case round =>
    clear H'
    try clear c1
    obtain ⟨x7_1, rfl, HA, HK1, ⟨m1, rfl⟩⟩ := hrel
    cases gk with
    | zero => exact absurd HA.out (by simp [laws_short.l0])
    | succ k1 =>
      have H := HA.out
      clear HA
      simp only [laws_short.l0] at H
      by_cases c2 : x7_1 < (l0.length : Int)
      · rw [if_pos c2] at H
        have c2b0 : decide (x7_1 < (l0.length : Int)) = true := decide_eq_true c2
        clear c2
        by_cases c3 : 0 ≤ x7_1
        · rw [if_pos c3] at H
          have c3b0 : decide (0 ≤ x7_1) = true := decide_eq_true c3
          clear c3
          by_cases c4 : x7_1 < (l0.length : Int)
          · rw [if_pos c4] at H
            have c4b0 : decide (x7_1 < (l0.length : Int)) = true := decide_eq_true c4
            clear c4
            by_cases c5 : ((rdOf ByteArray.empty l0 x7_1).size : Int) > 200
            · rw [if_pos c5] at H
              have c5b0 : decide (200 < ((rdOf ByteArray.empty l0 x7_1).size : Int)) = true := decide_eq_true c5
              have c5b1 : decide (200 < (rdOf ByteArray.empty l0 x7_1).size) = true := decide_eq_true (by omega)
              clear c5
              obtain rfl := Option.some.inj H
              have p101 : 0 ≤ (x7_1 : Int) := of_decide_eq_true (by first | (with_reducible assumption) | assumption)
              have q101 : x7_1 < (l0.length : Int) := of_decide_eq_true (by first | (with_reducible assumption) | assumption)
              obtain ⟨ad101, e101, hx101_0⟩ := Kd.at_string HR0.out x7_1 p101 q101
              cases e101
              replace p101 := eq_true p101
              replace q101 := eq_true q101
              go_wp2
              go_ret
              exact ⟨by first | rfl | (simp; done) | (simp [*]; done), by repeat (first | exact Drawn0.refl _ | apply Drawn0.step)⟩
            · rw [if_neg c5] at H
              have c5b0 : decide (200 < ((rdOf ByteArray.empty l0 x7_1).size : Int)) = false := decide_eq_false c5
              have c5b1 : decide (200 < (rdOf ByteArray.empty l0 x7_1).size) = false := decide_eq_false (by omega)
              clear c5
              have H' := Aside0.mk H
              clear H
              have p101 : 0 ≤ (x7_1 : Int) := of_decide_eq_true (by first | (with_reducible assumption) | assumption)
              have q101 : x7_1 < (l0.length : Int) := of_decide_eq_true (by first | (with_reducible assumption) | assumption)
              obtain ⟨ad101, e101, hx101_0⟩ := Kd.at_string HR0.out x7_1 p101 q101
              cases e101
              replace p101 := eq_true p101
              replace q101 := eq_true q101
              go_wp2
              go_roundg k1
              case measure => have := HK1.out; omega
              case rel => exact ⟨(wrap64 (x7_1 + 1)), (by first | rfl | (simp; done) | (simp [*]; done)), H', ⟨by have := HK1.out; omega⟩, by repeat (first | exact Drawn0.refl _ | apply Drawn0.step)⟩
          · rw [if_neg c4] at H
            exact absurd H (by simp)
        · rw [if_neg c3] at H
          exact absurd H (by simp)
      · rw [if_neg c2] at H
        have c2b0 : decide (x7_1 < (l0.length : Int)) = false := decide_eq_false c2
        clear c2
        obtain rfl := Option.some.inj H
        go_wp2
        go_ret
        exact ⟨by first | rfl | (simp; done) | (simp [*]; done), by repeat (first | exact Drawn0.refl _ | apply Drawn0.step)⟩

/-! ### asn1ber_uint64Length: function 116 -/
def asn1ber_uint64Length.l0 : Nat → Int → Int → Option (Int)
  | 0, _, _ => none
  | k + 1, x0, x2 => if x0 > 255 then (asn1ber_uint64Length.l0 k (x0 / 256) (wrap64 (x2 + 1))) else (some x2)
def asn1ber_uint64Length.f (k : Nat) (a0 : Int) : Option (Int) := asn1ber_uint64Length.l0 k a0 1
theorem asn1ber_uint64Length.mono_l : ∀ k, (∀ y0 y1, LeO (asn1ber_uint64Length.l0 k y0 y1) (asn1ber_uint64Length.l0 (k + 1) y0 y1))
  | 0 => fun _ _ r h => by simp [asn1ber_uint64Length.l0] at h
  | k + 1 => by
    have ih0 := asn1ber_uint64Length.mono_l k
    · intro y0 y1
      unfold asn1ber_uint64Length.l0
      repeat' first
      | (with_reducible exact ih0 _ _)
      | (with_reducible exact LeO.refl _)
      | (with_reducible exact LeO.none _)
      | (with_reducible refine LeO.ite ?_ ?_)
      | (with_reducible refine LeO.bind ?_ (fun _ => ?_))
      | exact ih0 _ _
      | exact LeO.none _
      | refine LeO.ite ?_ ?_
      | refine LeO.bind ?_ (fun _ => ?_)
theorem asn1ber_uint64Length.mono : ∀ a0 k, LeO (asn1ber_uint64Length.f k a0) (asn1ber_uint64Length.f (k + 1) a0) := by
  intro a0 k
  have ih0 := asn1ber_uint64Length.mono_l k
  unfold asn1ber_uint64Length.f
  repeat' first
      | (with_reducible exact ih0 _ _)
      | (with_reducible exact LeO.refl _)
      | (with_reducible exact LeO.none _)
      | (with_reducible refine LeO.ite ?_ ?_)
      | (with_reducible refine LeO.bind ?_ (fun _ => ?_))
      | exact ih0 _ _
      | exact LeO.none _
      | refine LeO.ite ?_ ?_
      | refine LeO.bind ?_ (fun _ => ?_)
set_option maxHeartbeats 8000000 in
set_option maxRecDepth 100000 in
theorem asn1ber_uint64Length.calls (k : Nat) (a0 : Int) (r : Int) (w : World) (h : asn1ber_uint64Length.f k a0 = some r) :
    Calls Tryd.prog 116 #[.int .u64 a0] w fun e w' => e = .returned (.int .i64 r) ∧ Drawn0 w w' := by
  have H : (asn1ber_uint64Length.l0 k a0 1) = some r := h
  clear h
  have H' := Aside0.mk H
  clear H
  go_enter Tryd.func116, Tryd.ntmps116
  go_wp2
  go_loopg [0, 2] k (fun kq v0 v2 w' => ∃ (x0_1 : Int) (x2_1 : Int), v0 = .int .u64 x0_1 ∧ v2 = .int .i64 x2_1 ∧ Aside0 (asn1ber_uint64Length.l0 kq x0_1 x2_1 = some r) ∧ Aside0 (kq ≤ k) ∧ Drawn0 w w')
  case atStart => exact ⟨(a0), (1), (by first | rfl | (simp; done) | (simp [*]; done)), (by first | rfl | (simp; done) | (simp [*]; done)), H', ⟨Nat.le_refl _⟩, by repeat (first | exact Drawn0.refl _ | apply Drawn0.step)⟩
  case round =>
    clear H'
    try clear c1
    obtain ⟨x0_1, x2_1, rfl, rfl, HA, HK1, ⟨m1, rfl⟩⟩ := hrel
    cases gk with
    | zero => exact absurd HA.out (by simp [asn1ber_uint64Length.l0])
    | succ k1 =>
      have H := HA.out
      clear HA
      simp only [asn1ber_uint64Length.l0] at H
      by_cases c2 : x0_1 > 255
      · rw [if_pos c2] at H
        have c2b0 : decide (255 < x0_1) = true := decide_eq_true c2
        clear c2
        have H' := Aside0.mk H
        clear H
        go_wp2
        go_roundg k1
        case measure => have := HK1.out; omega
        case rel => exact ⟨(x0_1 / 256), (wrap64 (x2_1 + 1)), (by first | rfl | (simp; done) | (simp [*]; done)), (by first | rfl | (simp; done) | (simp [*]; done)), H', ⟨by have := HK1.out; omega⟩, by repeat (first | exact Drawn0.refl _ | apply Drawn0.step)⟩
      · rw [if_neg c2] at H
        have c2b0 : decide (255 < x0_1) = false := decide_eq_false c2
        clear c2
        obtain rfl := Option.some.inj H
        go_wp2
        go_ret
        exact ⟨by first | rfl | (simp; done) | (simp [*]; done), by repeat (first | exact Drawn0.refl _ | apply Drawn0.step)⟩

/-! ### asn1ber_encodeUnsignedInteger: function 110 -/
def asn1ber_encodeUnsignedInteger.l0 : Nat → Int → Int → List Int → Int → Option (List Int)
  | 0, _, _, _, _ => none
  | k + 1, x0, x3, x4, x5 => if x3 > 0 then (if 0 ≤ (IntKind.u64.wrap (wrap64 ((wrap64 (x3 - 1)) * 8))) then (if 0 ≤ x5 then (if x5 < (x4.length : Int) then (asn1ber_encodeUnsignedInteger.l0 k x0 (wrap64 (x3 - 1)) (x4.set (x5 : Int).toNat ((shr .u64 x0 (IntKind.u64.wrap (wrap64 ((wrap64 (x3 - 1)) * 8)))) % 256)) (wrap64 (x5 + 1))) else (none)) else (none)) else (none)) else (some x4)
def asn1ber_encodeUnsignedInteger.f (k : Nat) (a0 : Int) : Option (List Int) := (asn1ber_uint64Length.f k a0).bind fun t102 => (if 0 ≤ t102 then (if (t102 : Int).toNat ≤ 281474976710656 then (asn1ber_encodeUnsignedInteger.l0 k a0 t102 (List.replicate (t102 : Int).toNat 0) 0) else (none)) else (none))
theorem asn1ber_encodeUnsignedInteger.mono_l : ∀ k, (∀ y0 y1 y2 y3, LeO (asn1ber_encodeUnsignedInteger.l0 k y0 y1 y2 y3) (asn1ber_encodeUnsignedInteger.l0 (k + 1) y0 y1 y2 y3))
  | 0 => fun _ _ _ _ r h => by simp [asn1ber_encodeUnsignedInteger.l0] at h
  | k + 1 => by
    have ih0 := asn1ber_encodeUnsignedInteger.mono_l k
    · intro y0 y1 y2 y3
      unfold asn1ber_encodeUnsignedInteger.l0
      repeat' first
      | (with_reducible exact ih0 _ _ _ _)
      | (with_reducible exact asn1ber_uint64Length.mono _ _)
      | (with_reducible exact LeO.refl _)
      | (with_reducible exact LeO.none _)
      | (with_reducible refine LeO.ite ?_ ?_)
      | (with_reducible refine LeO.bind ?_ (fun _ => ?_))
      | exact ih0 _ _ _ _
      | exact asn1ber_uint64Length.mono _ _
      | exact LeO.none _
      | refine LeO.ite ?_ ?_
      | refine LeO.bind ?_ (fun _ => ?_)
set_option maxHeartbeats 8000000 in
set_option maxRecDepth 100000 in
theorem asn1ber_encodeUnsignedInteger.calls (k : Nat) (a0 : Int) (r : List Int) (w : World) (h : asn1ber_encodeUnsignedInteger.f k a0 = some r) :
    Calls Tryd.prog 110 #[.int .u64 a0] w fun e w' => ∃ v0_ : Value, e = .returned (v0_) ∧ Kd.R (Kd.int .u8) 5 w' w.heap.size (fun _ => True) v0_ r ∧ Below w.heap.size w w' := by
  have HB := Aside0.mk (Below.refl w.heap.size w)
  have H : ((asn1ber_uint64Length.f k a0).bind fun t102 => (if 0 ≤ t102 then (if (t102 : Int).toNat ≤ 281474976710656 then (asn1ber_encodeUnsignedInteger.l0 k a0 t102 (List.replicate (t102 : Int).toNat 0) 0) else (none)) else (none))) = some r := h
  clear h
  replace H := Option.bind_eq_some_iff.mp H
  obtain ⟨t102, A20, H⟩ := H
  replace H : (if 0 ≤ t102 then (if (t102 : Int).toNat ≤ 281474976710656 then (asn1ber_encodeUnsignedInteger.l0 k a0 t102 (List.replicate (t102 : Int).toNat 0) 0) else (none)) else (none)) = some r := H
  have A2 := Aside0.mk A20
  clear A20
  by_cases c3 : 0 ≤ t102
  · rw [if_pos c3] at H
    have c3b0 := eq_true c3
    have c3b1 : decide (0 ≤ t102) = true := decide_eq_true c3
    clear c3
    by_cases c4 : (t102 : Int).toNat ≤ 281474976710656
    · rw [if_pos c4] at H
      have c4b0 := eq_true c4
      have c4b1 : decide ((t102 : Int).toNat ≤ 281474976710656) = true := decide_eq_true c4
      clear c4
      obtain ⟨y103, hy103⟩ : ∃ y_ : List Int, y_ = (List.replicate (t102 : Int).toNat 0) := ⟨_, rfl⟩
      replace H : (asn1ber_encodeUnsignedInteger.l0 k a0 t102 y103 0) = some r := by first | (rw [hy103]; with_reducible exact H) | (have H2_ := (Option.bind_some _ _).symm.trans H; rw [hy103]; with_reducible exact H2_) | (have H2_ := (Option.bind_some _ _).symm.trans H; with_reducible exact H2_) | with_reducible exact H | (rw [hy103]; exact H) | exact H
      have Ny103 := Aside0.mk hy103
      clear hy103
      have H' := Aside0.mk H
      clear H
      go_enter Tryd.func110, Tryd.ntmps110
      go_wp2_with (first | ((with_reducible refine gate_callee (f := 116) rfl ?_); refine goesL_ (some 7) rfl rfl Tryd.func116 (by kernel_rfl) rfl #[.int .u64 a0] rfl (by (try simp only [List.map_toArray, List.map_cons, List.map_nil]); first | done | rfl | (simp only [List.length_drop, List.length_take]; rfl)) ?_; (with_reducible refine (asn1ber_uint64Length.calls k a0 t102 _ A2.out).mono ?_); rintro e w' ⟨rfl, ⟨nd, rfl⟩⟩; refine ⟨_, rfl, ?_⟩) | ((with_reducible refine gate_dst (N := 9) rfl ?_); refine Kd.R_make (Kd.int .u8) _ 5 rfl (N := 9) rfl 24 _ _ rfl t102 rfl rfl Tryd.underlying24 (.int .u8 0) 1 info5 rfl (by decide) (by omega) 0 (ok := fun _ => True) (okp := fun _ => True) rfl (fun _ hk => hk) trivial (of_decide_eq_true (by first | (with_reducible assumption) | assumption)) (Nat.le_trans (Nat.mul_le_mul_right _ (of_decide_eq_true (by first | (with_reducible assumption) | assumption) : t102.toNat ≤ 281474976710656)) (by omega)) (Below.refl _ _) (Nat.le_refl _) ?_; intro v104 w5 ho6 hb hg_ hnew_; clear hg_ hnew_; (first | rw [← Ny103.out] at ho6 | (simp only [Int.reduceToNat] at ho6; rw [← Ny103.out] at ho6)); have n0_ := Aside0.mk (Kd.R_lower ho6 (below_size (by repeat (first | (with_reducible first | exact HB.out | apply below_alloc | apply pw_below_drewN | apply below_drew1) | exact HB.out)))); have n1_ := Aside0.mk (below_step (by repeat (first | (with_reducible first | exact HB.out | apply below_alloc | apply pw_below_drewN | apply below_drew1) | exact HB.out)) hb); clear HB; have HO105 := n0_; have HB := n1_; clear n0_ n1_; clear hb ho6))
      go_loopg [3, 5] k (fun kq v3 v5 w' => ∃ (x3_1 : Int) (x4_1 : List Int) (x5_1 : Int), v3 = .int .i64 x3_1 ∧ v5 = .int .i64 x5_1 ∧ Aside0 (asn1ber_encodeUnsignedInteger.l0 kq a0 x3_1 x4_1 x5_1 = some r) ∧ Aside0 (kq ≤ k) ∧ Aside0 (Kd.R (Kd.int .u8) 5 w' w.heap.size (fun _ => True) v104 x4_1) ∧ Aside0 (Below w.heap.size w w'))
      case atStart => exact ⟨(t102), (y103), (0), (by first | rfl | (simp; done) | (simp [*]; done)), (by first | rfl | (simp; done) | (simp [*]; done)), H', ⟨Nat.le_refl _⟩, ⟨by (with_reducible repeat (first | apply Kd.R_alloc | apply Kd.R_drewN | apply Kd.R_drew)); exact HO105.out⟩, ⟨by repeat (first | (with_reducible first | exact HB.out | apply below_alloc | apply pw_below_drewN | apply below_drew1) | exact HB.out)⟩⟩
      case round =>
        clear H'
        try clear c1
        try clear p2
        try clear c3
        try clear c3b0
        try clear c3b1
        try clear c4
        try clear c4b0
        try clear c4b1
        obtain ⟨x3_1, x4_1, x5_1, rfl, rfl, HA, HK1, HO_4, HB⟩ := hrel
        cases gk with
        | zero => exact absurd HA.out (by simp [asn1ber_encodeUnsignedInteger.l0])
        | succ k1 =>
          have H := HA.out
          clear HA
          simp only [asn1ber_encodeUnsignedInteger.l0] at H
          by_cases c7 : x3_1 > 0
          · rw [if_pos c7] at H
            have c7b0 : decide (0 < x3_1) = true := decide_eq_true c7
            clear c7
            obtain ⟨ji8, hji8⟩ : ∃ j_ : Int, (IntKind.u64.wrap (wrap64 ((wrap64 (x3_1 - 1)) * 8))) = j_ := ⟨_, rfl⟩
            replace H : (if 0 ≤ (ji8) then (if 0 ≤ x5_1 then (if x5_1 < (x4_1.length : Int) then (asn1ber_encodeUnsignedInteger.l0 k1 a0 (wrap64 (x3_1 - 1)) (x4_1.set (x5_1 : Int).toNat ((shr .u64 a0 (ji8)) % 256)) (wrap64 (x5_1 + 1))) else (none)) else (none)) else (none)) = some r := by first | (rw [hji8] at H; exact H) | (simp only [hji8] at H ⊢; exact H)
            by_cases c9 : 0 ≤ (ji8)
            · rw [if_pos c9] at H
              have c9b0 := eq_true c9
              have c9b1 : decide (0 ≤ (ji8)) = true := decide_eq_true c9
              clear c9
              obtain ⟨ji10, hji10⟩ : ∃ j_ : Int, (shr .u64 a0 (ji8)) = j_ := ⟨_, rfl⟩
              replace H : (if 0 ≤ x5_1 then (if x5_1 < (x4_1.length : Int) then (asn1ber_encodeUnsignedInteger.l0 k1 a0 (wrap64 (x3_1 - 1)) (x4_1.set (x5_1 : Int).toNat ((ji10) % 256)) (wrap64 (x5_1 + 1))) else (none)) else (none)) = some r := by first | (rw [hji10] at H; exact H) | (simp only [hji10] at H ⊢; exact H)
              have hji10_ : (a0 / 2 ^ min (ji8).toNat 64) = ji10 := hji10
              have hji10z : (ji8) ≤ 64 → (a0 / 2 ^ (ji8).toNat) = ji10 := shr_small hji10
              by_cases c11 : 0 ≤ x5_1
              · rw [if_pos c11] at H
                have c11b0 : decide (0 ≤ x5_1) = true := decide_eq_true c11
                clear c11
                by_cases c12 : x5_1 < (x4_1.length : Int)
                · rw [if_pos c12] at H
                  have c12b0 : decide (x5_1 < (x4_1.length : Int)) = true := decide_eq_true c12
                  clear c12
                  obtain ⟨y106, hy106⟩ : ∃ y_ : List Int, y_ = (x4_1.set (x5_1 : Int).toNat ((ji10) % 256)) := ⟨_, rfl⟩
                  replace H : (asn1ber_encodeUnsignedInteger.l0 k1 a0 (wrap64 (x3_1 - 1)) y106 (wrap64 (x5_1 + 1))) = some r := by first | (rw [hy106]; with_reducible exact H) | (have H2_ := (Option.bind_some _ _).symm.trans H; rw [hy106]; with_reducible exact H2_) | (have H2_ := (Option.bind_some _ _).symm.trans H; with_reducible exact H2_) | with_reducible exact H | (rw [hy106]; exact H) | exact H
                  have Ny106 := Aside0.mk hy106
                  clear hy106
                  have H' := Aside0.mk H
                  clear H
                  have p13 : 0 ≤ (x5_1 : Int) := of_decide_eq_true (by first | (with_reducible assumption) | assumption)
                  have q13 : (x5_1 : Int) < ((x4_1.length : Int) : Int) := of_decide_eq_true (by first | (with_reducible assumption) | assumption)
                  obtain ⟨go13, co13, eo13, gb13, gl13, cl13, HG13⟩ := Kd.R_form HO_4.out (by omega)
                  (first | cases eo13 | (injection eo13 with ea_ en_ ec_; (first | subst ea_ | (injection ea_ with ea_; subst ea_)); subst ec_; clear en_))
                  have GB13 := Aside0.mk gb13
                  have GG13 := Aside0.mk HG13
                  clear gb13 gl13 HG13
                  obtain ⟨hx13_0, hf13_0⟩ := Kd.R_celln 0 HO_4.out (x5_1 : Int) p13 q13
                  replace p13 := eq_true p13
                  replace q13 := eq_true q13
                  have HP14 := Kd.R_putg HO_4.out (x5_1 : Int) ((ji10) % 256)
                  go_wp2_with (first | ((with_reducible refine gate_store (t := 5) (p := 23) rfl ?_); refine store_event (t := 5) (p := 23) (v := ?vo_w15) (w1 := (wr.setCell ⟨go13, (x5_1 : Int).toNat, none⟩ (.int .u8 ((ji10) % 256)))) ?hg ?ho ?hn ?hr ?_; (case ho => rfl); (case hg => rfl); (case hn => rfl); (case hr => first | (go_simp; done) | (go_simp; rfl)); intro w15 hw; have hg : wr.grownBy w15 (some go13) := (by rw [hw]; exact HP14.2); have hp_ : Kd.R (Kd.int .u8) 5 w15 w.heap.size (fun _ => True) (.slice (some ⟨go13, 0, none⟩) x4_1.length co13) y106 := (by rw [hw, Ny106.out]; exact HP14.1); clear HP14; have n0_ := Aside0.mk (hp_); have n1_ := Aside0.mk ((by rw [hw]; exact below_set (HB.out) GB13.out : Below w.heap.size w w15)); clear HO_4; clear HB; have HO_4 := n0_; have HB := n1_; clear n0_ n1_; clear hg hw hp_))
                  go_roundg k1
                  case measure => have := HK1.out; omega
                  case rel => exact ⟨(wrap64 (x3_1 - 1)), (y106), (wrap64 (x5_1 + 1)), (by first | rfl | (simp; done) | (simp [*]; done)), (by first | rfl | (simp; done) | (simp [*]; done)), H', ⟨by have := HK1.out; omega⟩, ⟨by (with_reducible repeat (first | apply Kd.R_alloc | apply Kd.R_drewN | apply Kd.R_drew)); exact HO_4.out⟩, ⟨by repeat (first | (with_reducible first | exact HB.out | apply below_alloc | apply pw_below_drewN | apply below_drew1) | exact HB.out)⟩⟩
                · rw [if_neg c12] at H
                  exact absurd H (by simp)
              · rw [if_neg c11] at H
                exact absurd H (by simp)
            · rw [if_neg c9] at H
              exact absurd H (by simp)
          · rw [if_neg c7] at H
            have c7b0 : decide (0 < x3_1) = false := decide_eq_false c7
            clear c7
            obtain rfl := Option.some.inj H
            go_wp2
            go_ret
            exact ⟨_, by first | rfl | (simp [errW_none, errW_some] <;> rfl) | (simp [*, errW_none, errW_some] <;> rfl), by (with_reducible repeat (first | apply Kd.R_alloc | apply Kd.R_drewN | apply Kd.R_drew)); exact HO_4.out, by repeat (first | (with_reducible first | exact HB.out | apply below_alloc | apply pw_below_drewN | apply below_drew1) | exact HB.out)⟩
    · rw [if_neg c4] at H
      exact absurd H (by simp)
  · rw [if_neg c3] at H
    exact absurd H (by simp)

/-! ### asn1ber_encodeLength: function 105 -/
def asn1ber_encodeLength.f (k : Nat) (a0 : Int) : Option (List Int) := (asn1ber_encodeUnsignedInteger.f k (IntKind.u64.wrap (a0))).bind fun t107 => (if a0 > 127 then ((some (([Go.bits .or .u8 128 (((t107.length : Int)) % 256)] : List Int) : List Int)).bind fun y110 => (if y110.length + t107.length < 140737488355328 then (some (y110 ++ t107)) else (none))) else (if (t107.length : Int) > 1 then ((some (([Go.bits .or .u8 128 (((t107.length : Int)) % 256)] : List Int) : List Int)).bind fun y116 => (if y116.length + t107.length < 140737488355328 then (some (y116 ++ t107)) else (none))) else (some t107)))
set_option maxHeartbeats 8000000 in
set_option maxRecDepth 100000 in
theorem asn1ber_encodeLength.calls (k : Nat) (a0 : Int) (r : List Int) (w : World) (h : asn1ber_encodeLength.f k a0 = some r) :
    Calls Tryd.prog 105 #[.int .i64 a0] w fun e w' => ∃ v0_ : Value, e = .returned (v0_) ∧ Kd.R (Kd.int .u8) 5 w' w.heap.size (fun _ => True) v0_ r ∧ Below w.heap.size w w' := by
  have HB := Aside0.mk (Below.refl w.heap.size w)
  have H : ((asn1ber_encodeUnsignedInteger.f k (IntKind.u64.wrap (a0))).bind fun t107 => (if a0 > 127 then ((some (([Go.bits .or .u8 128 (((t107.length : Int)) % 256)] : List Int) : List Int)).bind fun y110 => (if y110.length + t107.length < 140737488355328 then (some (y110 ++ t107)) else (none))) else (if (t107.length : Int) > 1 then ((some (([Go.bits .or .u8 128 (((t107.length : Int)) % 256)] : List Int) : List Int)).bind fun y116 => (if y116.length + t107.length < 140737488355328 then (some (y116 ++ t107)) else (none))) else (some t107)))) = some r := h
  clear h
  replace H := Option.bind_eq_some_iff.mp H
  obtain ⟨t107, A20, H⟩ := H
  replace H : (if a0 > 127 then ((some (([Go.bits .or .u8 128 (((t107.length : Int)) % 256)] : List Int) : List Int)).bind fun y110 => (if y110.length + t107.length < 140737488355328 then (some (y110 ++ t107)) else (none))) else (if (t107.length : Int) > 1 then ((some (([Go.bits .or .u8 128 (((t107.length : Int)) % 256)] : List Int) : List Int)).bind fun y116 => (if y116.length + t107.length < 140737488355328 then (some (y116 ++ t107)) else (none))) else (some t107))) = some r := H
  have A2 := Aside0.mk A20
  clear A20
  by_cases c3 : a0 > 127
  · rw [if_pos c3] at H
    have c3b0 : decide (127 < a0) = true := decide_eq_true c3
    clear c3
    obtain ⟨y110, hy110⟩ : ∃ y_ : List Int, y_ = (([Go.bits .or .u8 128 (((t107.length : Int)) % 256)] : List Int)) := ⟨_, rfl⟩
    replace H : (if y110.length + t107.length < 140737488355328 then (some (y110 ++ t107)) else (none)) = some r := by first | (rw [hy110]; with_reducible exact H) | (have H2_ := (Option.bind_some _ _).symm.trans H; rw [hy110]; with_reducible exact H2_) | (have H2_ := (Option.bind_some _ _).symm.trans H; with_reducible exact H2_) | with_reducible exact H | (rw [hy110]; exact H) | exact H
    have Ny110 := Aside0.mk hy110
    clear hy110
    by_cases c4 : y110.length + t107.length < 140737488355328
    · rw [if_pos c4] at H
      have LMc4 := Aside0.mk c4
      clear c4
      obtain ⟨y113, hy113⟩ : ∃ y_ : List Int, y_ = (y110 ++ t107) := ⟨_, rfl⟩
      replace H : (some y113) = some r := by first | (rw [hy113]; with_reducible exact H) | (have H2_ := (Option.bind_some _ _).symm.trans H; rw [hy113]; with_reducible exact H2_) | (have H2_ := (Option.bind_some _ _).symm.trans H; with_reducible exact H2_) | with_reducible exact H | (rw [hy113]; exact H) | exact H
      have Ny113 := Aside0.mk hy113
      clear hy113
      obtain rfl := Option.some.inj H
      go_enter Tryd.func105, Tryd.ntmps105
      go_wp2_with (first | ((with_reducible refine gate_callee (f := 110) rfl ?_); refine goesL_ (some 7) rfl rfl Tryd.func110 (by kernel_rfl) rfl #[.int .u64 (IntKind.u64.wrap (a0))] rfl (by (try simp only [List.map_toArray, List.map_cons, List.map_nil]); first | done | rfl | (simp only [List.length_drop, List.length_take]; rfl)) ?_; (with_reducible refine (asn1ber_encodeUnsignedInteger.calls k (IntKind.u64.wrap (a0)) t107 _ A2.out).mono ?_); rintro e w5 ⟨v108, rfl, ho0, hb⟩; refine ⟨_, rfl, ?_⟩; have n0_ := Aside0.mk (Kd.R_lower ho0 (below_size (by repeat (first | (with_reducible first | exact HB.out | apply below_alloc | apply pw_below_drewN | apply below_drew1) | exact HB.out)))); have n1_ := Aside0.mk (below_step (by repeat (first | (with_reducible first | exact HB.out | apply below_alloc | apply pw_below_drewN | apply below_drew1) | exact HB.out)) hb); clear HB; have HO109 := n0_; have HB := n1_; clear n0_ n1_; (try clear hb); (try clear hb2); (try clear hk); (try clear hi); (try clear ho0); obtain ⟨Ao6, co6, eo6⟩ := Kd.R_slice HO109.out; subst eo6) | ((with_reducible refine gate_dst (N := 19) rfl ?_); (try (refine gate_guard (by rfl) ?_; dsimp only)); refine Kd.R_lit (Kd.int .u8) _ 5 ?hg (N := 19) ?hd (xs := ([Go.bits .or .u8 128 (((t107.length : Int)) % 256)] : List Int)) (inner := [.int .u8 (Go.bits .or .u8 128 (((t107.length : Int)) % 256))]) (ok := fun _ => True) (okp := fun _ => True) ?hr ?hp (fun _ hk => hk) trivial (Below.refl _ _) (Nat.le_refl _) (by simp) ?_; (case hd => rfl); (case hg => rfl); (case hr => first | (go_simp; done) | (go_simp; rfl)); (case hp => exact (Reps.one (show Kd.M (Kd.int .u8) _ _ _ (Go.bits .or .u8 128 (((t107.length : Int)) % 256)) [.int .u8 (Go.bits .or .u8 128 (((t107.length : Int)) % 256))] from rfl) (Reps.none _ _))); intro v111 w7 ho8 hb hg_ hnew_; clear hg_ hnew_; (first | rw [← Ny110.out] at ho8 | (simp only [Int.reduceToNat] at ho8; rw [← Ny110.out] at ho8)); have n0_ := Aside0.mk (Kd.R_elder' (by (with_reducible repeat (first | apply Kd.R_alloc | apply Kd.R_drewN | apply Kd.R_drew)); exact HO109.out) (Kd.R_base ho8) hb); have n1_ := Aside0.mk (Kd.R_lower (Kd.R_new' ho8 (Kd.R_lt (by (with_reducible repeat (first | apply Kd.R_alloc | apply Kd.R_drewN | apply Kd.R_drew)); exact HO109.out))) (below_size (by repeat (first | (with_reducible first | exact HB.out | apply below_alloc | apply pw_below_drewN | apply below_drew1) | exact HB.out)))); have n2_ := Aside0.mk (below_step (by repeat (first | (with_reducible first | exact HB.out | apply below_alloc | apply pw_below_drewN | apply below_drew1) | exact HB.out)) hb); clear HO109; clear HB; have HO109 := n0_; have HO112 := n1_; have HB := n2_; clear n0_ n1_ n2_; clear hb ho8) | ((with_reducible refine gate_builtin (b := .append) (xs := #[.tmp 20, .tmp 21]) rfl ?_); (try (refine gate_guard (by rfl) ?_; dsimp only)); at_builtin; refine Kd.R_append_rows (Kd.int .u8) (w0 := w) w.heap.size rfl (.tmp 20) (.tmp 21) 24 5 (.int .u8 0) 1 rfl Tryd.underlying24 info5 rfl (by decide) (by omega) v111 y110 t107 _ _ _ (fun k_ => some k_ ≠ (.slice Ao6 t107.length co6 : Value).ownBlock) (fun _ => False) rfl rfl ?aO ?aR (fun _ _ h => h) (fun _ h => h.elim) ?aF ?aB ?aS ?aL ?_; (case aR => repeat (first | exact (Kd.R_reads' HO109.out).2.2 | (with_reducible refine Kd.C_alloc ?_ _) | (with_reducible refine Kd.C_drewN ?_ _) | (with_reducible refine Kd.C_drew ?_))); (case aB => exact (by repeat (first | (with_reducible first | exact HB.out | apply below_alloc | apply pw_below_drewN | apply below_drew1) | exact HB.out))); (case aF => exact (fun k_ hk => Kd.fresh' (Kd.R_lt (by (with_reducible repeat (first | apply Kd.R_alloc | apply Kd.R_drewN | apply Kd.R_drew)); exact HO109.out)) k_ hk)); (case aO => exact (by (with_reducible repeat (first | apply Kd.R_alloc | apply Kd.R_drewN | apply Kd.R_drew)); exact Kd.R_mono HO112.out (fun _ hk => hk.2))); (case aS => exact (below_size (by repeat (first | (with_reducible first | exact HB.out | apply below_alloc | apply pw_below_drewN | apply below_drew1) | exact HB.out)))); (case aL => have := LMc4.out; omega); intro v114 w9 ho hb hg hat; rw [← Ny113.out] at ho; have n0_ := Aside0.mk (Kd.R_after (ok := (fun _ => True)) (by (with_reducible repeat (first | apply Kd.R_alloc | apply Kd.R_drewN | apply Kd.R_drew)); exact HO109.out) hg hat); have n1_ := Aside0.mk (hb); have n2_ := Aside0.mk (ho); clear HO109; clear HB; clear HO112; have HO109 := n0_; have HB := n1_; have HO115 := n2_; clear n0_ n1_ n2_; clear ho hb hg hat))
      go_ret
      exact ⟨_, by first | rfl | (simp [errW_none, errW_some] <;> rfl) | (simp [*, errW_none, errW_some] <;> rfl), by (with_reducible repeat (first | apply Kd.R_alloc | apply Kd.R_drewN | apply Kd.R_drew)); exact Kd.R_mono HO115.out (fun _ hk => trivial), by repeat (first | (with_reducible first | exact HB.out | apply below_alloc | apply pw_below_drewN | apply below_drew1) | exact HB.out)⟩
    · rw [if_neg c4] at H
      exact absurd H (by simp)
  · rw [if_neg c3] at H
    have c3b0 : decide (127 < a0) = false := decide_eq_false c3
    clear c3
    by_cases c10 : (t107.length : Int) > 1
    · rw [if_pos c10] at H
      have c10b0 : decide (1 < (t107.length : Int)) = true := decide_eq_true c10
      have c10b1 : decide (1 < t107.length) = true := decide_eq_true (by omega)
      clear c10
      obtain ⟨y116, hy116⟩ : ∃ y_ : List Int, y_ = (([Go.bits .or .u8 128 (((t107.length : Int)) % 256)] : List Int)) := ⟨_, rfl⟩
      replace H : (if y116.length + t107.length < 140737488355328 then (some (y116 ++ t107)) else (none)) = some r := by first | (rw [hy116]; with_reducible exact H) | (have H2_ := (Option.bind_some _ _).symm.trans H; rw [hy116]; with_reducible exact H2_) | (have H2_ := (Option.bind_some _ _).symm.trans H; with_reducible exact H2_) | with_reducible exact H | (rw [hy116]; exact H) | exact H
      have Ny116 := Aside0.mk hy116
      clear hy116
      by_cases c11 : y116.length + t107.length < 140737488355328
      · rw [if_pos c11] at H
        have LMc11 := Aside0.mk c11
        clear c11
        obtain ⟨y119, hy119⟩ : ∃ y_ : List Int, y_ = (y116 ++ t107) := ⟨_, rfl⟩
        replace H : (some y119) = some r := by first | (rw [hy119]; with_reducible exact H) | (have H2_ := (Option.bind_some _ _).symm.trans H; rw [hy119]; with_reducible exact H2_) | (have H2_ := (Option.bind_some _ _).symm.trans H; with_reducible exact H2_) | with_reducible exact H | (rw [hy119]; exact H) | exact H
        have Ny119 := Aside0.mk hy119
        clear hy119
        obtain rfl := Option.some.inj H
        go_enter Tryd.func105, Tryd.ntmps105
        go_wp2_with (first | ((with_reducible refine gate_callee (f := 110) rfl ?_); refine goesL_ (some 7) rfl rfl Tryd.func110 (by kernel_rfl) rfl #[.int .u64 (IntKind.u64.wrap (a0))] rfl (by (try simp only [List.map_toArray, List.map_cons, List.map_nil]); first | done | rfl | (simp only [List.length_drop, List.length_take]; rfl)) ?_; (with_reducible refine (asn1ber_encodeUnsignedInteger.calls k (IntKind.u64.wrap (a0)) t107 _ A2.out).mono ?_); rintro e w12 ⟨v108, rfl, ho0, hb⟩; refine ⟨_, rfl, ?_⟩; have n0_ := Aside0.mk (Kd.R_lower ho0 (below_size (by repeat (first | (with_reducible first | exact HB.out | apply below_alloc | apply pw_below_drewN | apply below_drew1) | exact HB.out)))); have n1_ := Aside0.mk (below_step (by repeat (first | (with_reducible first | exact HB.out | apply below_alloc | apply pw_below_drewN | apply below_drew1) | exact HB.out)) hb); clear HB; have HO109 := n0_; have HB := n1_; clear n0_ n1_; (try clear hb); (try clear hb2); (try clear hk); (try clear hi); (try clear ho0); obtain ⟨Ao13, co13, eo13⟩ := Kd.R_slice HO109.out; subst eo13) | ((with_reducible refine gate_dst (N := 19) rfl ?_); (try (refine gate_guard (by rfl) ?_; dsimp only)); refine Kd.R_lit (Kd.int .u8) _ 5 ?hg (N := 19) ?hd (xs := ([Go.bits .or .u8 128 (((t107.length : Int)) % 256)] : List Int)) (inner := [.int .u8 (Go.bits .or .u8 128 (((t107.length : Int)) % 256))]) (ok := fun _ => True) (okp := fun _ => True) ?hr ?hp (fun _ hk => hk) trivial (Below.refl _ _) (Nat.le_refl _) (by simp) ?_; (case hd => rfl); (case hg => rfl); (case hr => first | (go_simp; done) | (go_simp; rfl)); (case hp => exact (Reps.one (show Kd.M (Kd.int .u8) _ _ _ (Go.bits .or .u8 128 (((t107.length : Int)) % 256)) [.int .u8 (Go.bits .or .u8 128 (((t107.length : Int)) % 256))] from rfl) (Reps.none _ _))); intro v117 w14 ho15 hb hg_ hnew_; clear hg_ hnew_; (first | rw [← Ny116.out] at ho15 | (simp only [Int.reduceToNat] at ho15; rw [← Ny116.out] at ho15)); have n0_ := Aside0.mk (Kd.R_elder' (by (with_reducible repeat (first | apply Kd.R_alloc | apply Kd.R_drewN | apply Kd.R_drew)); exact HO109.out) (Kd.R_base ho15) hb); have n1_ := Aside0.mk (Kd.R_lower (Kd.R_new' ho15 (Kd.R_lt (by (with_reducible repeat (first | apply Kd.R_alloc | apply Kd.R_drewN | apply Kd.R_drew)); exact HO109.out))) (below_size (by repeat (first | (with_reducible first | exact HB.out | apply below_alloc | apply pw_below_drewN | apply below_drew1) | exact HB.out)))); have n2_ := Aside0.mk (below_step (by repeat (first | (with_reducible first | exact HB.out | apply below_alloc | apply pw_below_drewN | apply below_drew1) | exact HB.out)) hb); clear HO109; clear HB; have HO109 := n0_; have HO118 := n1_; have HB := n2_; clear n0_ n1_ n2_; clear hb ho15) | ((with_reducible refine gate_builtin (b := .append) (xs := #[.tmp 20, .tmp 21]) rfl ?_); (try (refine gate_guard (by rfl) ?_; dsimp only)); at_builtin; refine Kd.R_append_rows (Kd.int .u8) (w0 := w) w.heap.size rfl (.tmp 20) (.tmp 21) 24 5 (.int .u8 0) 1 rfl Tryd.underlying24 info5 rfl (by decide) (by omega) v117 y116 t107 _ _ _ (fun k_ => some k_ ≠ (.slice Ao13 t107.length co13 : Value).ownBlock) (fun _ => False) rfl rfl ?aO ?aR (fun _ _ h => h) (fun _ h => h.elim) ?aF ?aB ?aS ?aL ?_; (case aR => repeat (first | exact (Kd.R_reads' HO109.out).2.2 | (with_reducible refine Kd.C_alloc ?_ _) | (with_reducible refine Kd.C_drewN ?_ _) | (with_reducible refine Kd.C_drew ?_))); (case aB => exact (by repeat (first | (with_reducible first | exact HB.out | apply below_alloc | apply pw_below_drewN | apply below_drew1) | exact HB.out))); (case aF => exact (fun k_ hk => Kd.fresh' (Kd.R_lt (by (with_reducible repeat (first | apply Kd.R_alloc | apply Kd.R_drewN | apply Kd.R_drew)); exact HO109.out)) k_ hk)); (case aO => exact (by (with_reducible repeat (first | apply Kd.R_alloc | apply Kd.R_drewN | apply Kd.R_drew)); exact Kd.R_mono HO118.out (fun _ hk => hk.2))); (case aS => exact (below_size (by repeat (first | (with_reducible first | exact HB.out | apply below_alloc | apply pw_below_drewN | apply below_drew1) | exact HB.out)))); (case aL => have := LMc11.out; omega); intro v120 w16 ho hb hg hat; rw [← Ny119.out] at ho; have n0_ := Aside0.mk (Kd.R_after (ok := (fun _ => True)) (by (with_reducible repeat (first | apply Kd.R_alloc | apply Kd.R_drewN | apply Kd.R_drew)); exact HO109.out) hg hat); have n1_ := Aside0.mk (hb); have n2_ := Aside0.mk (ho); clear HO109; clear HB; clear HO118; have HO109 := n0_; have HB := n1_; have HO121 := n2_; clear n0_ n1_ n2_; clear ho hb hg hat))
        go_ret
        exact ⟨_, by first | rfl | (simp [errW_none, errW_some] <;> rfl) | (simp [*, errW_none, errW_some] <;> rfl), by (with_reducible repeat (first | apply Kd.R_alloc | apply Kd.R_drewN | apply Kd.R_drew)); exact Kd.R_mono HO121.out (fun _ hk => trivial), by repeat (first | (with_reducible first | exact HB.out | apply below_alloc | apply pw_below_drewN | apply below_drew1) | exact HB.out)⟩
      · rw [if_neg c11] at H
        exact absurd H (by simp)
    · rw [if_neg c10] at H
      have c10b0 : decide (1 < (t107.length : Int)) = false := decide_eq_false c10
      have c10b1 : decide (1 < t107.length) = false := decide_eq_false (by omega)
      clear c10
      obtain rfl := Option.some.inj H
      go_enter Tryd.func105, Tryd.ntmps105
      go_wp2_with (first | ((with_reducible refine gate_callee (f := 110) rfl ?_); refine goesL_ (some 7) rfl rfl Tryd.func110 (by kernel_rfl) rfl #[.int .u64 (IntKind.u64.wrap (a0))] rfl (by (try simp only [List.map_toArray, List.map_cons, List.map_nil]); first | done | rfl | (simp only [List.length_drop, List.length_take]; rfl)) ?_; (with_reducible refine (asn1ber_encodeUnsignedInteger.calls k (IntKind.u64.wrap (a0)) t107 _ A2.out).mono ?_); rintro e w17 ⟨v108, rfl, ho0, hb⟩; refine ⟨_, rfl, ?_⟩; have n0_ := Aside0.mk (Kd.R_lower ho0 (below_size (by repeat (first | (with_reducible first | exact HB.out | apply below_alloc | apply pw_below_drewN | apply below_drew1) | exact HB.out)))); have n1_ := Aside0.mk (below_step (by repeat (first | (with_reducible first | exact HB.out | apply below_alloc | apply pw_below_drewN | apply below_drew1) | exact HB.out)) hb); clear HB; have HO109 := n0_; have HB := n1_; clear n0_ n1_; (try clear hb); (try clear hb2); (try clear hk); (try clear hi); (try clear ho0); obtain ⟨Ao18, co18, eo18⟩ := Kd.R_slice HO109.out; subst eo18))
      go_ret
      exact ⟨_, by first | rfl | (simp [errW_none, errW_some] <;> rfl) | (simp [*, errW_none, errW_some] <;> rfl), by (with_reducible repeat (first | apply Kd.R_alloc | apply Kd.R_drewN | apply Kd.R_drew)); exact HO109.out, by repeat (first | (with_reducible first | exact HB.out | apply below_alloc | apply pw_below_drewN | apply below_drew1) | exact HB.out)⟩

/-! ### asn1ber_LengthBytes: function 83 -/
def asn1ber_LengthBytes.f (k : Nat) (a0 : Int) : Option (List Int) := (asn1ber_encodeLength.f k a0).bind fun t122 => (some t122)
set_option maxHeartbeats 8000000 in
set_option maxRecDepth 100000 in
theorem asn1ber_LengthBytes.calls (k : Nat) (a0 : Int) (r : List Int) (w : World) (h : asn1ber_LengthBytes.f k a0 = some r) :
    Calls Tryd.prog 83 #[.int .i64 a0] w fun e w' => ∃ v0_ : Value, e = .returned (v0_) ∧ Kd.R (Kd.int .u8) 5 w' w.heap.size (fun _ => True) v0_ r ∧ Below w.heap.size w w' := by
  have HB := Aside0.mk (Below.refl w.heap.size w)
  have H : ((asn1ber_encodeLength.f k a0).bind fun t122 => (some t122)) = some r := h
  clear h
  replace H := Option.bind_eq_some_iff.mp H
  obtain ⟨t122, A20, H⟩ := H
  replace H : (some t122) = some r := H
  have A2 := Aside0.mk A20
  clear A20
  obtain rfl := Option.some.inj H
  go_enter Tryd.func83, Tryd.ntmps83
  go_wp2_with (first | ((with_reducible refine gate_callee (f := 105) rfl ?_); refine goesL_ (some 4) rfl rfl Tryd.func105 (by kernel_rfl) rfl #[.int .i64 a0] rfl (by (try simp only [List.map_toArray, List.map_cons, List.map_nil]); first | done | rfl | (simp only [List.length_drop, List.length_take]; rfl)) ?_; (with_reducible refine (asn1ber_encodeLength.calls k a0 t122 _ A2.out).mono ?_); rintro e w3 ⟨v123, rfl, ho0, hb⟩; refine ⟨_, rfl, ?_⟩; have n0_ := Aside0.mk (Kd.R_lower ho0 (below_size (by repeat (first | (with_reducible first | exact HB.out | apply below_alloc | apply pw_below_drewN | apply below_drew1) | exact HB.out)))); have n1_ := Aside0.mk (below_step (by repeat (first | (with_reducible first | exact HB.out | apply below_alloc | apply pw_below_drewN | apply below_drew1) | exact HB.out)) hb); clear HB; have HO124 := n0_; have HB := n1_; clear n0_ n1_; (try clear hb); (try clear hb2); (try clear hk); (try clear hi); (try clear ho0)))
  go_ret
  exact ⟨_, by first | rfl | (simp [errW_none, errW_some] <;> rfl) | (simp [*, errW_none, errW_some] <;> rfl), by (with_reducible repeat (first | apply Kd.R_alloc | apply Kd.R_drewN | apply Kd.R_drew)); exact HO124.out, by repeat (first | (with_reducible first | exact HB.out | apply below_alloc | apply pw_below_drewN | apply below_drew1) | exact HB.out)⟩

/-! ### impl_EncodeLength: function 42 -/
def impl_EncodeLength.f (k : Nat) (a0 : Int) : Option (List Int) := (asn1ber_LengthBytes.f k a0).bind fun t125 => (some t125)
set_option maxHeartbeats 8000000 in
set_option maxRecDepth 100000 in
theorem impl_EncodeLength.calls (k : Nat) (a0 : Int) (r : List Int) (w : World) (h : impl_EncodeLength.f k a0 = some r) :
    Calls Tryd.prog 42 #[.int .i64 a0] w fun e w' => ∃ v0_ : Value, e = .returned (v0_) ∧ Kd.R (Kd.int .u8) 5 w' w.heap.size (fun _ => True) v0_ r ∧ Below w.heap.size w w' := by
  have HB := Aside0.mk (Below.refl w.heap.size w)
  have H : ((asn1ber_LengthBytes.f k a0).bind fun t125 => (some t125)) = some r := h
  clear h
  replace H := Option.bind_eq_some_iff.mp H
  obtain ⟨t125, A20, H⟩ := H
  replace H : (some t125) = some r := H
  have A2 := Aside0.mk A20
  clear A20
  obtain rfl := Option.some.inj H
  go_enter Tryd.func42, Tryd.ntmps42
  go_wp2_with (first | ((with_reducible refine gate_callee (f := 83) rfl ?_); refine goesL_ (some 4) rfl rfl Tryd.func83 (by kernel_rfl) rfl #[.int .i64 a0] rfl (by (try simp only [List.map_toArray, List.map_cons, List.map_nil]); first | done | rfl | (simp only [List.length_drop, List.length_take]; rfl)) ?_; (with_reducible refine (asn1ber_LengthBytes.calls k a0 t125 _ A2.out).mono ?_); rintro e w3 ⟨v126, rfl, ho0, hb⟩; refine ⟨_, rfl, ?_⟩; have n0_ := Aside0.mk (Kd.R_lower ho0 (below_size (by repeat (first | (with_reducible first | exact HB.out | apply below_alloc | apply pw_below_drewN | apply below_drew1) | exact HB.out)))); have n1_ := Aside0.mk (below_step (by repeat (first | (with_reducible first | exact HB.out | apply below_alloc | apply pw_below_drewN | apply below_drew1) | exact HB.out)) hb); clear HB; have HO127 := n0_; have HB := n1_; clear n0_ n1_; (try clear hb); (try clear hb2); (try clear hk); (try clear hi); (try clear ho0)))
  go_ret
  exact ⟨_, by first | rfl | (simp [errW_none, errW_some] <;> rfl) | (simp [*, errW_none, errW_some] <;> rfl), by (with_reducible repeat (first | apply Kd.R_alloc | apply Kd.R_drewN | apply Kd.R_drew)); exact HO127.out, by repeat (first | (with_reducible first | exact HB.out | apply below_alloc | apply pw_below_drewN | apply below_drew1) | exact HB.out)⟩

/-! ### laws_works: function 11 -/
def laws_works.f (k : Nat)  : Option (Bool) := (impl_EncodeLength.f k 5).bind fun t128 => (some ((strOfNums t128).toList == ([5] : List UInt8)))
set_option maxHeartbeats 8000000 in
set_option maxRecDepth 100000 in
theorem laws_works.calls (k : Nat)  (r : Bool) (w : World) (h : laws_works.f k  = some r) :
    Calls Tryd.prog 11 #[] w fun e w' => e = .returned (.bool r) ∧ Below w.heap.size w w' := by
  have HB := Aside0.mk (Below.refl w.heap.size w)
  have H : ((impl_EncodeLength.f k 5).bind fun t128 => (some ((strOfNums t128).toList == ([5] : List UInt8)))) = some r := h
  clear h
  replace H := Option.bind_eq_some_iff.mp H
  obtain ⟨t128, A10, H⟩ := H
  replace H : (some ((strOfNums t128).toList == ([5] : List UInt8))) = some r := H
  have A1 := Aside0.mk A10
  clear A10
  obtain rfl := Option.some.inj H
  go_enter Tryd.func11, Tryd.ntmps11
  go_wp2_with (first | ((with_reducible refine gate_callee (f := 42) rfl ?_); refine goesL_ (some 1) rfl rfl Tryd.func42 (by kernel_rfl) rfl #[.int .i64 5] rfl (by (try simp only [List.map_toArray, List.map_cons, List.map_nil]); first | done | rfl | (simp only [List.length_drop, List.length_take]; rfl)) ?_; (with_reducible refine (impl_EncodeLength.calls k 5 t128 _ A1.out).mono ?_); rintro e w2 ⟨v129, rfl, ho0, hb⟩; refine ⟨_, rfl, ?_⟩; have n0_ := Aside0.mk (Kd.R_lower ho0 (below_size (by repeat (first | (with_reducible first | exact HB.out | apply below_alloc | apply pw_below_drewN | apply below_drew1) | exact HB.out)))); have n1_ := Aside0.mk (below_step (by repeat (first | (with_reducible first | exact HB.out | apply below_alloc | apply pw_below_drewN | apply below_drew1) | exact HB.out)) hb); clear HB; have HO130 := n0_; have HB := n1_; clear n0_ n1_; (try clear hb); (try clear hb2); (try clear hk); (try clear hi); (try clear ho0); have hcv3 := own_string (P := Tryd.prog) Tryd.underlying24 Tryd.underlying5 Tryd.underlying9 (Kd.own_of_R HO130.out)))
  go_ret
  exact ⟨by first | rfl | (simp [errW_none, errW_some] <;> rfl) | (simp [*, errW_none, errW_some] <;> rfl), by repeat (first | (with_reducible first | exact HB.out | apply below_alloc | apply pw_below_drewN | apply below_drew1) | exact HB.out)⟩

-- NOT PRINTED: function 77 (impl_safely)

-- NOT PRINTED: function 43 (impl_operation)

-- NOT PRINTED: function 12 (impl_Compare)

-- NOT PRINTED: function 44 (spec_Alike)

-- NOT PRINTED: function 70 (laws_within)

-- NOT PRINTED: function 45 (laws_answer)

-- NOT PRINTED: function 13 (laws_same)

/-! ### spec_List: function 48 -/
def spec_List.f (l0 : List (S33)) : Option (Int × Int × Bool × List Int × (List (S33))) := some (0, 16, true, ([] : List Int), l0)
set_option maxHeartbeats 8000000 in
set_option maxRecDepth 100000 in
theorem spec_List.calls (P0_ : Nat → Prop) (A0 : Option Addr) (c0 : Nat) (l0 : List (S33)) (r1 : Int) (r2 : Int) (r3 : Bool) (r4 : List Int) (r5 : List (S33)) (w : World) (hs0 : Kd.V k33 33 w w.heap.size (fun k_ => P0_ k_) (.slice A0 l0.length c0) l0) (h : spec_List.f l0 = some (r1, r2, r3, r4, r5)) :
    Calls Tryd.prog 48 #[.slice A0 l0.length c0] w fun e w' => ∃ v3_ v4_ : Value, e = .returned (.agg #[.int .i64 r1, .int .i64 r2, .bool r3, v3_, v4_]) ∧ Kd.R (Kd.int .u8) 5 w' w.heap.size (fun k_ => (w.heap.size ≤ k_)) v3_ r4 ∧ Kd.V k33 33 w' w.heap.size (fun k_ => (P0_ k_ ∨ w.heap.size ≤ k_) ∧ some k_ ≠ (v3_ : Value).ownBlock) v4_ r5 ∧ Below w.heap.size w w' := by
  have hu33 := Tryd.underlying33
  have HO0 := Aside0.mk (show Kd.V k33 33 w w.heap.size (fun k_ => (P0_ k_ ∨ w.heap.size ≤ k_)) (.slice A0 l0.length c0) l0 from Kd.V_mono hs0 (fun k_ hk => .inl hk))
  have HB := Aside0.mk (Below.refl w.heap.size w)
  have H : (some (0, 16, true, ([] : List Int), l0)) = some (r1, r2, r3, r4, r5) := h
  clear h
  simp only [Option.some.injEq, Prod.mk.injEq] at H
  obtain ⟨rfl, rfl, rfl, rfl, rfl⟩ := H
  go_enter Tryd.func48, Tryd.ntmps48
  go_wp2_with (first | ((with_reducible refine gate_dst (N := 2) rfl ?_); refine box_event ?hg (N := 2) ?hd (cs := #[.int .i64 0, .int .i64 0, .bool false, .slice none 0 0, .slice none 0 0]) (t := 33) ?hr ?_; (case hd => rfl); (case hg => rfl); (case hr => first | (go_simp; done) | (go_simp; rfl)); intro gb141 hg w2 hbox hb; have n0_ := Aside0.mk (Kd.V_below (Kd.V_elderB (by (with_reducible repeat (first | apply Kd.V_alloc | apply Kd.V_drewN | apply Kd.V_drew)); exact HO0.out) gb141 (Nat.le_of_eq hg.symm)) hb); have n1_ := Aside0.mk (below_step (by repeat (first | (with_reducible first | exact HB.out | apply below_alloc | apply pw_below_drewN | apply below_drew1) | exact HB.out)) hb); have n2_ := Aside0.mk (hbox); have n3_ := Aside0.mk ((by rw [hg]; exact (below_size (by repeat (first | (with_reducible first | exact HB.out | apply below_alloc | apply pw_below_drewN | apply below_drew1) | exact HB.out))) : w.heap.size ≤ gb141)); have n4_ := Aside0.mk ((by rw [hg]; exact (below_size (by repeat (first | (with_reducible first | exact HB.out | apply below_alloc | apply pw_below_drewN | apply below_drew1) | exact HB.out))) : w.heap.size ≤ gb141)); clear HO0; clear HB; have HO0 := n0_; have HB := n1_; have BK141 := n2_; have GW141 := n3_; have GE141 := n4_; clear n0_ n1_ n2_ n3_ n4_; clear hb hbox hg; have hcz3_0 : w2.cell? ⟨gb141, 0, none⟩ = some (.int .i64 0) := (blk_cell BK141.out 0).trans rfl; have hcz3_1 : w2.cell? ⟨gb141, 1, none⟩ = some (.int .i64 0) := (blk_cell BK141.out 1).trans rfl; have hcz3_2 : w2.cell? ⟨gb141, 2, none⟩ = some (.bool false) := (blk_cell BK141.out 2).trans rfl; have hcz3_3 : w2.cell? ⟨gb141, 3, none⟩ = some (.slice none 0 0) := (blk_cell BK141.out 3).trans rfl; have hcz3_4 : w2.cell? ⟨gb141, 4, none⟩ = some (.slice none 0 0) := (blk_cell BK141.out 4).trans rfl; have hfz3_0 := blk_frozen BK141.out 0; have hfz3_1 := blk_frozen BK141.out 1; have hfz3_2 := blk_frozen BK141.out 2; have hfz3_3 := blk_frozen BK141.out 3; have hfz3_4 := blk_frozen BK141.out 4))
  refine bodyPost_ret (results_cell_row rfl _ _ gb141 33 #[.int .i64 0, .int .i64 16, .bool true, .slice none 0 0, .slice A0 l0.length c0] (0, 0) _ rfl (by (with_reducible repeat (first | refine blk_drewN ?_ _ | refine blk_drew ?_ | refine blk_alloc ?_ _)); refine blk_put (cs := #[.int .i64 0, .int .i64 16, .bool true, .slice none 0 0, .slice none 0 0]) ?_ 4 _ rfl; (with_reducible repeat (first | refine blk_drewN ?_ _ | refine blk_drew ?_ | refine blk_alloc ?_ _)); refine blk_put (cs := #[.int .i64 0, .int .i64 16, .bool true, .slice none 0 0, .slice none 0 0]) ?_ 3 _ rfl; (with_reducible repeat (first | refine blk_drewN ?_ _ | refine blk_drew ?_ | refine blk_alloc ?_ _)); refine blk_put (cs := #[.int .i64 0, .int .i64 16, .bool false, .slice none 0 0, .slice none 0 0]) ?_ 2 _ rfl; (with_reducible repeat (first | refine blk_drewN ?_ _ | refine blk_drew ?_ | refine blk_alloc ?_ _)); refine blk_put (cs := #[.int .i64 0, .int .i64 0, .bool false, .slice none 0 0, .slice none 0 0]) ?_ 1 _ rfl; (with_reducible repeat (first | refine blk_drewN ?_ _ | refine blk_drew ?_ | refine blk_alloc ?_ _)); refine blk_put (cs := #[.int .i64 0, .int .i64 0, .bool false, .slice none 0 0, .slice none 0 0]) ?_ 0 _ rfl; (with_reducible repeat (first | refine blk_drewN ?_ _ | refine blk_drew ?_ | refine blk_alloc ?_ _)); exact BK141.out) Tryd.underlying33 rfl (by kernel_rfl)) rfl ?_
  exact ⟨_, _, by first | rfl | (simp [errW_none, errW_some] <;> rfl) | (simp [*, errW_none, errW_some] <;> rfl), by first | exact Kd.R_nil _ _ _ _ _ | exact Kd.N_nil _ _ _ _ _ | exact Kd.V_nil _ _ _ _ _ | exact Kd.Q_nil _ _ _ _ _ | exact Kd.S_nil _ _ _ _ _, by (with_reducible repeat (first | apply Kd.V_alloc | apply Kd.V_drewN | apply Kd.V_drew)); exact Kd.V_mono (Kd.V_far (p := ⟨gb141, 4, none⟩) (Kd.V_far (p := ⟨gb141, 3, none⟩) (Kd.V_far (p := ⟨gb141, 2, none⟩) (Kd.V_far (p := ⟨gb141, 1, none⟩) (Kd.V_far (p := ⟨gb141, 0, none⟩) (Kd.V_mono HO0.out (fun k_ hk => (⟨hk, hk.2⟩ : _ ∧ k_ ≠ gb141))) (fun _ hk => hk.2) (.int .i64 0)) (fun _ hk => hk.2) (.int .i64 16)) (fun _ hk => hk.2) (.bool true)) (fun _ hk => hk.2) (.slice none 0 0)) (fun _ hk => hk.2) (.slice A0 l0.length c0)) (fun _ hk => ⟨hk.1.1, (by simp [Value.ownBlock])⟩), by repeat (first | (with_reducible first | exact HB.out | apply below_alloc | apply pw_below_drewN | apply below_drew1 | refine below_set ?_ GE141.out) | exact HB.out)⟩

/-! ### spec_tagged: function 51 -/
/-! ### spec_operation: function 46 -/
-- NOT PRINTED: function 47 (spec_Octets)

-- NOT PRINTED: function 14 (spec_Compare)

-- NOT PRINTED: function 3 (laws_FnCompareRequest)

-- NOT PRINTED: function 49 (goldap_NewModifyDNRequest)

-- NOT PRINTED: function 15 (impl_Rename)

/-! ### spec_Truth: function 50 -/
def spec_Truth.f (a0 : Bool) : Option (Int × Int × Bool × List Int × (List (S33))) := if a0 = true then (some (0, 1, false, (([255] : List Int)), ([] : List (S33)))) else (some (0, 1, false, (([0] : List Int)), ([] : List (S33))))
set_option maxHeartbeats 8000000 in
set_option maxRecDepth 100000 in
theorem spec_Truth.calls (a0 : Bool) (r1 : Int) (r2 : Int) (r3 : Bool) (r4 : List Int) (r5 : List (S33)) (w : World) (h : spec_Truth.f a0 = some (r1, r2, r3, r4, r5)) :
    Calls Tryd.prog 50 #[.bool a0] w fun e w' => ∃ v3_ v4_ : Value, e = .returned (.agg #[.int .i64 r1, .int .i64 r2, .bool r3, v3_, v4_]) ∧ Kd.R (Kd.int .u8) 5 w' w.heap.size (fun _ => True) v3_ r4 ∧ Kd.R k33 33 w' w.heap.size (fun k_ => some k_ ≠ (v3_ : Value).ownBlock) v4_ r5 ∧ Below w.heap.size w w' := by
  have hu33 := Tryd.underlying33
  have HB := Aside0.mk (Below.refl w.heap.size w)
  have H : (if a0 = true then (some (0, 1, false, (([255] : List Int)), ([] : List (S33)))) else (some (0, 1, false, (([0] : List Int)), ([] : List (S33))))) = some (r1, r2, r3, r4, r5) := h
  clear h
  by_cases c2 : a0 = true
  · subst c2
    have H1 : (some (0, 1, false, (([255] : List Int)), ([] : List (S33)))) = some (r1, r2, r3, r4, r5) := by rw [if_pos rfl] at H; exact H
    clear H
    have H := H1
    clear H1
    obtain ⟨y171, hy171⟩ : ∃ y_ : List Int, y_ = (([255] : List Int)) := ⟨_, rfl⟩
    replace H : (some (0, 1, false, y171, ([] : List (S33)))) = some (r1, r2, r3, r4, r5) := by first | (rw [hy171]; with_reducible exact H) | (have H2_ := (Option.bind_some _ _).symm.trans H; rw [hy171]; with_reducible exact H2_) | (have H2_ := (Option.bind_some _ _).symm.trans H; with_reducible exact H2_) | with_reducible exact H | (rw [hy171]; exact H) | exact H
    have Ny171 := Aside0.mk hy171
    clear hy171
    simp only [Option.some.injEq, Prod.mk.injEq] at H
    obtain ⟨rfl, rfl, rfl, rfl, rfl⟩ := H
    go_enter Tryd.func50, Tryd.ntmps50
    go_wp2_with (first | ((with_reducible refine gate_dst (N := 2) rfl ?_); refine box_event ?hg (N := 2) ?hd (cs := #[.int .i64 0, .int .i64 0, .bool false, .slice none 0 0, .slice none 0 0]) (t := 33) ?hr ?_; (case hd => rfl); (case hg => rfl); (case hr => first | (go_simp; done) | (go_simp; rfl)); intro gb170 hg w3 hbox hb; have n0_ := Aside0.mk (below_step (by repeat (first | (with_reducible first | exact HB.out | apply below_alloc | apply pw_below_drewN | apply below_drew1) | exact HB.out)) hb); have n1_ := Aside0.mk (hbox); have n2_ := Aside0.mk ((by rw [hg]; exact (below_size (by repeat (first | (with_reducible first | exact HB.out | apply below_alloc | apply pw_below_drewN | apply below_drew1) | exact HB.out))) : w.heap.size ≤ gb170)); have n3_ := Aside0.mk ((by rw [hg]; exact (below_size (by repeat (first | (with_reducible first | exact HB.out | apply below_alloc | apply pw_below_drewN | apply below_drew1) | exact HB.out))) : w.heap.size ≤ gb170)); clear HB; have HB := n0_; have BK170 := n1_; have GW170 := n2_; have GE170 := n3_; clear n0_ n1_ n2_ n3_; clear hb hbox hg) | ((with_reducible refine gate_dst (N := 4) rfl ?_); refine Kd.R_lit (Kd.int .u8) _ 5 ?hg (N := 4) ?hd (xs := ([255] : List Int)) (inner := [.int .u8 255]) (ok := fun _ => True) (okp := fun _ => True) ?hr ?hp (fun _ hk => hk) trivial (Below.refl _ _) (Nat.le_refl _) (by simp) ?_; (case hd => rfl); (case hg => rfl); (case hr => first | (go_simp; done) | (go_simp; rfl)); (case hp => exact (Reps.one (show Kd.M (Kd.int .u8) _ _ _ 255 [.int .u8 255] from rfl) (Reps.none _ _))); intro v172 w4 ho5 hb hg_ hnew_; clear hg_ hnew_; (first | rw [← Ny171.out] at ho5 | (simp only [Int.reduceToNat] at ho5; rw [← Ny171.out] at ho5)); have n0_ := Aside0.mk (Kd.R_lower ho5 (below_size (by repeat (first | (with_reducible first | exact HB.out | apply below_alloc | apply pw_below_drewN | apply below_drew1 | refine below_set ?_ GE170.out) | exact HB.out)))); have n1_ := Aside0.mk (blk_below (g := gb170) (o := .cells #[.int .i64 0, .int .i64 0, .bool false, .slice none 0 0, .slice none 0 0] 33 (0, 0)) (by (with_reducible repeat (first | refine blk_drewN ?_ _ | refine blk_drew ?_ | refine blk_alloc ?_ _)); exact BK170.out) hb); have n2_ := Aside0.mk (below_step (by repeat (first | (with_reducible first | exact HB.out | apply below_alloc | apply pw_below_drewN | apply below_drew1 | refine below_set ?_ GE170.out) | exact HB.out)) hb); clear BK170; clear HB; have HO173 := n0_; have BK170 := n1_; have HB := n2_; clear n0_ n1_ n2_; clear hb ho5; obtain ⟨Ao6, co6, eo6⟩ := Kd.R_slice HO173.out; subst eo6; have hcz7_0 : w4.cell? ⟨gb170, 0, none⟩ = some (.int .i64 0) := (blk_cell BK170.out 0).trans rfl; have hcz7_1 : w4.cell? ⟨gb170, 1, none⟩ = some (.int .i64 0) := (blk_cell BK170.out 1).trans rfl; have hcz7_2 : w4.cell? ⟨gb170, 2, none⟩ = some (.bool false) := (blk_cell BK170.out 2).trans rfl; have hcz7_3 : w4.cell? ⟨gb170, 3, none⟩ = some (.slice none 0 0) := (blk_cell BK170.out 3).trans rfl; have hcz7_4 : w4.cell? ⟨gb170, 4, none⟩ = some (.slice none 0 0) := (blk_cell BK170.out 4).trans rfl; have hfz7_0 := blk_frozen BK170.out 0; have hfz7_1 := blk_frozen BK170.out 1; have hfz7_2 := blk_frozen BK170.out 2; have hfz7_3 := blk_frozen BK170.out 3; have hfz7_4 := blk_frozen BK170.out 4))
    refine bodyPost_ret (results_cell_row rfl _ _ gb170 33 #[.int .i64 0, .int .i64 1, .bool false, .slice Ao6 y171.length co6, .slice none 0 0] (0, 0) _ rfl (by (with_reducible repeat (first | refine blk_drewN ?_ _ | refine blk_drew ?_ | refine blk_alloc ?_ _)); refine blk_put (cs := #[.int .i64 0, .int .i64 1, .bool false, .slice Ao6 y171.length co6, .slice none 0 0]) ?_ 4 _ rfl; (with_reducible repeat (first | refine blk_drewN ?_ _ | refine blk_drew ?_ | refine blk_alloc ?_ _)); refine blk_put (cs := #[.int .i64 0, .int .i64 1, .bool false, .slice none 0 0, .slice none 0 0]) ?_ 3 _ rfl; (with_reducible repeat (first | refine blk_drewN ?_ _ | refine blk_drew ?_ | refine blk_alloc ?_ _)); refine blk_put (cs := #[.int .i64 0, .int .i64 1, .bool false, .slice none 0 0, .slice none 0 0]) ?_ 2 _ rfl; (with_reducible repeat (first | refine blk_drewN ?_ _ | refine blk_drew ?_ | refine blk_alloc ?_ _)); refine blk_put (cs := #[.int .i64 0, .int .i64 0, .bool false, .slice none 0 0, .slice none 0 0]) ?_ 1 _ rfl; (with_reducible repeat (first | refine blk_drewN ?_ _ | refine blk_drew ?_ | refine blk_alloc ?_ _)); refine blk_put (cs := #[.int .i64 0, .int .i64 0, .bool false, .slice none 0 0, .slice none 0 0]) ?_ 0 _ rfl; (with_reducible repeat (first | refine blk_drewN ?_ _ | refine blk_drew ?_ | refine blk_alloc ?_ _)); exact BK170.out) Tryd.underlying33 rfl (by kernel_rfl)) rfl ?_
    exact ⟨_, _, by first | rfl | (simp [errW_none, errW_some] <;> rfl) | (simp [*, errW_none, errW_some] <;> rfl), by (with_reducible repeat (first | apply Kd.R_alloc | apply Kd.R_drewN | apply Kd.R_drew)); exact Kd.R_mono (Kd.R_far (p := ⟨gb170, 4, none⟩) (Kd.R_far (p := ⟨gb170, 3, none⟩) (Kd.R_far (p := ⟨gb170, 2, none⟩) (Kd.R_far (p := ⟨gb170, 1, none⟩) (Kd.R_far (p := ⟨gb170, 0, none⟩) (Kd.R_types HO173.out BK170.out (by decide)) (fun _ hk => hk.2) (.int .i64 0)) (fun _ hk => hk.2) (.int .i64 1)) (fun _ hk => hk.2) (.bool false)) (fun _ hk => hk.2) (.slice Ao6 y171.length co6)) (fun _ hk => hk.2) (.slice none 0 0)) (fun _ hk => trivial), by first | exact Kd.R_nil _ _ _ _ _ | exact Kd.N_nil _ _ _ _ _ | exact Kd.V_nil _ _ _ _ _ | exact Kd.Q_nil _ _ _ _ _ | exact Kd.S_nil _ _ _ _ _, by repeat (first | (with_reducible first | exact HB.out | apply below_alloc | apply pw_below_drewN | apply below_drew1 | refine below_set ?_ GE170.out) | exact HB.out)⟩
  · replace c2 := Bool.eq_false_iff.mpr c2
    subst c2
    have H1 : (some (0, 1, false, (([0] : List Int)), ([] : List (S33)))) = some (r1, r2, r3, r4, r5) := by rw [if_neg (show ¬ (false = true) by decide)] at H; exact H
    clear H
    have H := H1
    clear H1
    obtain ⟨y174, hy174⟩ : ∃ y_ : List Int, y_ = (([0] : List Int)) := ⟨_, rfl⟩
    replace H : (some (0, 1, false, y174, ([] : List (S33)))) = some (r1, r2, r3, r4, r5) := by first | (rw [hy174]; with_reducible exact H) | (have H2_ := (Option.bind_some _ _).symm.trans H; rw [hy174]; with_reducible exact H2_) | (have H2_ := (Option.bind_some _ _).symm.trans H; with_reducible exact H2_) | with_reducible exact H | (rw [hy174]; exact H) | exact H
    have Ny174 := Aside0.mk hy174
    clear hy174
    simp only [Option.some.injEq, Prod.mk.injEq] at H
    obtain ⟨rfl, rfl, rfl, rfl, rfl⟩ := H
    go_enter Tryd.func50, Tryd.ntmps50
    go_wp2_with (first | ((with_reducible refine gate_dst (N := 2) rfl ?_); refine box_event ?hg (N := 2) ?hd (cs := #[.int .i64 0, .int .i64 0, .bool false, .slice none 0 0, .slice none 0 0]) (t := 33) ?hr ?_; (case hd => rfl); (case hg => rfl); (case hr => first | (go_simp; done) | (go_simp; rfl)); intro gb170 hg w8 hbox hb; have n0_ := Aside0.mk (below_step (by repeat (first | (with_reducible first | exact HB.out | apply below_alloc | apply pw_below_drewN | apply below_drew1) | exact HB.out)) hb); have n1_ := Aside0.mk (hbox); have n2_ := Aside0.mk ((by rw [hg]; exact (below_size (by repeat (first | (with_reducible first | exact HB.out | apply below_alloc | apply pw_below_drewN | apply below_drew1) | exact HB.out))) : w.heap.size ≤ gb170)); have n3_ := Aside0.mk ((by rw [hg]; exact (below_size (by repeat (first | (with_reducible first | exact HB.out | apply below_alloc | apply pw_below_drewN | apply below_drew1) | exact HB.out))) : w.heap.size ≤ gb170)); clear HB; have HB := n0_; have BK170 := n1_; have GW170 := n2_; have GE170 := n3_; clear n0_ n1_ n2_ n3_; clear hb hbox hg) | ((with_reducible refine gate_dst (N := 6) rfl ?_); refine Kd.R_lit (Kd.int .u8) _ 5 ?hg (N := 6) ?hd (xs := ([0] : List Int)) (inner := [.int .u8 0]) (ok := fun _ => True) (okp := fun _ => True) ?hr ?hp (fun _ hk => hk) trivial (Below.refl _ _) (Nat.le_refl _) (by simp) ?_; (case hd => rfl); (case hg => rfl); (case hr => first | (go_simp; done) | (go_simp; rfl)); (case hp => exact (Reps.one (show Kd.M (Kd.int .u8) _ _ _ 0 [.int .u8 0] from rfl) (Reps.none _ _))); intro v175 w9 ho10 hb hg_ hnew_; clear hg_ hnew_; (first | rw [← Ny174.out] at ho10 | (simp only [Int.reduceToNat] at ho10; rw [← Ny174.out] at ho10)); have n0_ := Aside0.mk (Kd.R_lower ho10 (below_size (by repeat (first | (with_reducible first | exact HB.out | apply below_alloc | apply pw_below_drewN | apply below_drew1 | refine below_set ?_ GE170.out) | exact HB.out)))); have n1_ := Aside0.mk (blk_below (g := gb170) (o := .cells #[.int .i64 0, .int .i64 0, .bool false, .slice none 0 0, .slice none 0 0] 33 (0, 0)) (by (with_reducible repeat (first | refine blk_drewN ?_ _ | refine blk_drew ?_ | refine blk_alloc ?_ _)); exact BK170.out) hb); have n2_ := Aside0.mk (below_step (by repeat (first | (with_reducible first | exact HB.out | apply below_alloc | apply pw_below_drewN | apply below_drew1 | refine below_set ?_ GE170.out) | exact HB.out)) hb); clear BK170; clear HB; have HO176 := n0_; have BK170 := n1_; have HB := n2_; clear n0_ n1_ n2_; clear hb ho10; obtain ⟨Ao11, co11, eo11⟩ := Kd.R_slice HO176.out; subst eo11; have hcz12_0 : w9.cell? ⟨gb170, 0, none⟩ = some (.int .i64 0) := (blk_cell BK170.out 0).trans rfl; have hcz12_1 : w9.cell? ⟨gb170, 1, none⟩ = some (.int .i64 0) := (blk_cell BK170.out 1).trans rfl; have hcz12_2 : w9.cell? ⟨gb170, 2, none⟩ = some (.bool false) := (blk_cell BK170.out 2).trans rfl; have hcz12_3 : w9.cell? ⟨gb170, 3, none⟩ = some (.slice none 0 0) := (blk_cell BK170.out 3).trans rfl; have hcz12_4 : w9.cell? ⟨gb170, 4, none⟩ = some (.slice none 0 0) := (blk_cell BK170.out 4).trans rfl; have hfz12_0 := blk_frozen BK170.out 0; have hfz12_1 := blk_frozen BK170.out 1; have hfz12_2 := blk_frozen BK170.out 2; have hfz12_3 := blk_frozen BK170.out 3; have hfz12_4 := blk_frozen BK170.out 4))
    refine bodyPost_ret (results_cell_row rfl _ _ gb170 33 #[.int .i64 0, .int .i64 1, .bool false, .slice Ao11 y174.length co11, .slice none 0 0] (0, 0) _ rfl (by (with_reducible repeat (first | refine blk_drewN ?_ _ | refine blk_drew ?_ | refine blk_alloc ?_ _)); refine blk_put (cs := #[.int .i64 0, .int .i64 1, .bool false, .slice Ao11 y174.length co11, .slice none 0 0]) ?_ 4 _ rfl; (with_reducible repeat (first | refine blk_drewN ?_ _ | refine blk_drew ?_ | refine blk_alloc ?_ _)); refine blk_put (cs := #[.int .i64 0, .int .i64 1, .bool false, .slice none 0 0, .slice none 0 0]) ?_ 3 _ rfl; (with_reducible repeat (first | refine blk_drewN ?_ _ | refine blk_drew ?_ | refine blk_alloc ?_ _)); refine blk_put (cs := #[.int .i64 0, .int .i64 1, .bool false, .slice none 0 0, .slice none 0 0]) ?_ 2 _ rfl; (with_reducible repeat (first | refine blk_drewN ?_ _ | refine blk_drew ?_ | refine blk_alloc ?_ _)); refine blk_put (cs := #[.int .i64 0, .int .i64 0, .bool false, .slice none 0 0, .slice none 0 0]) ?_ 1 _ rfl; (with_reducible repeat (first | refine blk_drewN ?_ _ | refine blk_drew ?_ | refine blk_alloc ?_ _)); refine blk_put (cs := #[.int .i64 0, .int .i64 0, .bool false, .slice none 0 0, .slice none 0 0]) ?_ 0 _ rfl; (with_reducible repeat (first | refine blk_drewN ?_ _ | refine blk_drew ?_ | refine blk_alloc ?_ _)); exact BK170.out) Tryd.underlying33 rfl (by kernel_rfl)) rfl ?_
    exact ⟨_, _, by first | rfl | (simp [errW_none, errW_some] <;> rfl) | (simp [*, errW_none, errW_some] <;> rfl), by (with_reducible repeat (first | apply Kd.R_alloc | apply Kd.R_drewN | apply Kd.R_drew)); exact Kd.R_mono (Kd.R_far (p := ⟨gb170, 4, none⟩) (Kd.R_far (p := ⟨gb170, 3, none⟩) (Kd.R_far (p := ⟨gb170, 2, none⟩) (Kd.R_far (p := ⟨gb170, 1, none⟩) (Kd.R_far (p := ⟨gb170, 0, none⟩) (Kd.R_types HO176.out BK170.out (by decide)) (fun _ hk => hk.2) (.int .i64 0)) (fun _ hk => hk.2) (.int .i64 1)) (fun _ hk => hk.2) (.bool false)) (fun _ hk => hk.2) (.slice Ao11 y174.length co11)) (fun _ hk => hk.2) (.slice none 0 0)) (fun _ hk => trivial), by first | exact Kd.R_nil _ _ _ _ _ | exact Kd.N_nil _ _ _ _ _ | exact Kd.V_nil _ _ _ _ _ | exact Kd.Q_nil _ _ _ _ _ | exact Kd.S_nil _ _ _ _ _, by repeat (first | (with_reducible first | exact HB.out | apply below_alloc | apply pw_below_drewN | apply below_drew1 | refine below_set ?_ GE170.out) | exact HB.out)⟩

-- NOT PRINTED: function 16 (spec_Rename)

-- NOT PRINTED: function 4 (laws_FnRename)

-- NOT PRINTED: function 52 (goldap_NewSimpleBindRequest)

-- NOT PRINTED: function 17 (impl_Bind)

-- NOT PRINTED: function 53 (goldap_Unbinding)

-- NOT PRINTED: function 18 (impl_Unbind)

/-! ### spec_Whole: function 85 -/
def spec_Whole.l0 : Nat → Int → List Int → Option (List Int)
  | 0, _, _ => none
  | k + 1, x0, x3 => if (x0 / 256) = 0 then (if (Go.bits .and .i64 x0 128) = 0 then (some x3) else (if (x0 / 256) = (-1) then (some x3) else ((some (([(x0 / 256) % 256] : List Int) : List Int)).bind fun y187 => (if y187.length + x3.length < 140737488355328 then (spec_Whole.l0 k (x0 / 256) (y187 ++ x3)) else (none))))) else (if (x0 / 256) = (-1) then (if (Go.bits .and .i64 x0 128) = 0 then ((some (([(x0 / 256) % 256] : List Int) : List Int)).bind fun y193 => (if y193.length + x3.length < 140737488355328 then (spec_Whole.l0 k (x0 / 256) (y193 ++ x3)) else (none))) else (some x3)) else ((some (([(x0 / 256) % 256] : List Int) : List Int)).bind fun y199 => (if y199.length + x3.length < 140737488355328 then (spec_Whole.l0 k (x0 / 256) (y199 ++ x3)) else (none))))
def spec_Whole.f (k : Nat) (a0 : Int) : Option (List Int) := spec_Whole.l0 k a0 (([(a0) % 256] : List Int))
theorem spec_Whole.mono_l : ∀ k, (∀ y0 y1, LeO (spec_Whole.l0 k y0 y1) (spec_Whole.l0 (k + 1) y0 y1))
  | 0 => fun _ _ r h => by simp [spec_Whole.l0] at h
  | k + 1 => by
    have ih0 := spec_Whole.mono_l k
    · intro y0 y1
      unfold spec_Whole.l0
      repeat' first
      | (with_reducible exact ih0 _ _)
      | (with_reducible exact LeO.refl _)
      | (with_reducible exact LeO.none _)
      | (with_reducible refine LeO.ite ?_ ?_)
      | (with_reducible refine LeO.bind ?_ (fun _ => ?_))
      | exact ih0 _ _
      | exact LeO.none _
      | refine LeO.ite ?_ ?_
      | refine LeO.bind ?_ (fun _ => ?_)
set_option maxHeartbeats 8000000 in
set_option maxRecDepth 100000 in
theorem spec_Whole.calls (k : Nat) (a0 : Int) (r : List Int) (w : World) (h : spec_Whole.f k a0 = some r) :
    Calls Tryd.prog 85 #[.int .i64 a0] w fun e w' => ∃ v0_ : Value, e = .returned (v0_) ∧ Kd.R (Kd.int .u8) 5 w' w.heap.size (fun _ => True) v0_ r ∧ Below w.heap.size w w' := by
  have HB := Aside0.mk (Below.refl w.heap.size w)
  have H : (spec_Whole.l0 k a0 (([(a0) % 256] : List Int))) = some r := h
  clear h
  obtain ⟨y184, hy184⟩ : ∃ y_ : List Int, y_ = (([(a0) % 256] : List Int)) := ⟨_, rfl⟩
  replace H : (spec_Whole.l0 k a0 y184) = some r := by first | (rw [hy184]; with_reducible exact H) | (have H2_ := (Option.bind_some _ _).symm.trans H; rw [hy184]; with_reducible exact H2_) | (have H2_ := (Option.bind_some _ _).symm.trans H; with_reducible exact H2_) | with_reducible exact H | (rw [hy184]; exact H) | exact H
  have Ny184 := Aside0.mk hy184
  clear hy184
  have H' := Aside0.mk H
  clear H
  go_enter Tryd.func85, Tryd.ntmps85
  go_wp2_with (first | ((with_reducible refine gate_dst (N := 7) rfl ?_); refine Kd.R_lit (Kd.int .u8) _ 5 ?hg (N := 7) ?hd (xs := ([(a0) % 256] : List Int)) (inner := [.int .u8 ((a0) % 256)]) (ok := fun _ => True) (okp := fun _ => True) ?hr ?hp (fun _ hk => hk) trivial (Below.refl _ _) (Nat.le_refl _) (by simp) ?_; (case hd => rfl); (case hg => rfl); (case hr => first | (go_simp; done) | (go_simp; rfl)); (case hp => exact (Reps.one (show Kd.M (Kd.int .u8) _ _ _ ((a0) % 256) [.int .u8 ((a0) % 256)] from rfl) (Reps.none _ _))); intro v185 w2 ho3 hb hg_ hnew_; clear hg_ hnew_; (first | rw [← Ny184.out] at ho3 | (simp only [Int.reduceToNat] at ho3; rw [← Ny184.out] at ho3)); have n0_ := Aside0.mk (Kd.R_lower ho3 (below_size (by repeat (first | (with_reducible first | exact HB.out | apply below_alloc | apply pw_below_drewN | apply below_drew1) | exact HB.out)))); have n1_ := Aside0.mk (below_step (by repeat (first | (with_reducible first | exact HB.out | apply below_alloc | apply pw_below_drewN | apply below_drew1) | exact HB.out)) hb); clear HB; have HO186 := n0_; have HB := n1_; clear n0_ n1_; clear hb ho3))
  go_loopg [0, 3] k (fun kq v0 v3 w' => ∃ (x0_1 : Int) (x3_1 : List Int), v0 = .int .i64 x0_1 ∧ Aside0 (spec_Whole.l0 kq x0_1 x3_1 = some r) ∧ Aside0 (kq ≤ k) ∧ Aside0 (Kd.R (Kd.int .u8) 5 w' w.heap.size (fun _ => True) v3 x3_1) ∧ Aside0 (Below w.heap.size w w'))
  case atStart => exact ⟨(a0), (y184), (by first | rfl | (simp; done) | (simp [*]; done)), H', ⟨Nat.le_refl _⟩, ⟨by (with_reducible repeat (first | apply Kd.R_alloc | apply Kd.R_drewN | apply Kd.R_drew)); exact HO186.out⟩, ⟨by repeat (first | (with_reducible first | exact HB.out | apply below_alloc | apply pw_below_drewN | apply below_drew1) | exact HB.out)⟩⟩
  case round =>
    clear H'
    try clear p2
    obtain ⟨x0_1, x3_1, rfl, HA, HK1, HO_3, HB⟩ := hrel
    cases gk with
    | zero => exact absurd HA.out (by simp [spec_Whole.l0])
    | succ k1 =>
      have H := HA.out
      clear HA
      simp only [spec_Whole.l0] at H
      by_cases c4 : (x0_1 / 256) = 0
      · rw [if_pos c4] at H
        have c4b0 : ((x0_1 / 256) == 0) = true := beq_iff_eq.mpr c4
        have c4b1 : ((x0_1 / 256) != 0) = false := bne_eq_false_iff_eq.mpr c4
        clear c4
        by_cases c5 : (Go.bits .and .i64 x0_1 128) = 0
        · rw [if_pos c5] at H
          have c5b0 : ((Go.bits .and .i64 x0_1 128) == 0) = true := beq_iff_eq.mpr c5
          have c5b1 : ((Go.bits .and .i64 x0_1 128) != 0) = false := bne_eq_false_iff_eq.mpr c5
          clear c5
          obtain rfl := Option.some.inj H
          go_wp2
          go_ret
          exact ⟨_, by first | rfl | (simp [errW_none, errW_some] <;> rfl) | (simp [*, errW_none, errW_some] <;> rfl), by (with_reducible repeat (first | apply Kd.R_alloc | apply Kd.R_drewN | apply Kd.R_drew)); exact HO_3.out, by repeat (first | (with_reducible first | exact HB.out | apply below_alloc | apply pw_below_drewN | apply below_drew1) | exact HB.out)⟩
        · rw [if_neg c5] at H
          have c5b0 : ((Go.bits .and .i64 x0_1 128) == 0) = false := beq_eq_false_iff_ne.mpr c5
          have c5b1 : ((Go.bits .and .i64 x0_1 128) != 0) = true := bne_iff_ne.mpr c5
          by_cases c6 : (x0_1 / 256) = (-1)
          · rw [if_pos c6] at H
            have c6b0 : ((x0_1 / 256) == (-1)) = true := beq_iff_eq.mpr c6
            have c6b1 : ((x0_1 / 256) != (-1)) = false := bne_eq_false_iff_eq.mpr c6
            clear c6
            obtain rfl := Option.some.inj H
            go_wp2
            go_ret
            exact ⟨_, by first | rfl | (simp [errW_none, errW_some] <;> rfl) | (simp [*, errW_none, errW_some] <;> rfl), by (with_reducible repeat (first | apply Kd.R_alloc | apply Kd.R_drewN | apply Kd.R_drew)); exact HO_3.out, by repeat (first | (with_reducible first | exact HB.out | apply below_alloc | apply pw_below_drewN | apply below_drew1) | exact HB.out)⟩
          · rw [if_neg c6] at H
            have c6b0 : ((x0_1 / 256) == (-1)) = false := beq_eq_false_iff_ne.mpr c6
            have c6b1 : ((x0_1 / 256) != (-1)) = true := bne_iff_ne.mpr c6
            obtain ⟨y187, hy187⟩ : ∃ y_ : List Int, y_ = (([(x0_1 / 256) % 256] : List Int)) := ⟨_, rfl⟩
            replace H : (if y187.length + x3_1.length < 140737488355328 then (spec_Whole.l0 k1 (x0_1 / 256) (y187 ++ x3_1)) else (none)) = some r := by first | (rw [hy187]; with_reducible exact H) | (have H2_ := (Option.bind_some _ _).symm.trans H; rw [hy187]; with_reducible exact H2_) | (have H2_ := (Option.bind_some _ _).symm.trans H; with_reducible exact H2_) | with_reducible exact H | (rw [hy187]; exact H) | exact H
            have Ny187 := Aside0.mk hy187
            clear hy187
            by_cases c7 : y187.length + x3_1.length < 140737488355328
            · rw [if_pos c7] at H
              have LMc7 := Aside0.mk c7
              clear c7
              obtain ⟨y190, hy190⟩ : ∃ y_ : List Int, y_ = (y187 ++ x3_1) := ⟨_, rfl⟩
              replace H : (spec_Whole.l0 k1 (x0_1 / 256) y190) = some r := by first | (rw [hy190]; with_reducible exact H) | (have H2_ := (Option.bind_some _ _).symm.trans H; rw [hy190]; with_reducible exact H2_) | (have H2_ := (Option.bind_some _ _).symm.trans H; with_reducible exact H2_) | with_reducible exact H | (rw [hy190]; exact H) | exact H
              have Ny190 := Aside0.mk hy190
              clear hy190
              have H' := Aside0.mk H
              clear H
              go_wp2_with (first | ((with_reducible refine gate_dst (N := 30) rfl ?_); refine Kd.R_lit (Kd.int .u8) _ 5 ?hg (N := 30) ?hd (xs := ([(x0_1 / 256) % 256] : List Int)) (inner := [.int .u8 ((x0_1 / 256) % 256)]) (ok := fun _ => True) (okp := fun _ => True) ?hr ?hp (fun _ hk => hk) trivial (Below.refl _ _) (Nat.le_refl _) (by simp) ?_; (case hd => rfl); (case hg => rfl); (case hr => first | (go_simp; done) | (go_simp; rfl)); (case hp => exact (Reps.one (show Kd.M (Kd.int .u8) _ _ _ ((x0_1 / 256) % 256) [.int .u8 ((x0_1 / 256) % 256)] from rfl) (Reps.none _ _))); intro v188 w8 ho9 hb hg_ hnew_; clear hg_ hnew_; (first | rw [← Ny187.out] at ho9 | (simp only [Int.reduceToNat] at ho9; rw [← Ny187.out] at ho9)); have n0_ := Aside0.mk (Kd.R_elder' (by (with_reducible repeat (first | apply Kd.R_alloc | apply Kd.R_drewN | apply Kd.R_drew)); exact HO_3.out) (Kd.R_base ho9) hb); have n1_ := Aside0.mk (Kd.R_lower (Kd.R_new' ho9 (Kd.R_lt (by (with_reducible repeat (first | apply Kd.R_alloc | apply Kd.R_drewN | apply Kd.R_drew)); exact HO_3.out))) (below_size (by repeat (first | (with_reducible first | exact HB.out | apply below_alloc | apply pw_below_drewN | apply below_drew1) | exact HB.out)))); have n2_ := Aside0.mk (below_step (by repeat (first | (with_reducible first | exact HB.out | apply below_alloc | apply pw_below_drewN | apply below_drew1) | exact HB.out)) hb); clear HO_3; clear HB; have HO_3 := n0_; have HO189 := n1_; have HB := n2_; clear n0_ n1_ n2_; clear hb ho9; obtain ⟨Ao11, co11, eo11⟩ := Kd.R_slice HO_3.out; subst eo11) | ((with_reducible refine gate_builtin (b := .append) (xs := #[.tmp 30, .tmp 31]) rfl ?_); at_builtin; refine Kd.R_append_rows (Kd.int .u8) (w0 := w) w.heap.size rfl (.tmp 30) (.tmp 31) 24 5 (.int .u8 0) 1 rfl Tryd.underlying24 info5 rfl (by decide) (by omega) v188 y187 x3_1 _ _ _ (fun k_ => some k_ ≠ (.slice Ao11 x3_1.length co11 : Value).ownBlock) (fun _ => False) rfl rfl ?aO ?aR (fun _ _ h => h) (fun _ h => h.elim) ?aF ?aB ?aS ?aL ?_; (case aR => repeat (first | exact (Kd.R_reads' HO_3.out).2.2 | (with_reducible refine Kd.C_alloc ?_ _) | (with_reducible refine Kd.C_drewN ?_ _) | (with_reducible refine Kd.C_drew ?_))); (case aB => exact (by repeat (first | (with_reducible first | exact HB.out | apply below_alloc | apply pw_below_drewN | apply below_drew1) | exact HB.out))); (case aF => exact (fun k_ hk => Kd.fresh' (Kd.R_lt (by (with_reducible repeat (first | apply Kd.R_alloc | apply Kd.R_drewN | apply Kd.R_drew)); exact HO_3.out)) k_ hk)); (case aO => exact (by (with_reducible repeat (first | apply Kd.R_alloc | apply Kd.R_drewN | apply Kd.R_drew)); exact Kd.R_mono HO189.out (fun _ hk => hk.2))); (case aS => exact (below_size (by repeat (first | (with_reducible first | exact HB.out | apply below_alloc | apply pw_below_drewN | apply below_drew1) | exact HB.out)))); (case aL => have := LMc7.out; omega); intro v191 w10 ho hb hg hat; rw [← Ny190.out] at ho; have n0_ := Aside0.mk (Kd.R_after (ok := (fun _ => True)) (by (with_reducible repeat (first | apply Kd.R_alloc | apply Kd.R_drewN | apply Kd.R_drew)); exact HO_3.out) hg hat); have n1_ := Aside0.mk (hb); have n2_ := Aside0.mk (ho); clear HO_3; clear HB; clear HO189; have HO_3 := n0_; have HB := n1_; have HO192 := n2_; clear n0_ n1_ n2_; clear ho hb hg hat))
              go_roundg k1
              case measure => have := HK1.out; omega
              case rel => exact ⟨(x0_1 / 256), (y190), (by first | rfl | (simp; done) | (simp [*]; done)), H', ⟨by have := HK1.out; omega⟩, ⟨by (with_reducible repeat (first | apply Kd.R_alloc | apply Kd.R_drewN | apply Kd.R_drew)); exact Kd.R_mono HO192.out (fun _ hk => trivial)⟩, ⟨by repeat (first | (with_reducible first | exact HB.out | apply below_alloc | apply pw_below_drewN | apply below_drew1) | exact HB.out)⟩⟩
            · rw [if_neg c7] at H
              exact absurd H (by simp)
      · rw [if_neg c4] at H
        have c4b0 : ((x0_1 / 256) == 0) = false := beq_eq_false_iff_ne.mpr c4
        have c4b1 : ((x0_1 / 256) != 0) = true := bne_iff_ne.mpr c4
        by_cases c12 : (x0_1 / 256) = (-1)
        · rw [if_pos c12] at H
          have c12b0 : ((x0_1 / 256) == (-1)) = true := beq_iff_eq.mpr c12
          have c12b1 : ((x0_1 / 256) != (-1)) = false := bne_eq_false_iff_eq.mpr c12
          clear c12
          by_cases c13 : (Go.bits .and .i64 x0_1 128) = 0
          · rw [if_pos c13] at H
            have c13b0 : ((Go.bits .and .i64 x0_1 128) == 0) = true := beq_iff_eq.mpr c13
            have c13b1 : ((Go.bits .and .i64 x0_1 128) != 0) = false := bne_eq_false_iff_eq.mpr c13
            clear c13
            obtain ⟨y193, hy193⟩ : ∃ y_ : List Int, y_ = (([(x0_1 / 256) % 256] : List Int)) := ⟨_, rfl⟩
            replace H : (if y193.length + x3_1.length < 140737488355328 then (spec_Whole.l0 k1 (x0_1 / 256) (y193 ++ x3_1)) else (none)) = some r := by first | (rw [hy193]; with_reducible exact H) | (have H2_ := (Option.bind_some _ _).symm.trans H; rw [hy193]; with_reducible exact H2_) | (have H2_ := (Option.bind_some _ _).symm.trans H; with_reducible exact H2_) | with_reducible exact H | (rw [hy193]; exact H) | exact H
            have Ny193 := Aside0.mk hy193
            clear hy193
            by_cases c14 : y193.length + x3_1.length < 140737488355328
            · rw [if_pos c14] at H
              have LMc14 := Aside0.mk c14
              clear c14
              obtain ⟨y196, hy196⟩ : ∃ y_ : List Int, y_ = (y193 ++ x3_1) := ⟨_, rfl⟩
              replace H : (spec_Whole.l0 k1 (x0_1 / 256) y196) = some r := by first | (rw [hy196]; with_reducible exact H) | (have H2_ := (Option.bind_some _ _).symm.trans H; rw [hy196]; with_reducible exact H2_) | (have H2_ := (Option.bind_some _ _).symm.trans H; with_reducible exact H2_) | with_reducible exact H | (rw [hy196]; exact H) | exact H
              have Ny196 := Aside0.mk hy196
              clear hy196
              have H' := Aside0.mk H
              clear H
              go_wp2_with (first | ((with_reducible refine gate_dst (N := 30) rfl ?_); refine Kd.R_lit (Kd.int .u8) _ 5 ?hg (N := 30) ?hd (xs := ([(x0_1 / 256) % 256] : List Int)) (inner := [.int .u8 ((x0_1 / 256) % 256)]) (ok := fun _ => True) (okp := fun _ => True) ?hr ?hp (fun _ hk => hk) trivial (Below.refl _ _) (Nat.le_refl _) (by simp) ?_; (case hd => rfl); (case hg => rfl); (case hr => first | (go_simp; done) | (go_simp; rfl)); (case hp => exact (Reps.one (show Kd.M (Kd.int .u8) _ _ _ ((x0_1 / 256) % 256) [.int .u8 ((x0_1 / 256) % 256)] from rfl) (Reps.none _ _))); intro v194 w15 ho16 hb hg_ hnew_; clear hg_ hnew_; (first | rw [← Ny193.out] at ho16 | (simp only [Int.reduceToNat] at ho16; rw [← Ny193.out] at ho16)); have n0_ := Aside0.mk (Kd.R_elder' (by (with_reducible repeat (first | apply Kd.R_alloc | apply Kd.R_drewN | apply Kd.R_drew)); exact HO_3.out) (Kd.R_base ho16) hb); have n1_ := Aside0.mk (Kd.R_lower (Kd.R_new' ho16 (Kd.R_lt (by (with_reducible repeat (first | apply Kd.R_alloc | apply Kd.R_drewN | apply Kd.R_drew)); exact HO_3.out))) (below_size (by repeat (first | (with_reducible first | exact HB.out | apply below_alloc | apply pw_below_drewN | apply below_drew1) | exact HB.out)))); have n2_ := Aside0.mk (below_step (by repeat (first | (with_reducible first | exact HB.out | apply below_alloc | apply pw_below_drewN | apply below_drew1) | exact HB.out)) hb); clear HO_3; clear HB; have HO_3 := n0_; have HO195 := n1_; have HB := n2_; clear n0_ n1_ n2_; clear hb ho16; obtain ⟨Ao18, co18, eo18⟩ := Kd.R_slice HO_3.out; subst eo18) | ((with_reducible refine gate_builtin (b := .append) (xs := #[.tmp 30, .tmp 31]) rfl ?_); at_builtin; refine Kd.R_append_rows (Kd.int .u8) (w0 := w) w.heap.size rfl (.tmp 30) (.tmp 31) 24 5 (.int .u8 0) 1 rfl Tryd.underlying24 info5 rfl (by decide) (by omega) v194 y193 x3_1 _ _ _ (fun k_ => some k_ ≠ (.slice Ao18 x3_1.length co18 : Value).ownBlock) (fun _ => False) rfl rfl ?aO ?aR (fun _ _ h => h) (fun _ h => h.elim) ?aF ?aB ?aS ?aL ?_; (case aR => repeat (first | exact (Kd.R_reads' HO_3.out).2.2 | (with_reducible refine Kd.C_alloc ?_ _) | (with_reducible refine Kd.C_drewN ?_ _) | (with_reducible refine Kd.C_drew ?_))); (case aB => exact (by repeat (first | (with_reducible first | exact HB.out | apply below_alloc | apply pw_below_drewN | apply below_drew1) | exact HB.out))); (case aF => exact (fun k_ hk => Kd.fresh' (Kd.R_lt (by (with_reducible repeat (first | apply Kd.R_alloc | apply Kd.R_drewN | apply Kd.R_drew)); exact HO_3.out)) k_ hk)); (case aO => exact (by (with_reducible repeat (first | apply Kd.R_alloc | apply Kd.R_drewN | apply Kd.R_drew)); exact Kd.R_mono HO195.out (fun _ hk => hk.2))); (case aS => exact (below_size (by repeat (first | (with_reducible first | exact HB.out | apply below_alloc | apply pw_below_drewN | apply below_drew1) | exact HB.out)))); (case aL => have := LMc14.out; omega); intro v197 w17 ho hb hg hat; rw [← Ny196.out] at ho; have n0_ := Aside0.mk (Kd.R_after (ok := (fun _ => True)) (by (with_reducible repeat (first | apply Kd.R_alloc | apply Kd.R_drewN | apply Kd.R_drew)); exact HO_3.out) hg hat); have n1_ := Aside0.mk (hb); have n2_ := Aside0.mk (ho); clear HO_3; clear HB; clear HO195; have HO_3 := n0_; have HB := n1_; have HO198 := n2_; clear n0_ n1_ n2_; clear ho hb hg hat))
              go_roundg k1
              case measure => have := HK1.out; omega
              case rel => exact ⟨(x0_1 / 256), (y196), (by first | rfl | (simp; done) | (simp [*]; done)), H', ⟨by have := HK1.out; omega⟩, ⟨by (with_reducible repeat (first | apply Kd.R_alloc | apply Kd.R_drewN | apply Kd.R_drew)); exact Kd.R_mono HO198.out (fun _ hk => trivial)⟩, ⟨by repeat (first | (with_reducible first | exact HB.out | apply below_alloc | apply pw_below_drewN | apply below_drew1) | exact HB.out)⟩⟩
            · rw [if_neg c14] at H
              exact absurd H (by simp)
          · rw [if_neg c13] at H
            have c13b0 : ((Go.bits .and .i64 x0_1 128) == 0) = false := beq_eq_false_iff_ne.mpr c13
            have c13b1 : ((Go.bits .and .i64 x0_1 128) != 0) = true := bne_iff_ne.mpr c13
            obtain rfl := Option.some.inj H
            go_wp2
            go_ret
            exact ⟨_, by first | rfl | (simp [errW_none, errW_some] <;> rfl) | (simp [*, errW_none, errW_some] <;> rfl), by (with_reducible repeat (first | apply Kd.R_alloc | apply Kd.R_drewN | apply Kd.R_drew)); exact HO_3.out, by repeat (first | (with_reducible first | exact HB.out | apply below_alloc | apply pw_below_drewN | apply below_drew1) | exact HB.out)⟩
        · rw [if_neg c12] at H
          have c12b0 : ((x0_1 / 256) == (-1)) = false := beq_eq_false_iff_ne.mpr c12
          have c12b1 : ((x0_1 / 256) != (-1)) = true := bne_iff_ne.mpr c12
          obtain ⟨y199, hy199⟩ : ∃ y_ : List Int, y_ = (([(x0_1 / 256) % 256] : List Int)) := ⟨_, rfl⟩
          replace H : (if y199.length + x3_1.length < 140737488355328 then (spec_Whole.l0 k1 (x0_1 / 256) (y199 ++ x3_1)) else (none)) = some r := by first | (rw [hy199]; with_reducible exact H) | (have H2_ := (Option.bind_some _ _).symm.trans H; rw [hy199]; with_reducible exact H2_) | (have H2_ := (Option.bind_some _ _).symm.trans H; with_reducible exact H2_) | with_reducible exact H | (rw [hy199]; exact H) | exact H
          have Ny199 := Aside0.mk hy199
          clear hy199
          by_cases c19 : y199.length + x3_1.length < 140737488355328
          · rw [if_pos c19] at H
            have LMc19 := Aside0.mk c19
            clear c19
            obtain ⟨y202, hy202⟩ : ∃ y_ : List Int, y_ = (y199 ++ x3_1) := ⟨_, rfl⟩
            replace H : (spec_Whole.l0 k1 (x0_1 / 256) y202) = some r := by first | (rw [hy202]; with_reducible exact H) | (have H2_ := (Option.bind_some _ _).symm.trans H; rw [hy202]; with_reducible exact H2_) | (have H2_ := (Option.bind_some _ _).symm.trans H; with_reducible exact H2_) | with_reducible exact H | (rw [hy202]; exact H) | exact H
            have Ny202 := Aside0.mk hy202
            clear hy202
            have H' := Aside0.mk H
            clear H
            go_wp2_with (first | ((with_reducible refine gate_dst (N := 30) rfl ?_); refine Kd.R_lit (Kd.int .u8) _ 5 ?hg (N := 30) ?hd (xs := ([(x0_1 / 256) % 256] : List Int)) (inner := [.int .u8 ((x0_1 / 256) % 256)]) (ok := fun _ => True) (okp := fun _ => True) ?hr ?hp (fun _ hk => hk) trivial (Below.refl _ _) (Nat.le_refl _) (by simp) ?_; (case hd => rfl); (case hg => rfl); (case hr => first | (go_simp; done) | (go_simp; rfl)); (case hp => exact (Reps.one (show Kd.M (Kd.int .u8) _ _ _ ((x0_1 / 256) % 256) [.int .u8 ((x0_1 / 256) % 256)] from rfl) (Reps.none _ _))); intro v200 w20 ho21 hb hg_ hnew_; clear hg_ hnew_; (first | rw [← Ny199.out] at ho21 | (simp only [Int.reduceToNat] at ho21; rw [← Ny199.out] at ho21)); have n0_ := Aside0.mk (Kd.R_elder' (by (with_reducible repeat (first | apply Kd.R_alloc | apply Kd.R_drewN | apply Kd.R_drew)); exact HO_3.out) (Kd.R_base ho21) hb); have n1_ := Aside0.mk (Kd.R_lower (Kd.R_new' ho21 (Kd.R_lt (by (with_reducible repeat (first | apply Kd.R_alloc | apply Kd.R_drewN | apply Kd.R_drew)); exact HO_3.out))) (below_size (by repeat (first | (with_reducible first | exact HB.out | apply below_alloc | apply pw_below_drewN | apply below_drew1) | exact HB.out)))); have n2_ := Aside0.mk (below_step (by repeat (first | (with_reducible first | exact HB.out | apply below_alloc | apply pw_below_drewN | apply below_drew1) | exact HB.out)) hb); clear HO_3; clear HB; have HO_3 := n0_; have HO201 := n1_; have HB := n2_; clear n0_ n1_ n2_; clear hb ho21; obtain ⟨Ao23, co23, eo23⟩ := Kd.R_slice HO_3.out; subst eo23) | ((with_reducible refine gate_builtin (b := .append) (xs := #[.tmp 30, .tmp 31]) rfl ?_); at_builtin; refine Kd.R_append_rows (Kd.int .u8) (w0 := w) w.heap.size rfl (.tmp 30) (.tmp 31) 24 5 (.int .u8 0) 1 rfl Tryd.underlying24 info5 rfl (by decide) (by omega) v200 y199 x3_1 _ _ _ (fun k_ => some k_ ≠ (.slice Ao23 x3_1.length co23 : Value).ownBlock) (fun _ => False) rfl rfl ?aO ?aR (fun _ _ h => h) (fun _ h => h.elim) ?aF ?aB ?aS ?aL ?_; (case aR => repeat (first | exact (Kd.R_reads' HO_3.out).2.2 | (with_reducible refine Kd.C_alloc ?_ _) | (with_reducible refine Kd.C_drewN ?_ _) | (with_reducible refine Kd.C_drew ?_))); (case aB => exact (by repeat (first | (with_reducible first | exact HB.out | apply below_alloc | apply pw_below_drewN | apply below_drew1) | exact HB.out))); (case aF => exact (fun k_ hk => Kd.fresh' (Kd.R_lt (by (with_reducible repeat (first | apply Kd.R_alloc | apply Kd.R_drewN | apply Kd.R_drew)); exact HO_3.out)) k_ hk)); (case aO => exact (by (with_reducible repeat (first | apply Kd.R_alloc | apply Kd.R_drewN | apply Kd.R_drew)); exact Kd.R_mono HO201.out (fun _ hk => hk.2))); (case aS => exact (below_size (by repeat (first | (with_reducible first | exact HB.out | apply below_alloc | apply pw_below_drewN | apply below_drew1) | exact HB.out)))); (case aL => have := LMc19.out; omega); intro v203 w22 ho hb hg hat; rw [← Ny202.out] at ho; have n0_ := Aside0.mk (Kd.R_after (ok := (fun _ => True)) (by (with_reducible repeat (first | apply Kd.R_alloc | apply Kd.R_drewN | apply Kd.R_drew)); exact HO_3.out) hg hat); have n1_ := Aside0.mk (hb); have n2_ := Aside0.mk (ho); clear HO_3; clear HB; clear HO201; have HO_3 := n0_; have HB := n1_; have HO204 := n2_; clear n0_ n1_ n2_; clear ho hb hg hat))
            go_roundg k1
            case measure => have := HK1.out; omega
            case rel => exact ⟨(x0_1 / 256), (y202), (by first | rfl | (simp; done) | (simp [*]; done)), H', ⟨by have := HK1.out; omega⟩, ⟨by (with_reducible repeat (first | apply Kd.R_alloc | apply Kd.R_drewN | apply Kd.R_drew)); exact Kd.R_mono HO204.out (fun _ hk => trivial)⟩, ⟨by repeat (first | (with_reducible first | exact HB.out | apply below_alloc | apply pw_below_drewN | apply below_drew1) | exact HB.out)⟩⟩
          · rw [if_neg c19] at H
            exact absurd H (by simp)

/-! ### spec_Number: function 54 -/
def spec_Number.f (k : Nat) (a0 : Int) : Option (Int × Int × Bool × List Int × (List (S33))) := (spec_Whole.f k a0).bind fun t206 => (some (0, 2, false, t206, ([] : List (S33))))
set_option maxHeartbeats 8000000 in
set_option maxRecDepth 100000 in
theorem spec_Number.calls (k : Nat) (a0 : Int) (r1 : Int) (r2 : Int) (r3 : Bool) (r4 : List Int) (r5 : List (S33)) (w : World) (h : spec_Number.f k a0 = some (r1, r2, r3, r4, r5)) :
    Calls Tryd.prog 54 #[.int .i64 a0] w fun e w' => ∃ v3_ v4_ : Value, e = .returned (.agg #[.int .i64 r1, .int .i64 r2, .bool r3, v3_, v4_]) ∧ Kd.R (Kd.int .u8) 5 w' w.heap.size (fun _ => True) v3_ r4 ∧ Kd.R k33 33 w' w.heap.size (fun k_ => some k_ ≠ (v3_ : Value).ownBlock) v4_ r5 ∧ Below w.heap.size w w' := by
  have hu33 := Tryd.underlying33
  have HB := Aside0.mk (Below.refl w.heap.size w)
  have H : ((spec_Whole.f k a0).bind fun t206 => (some (0, 2, false, t206, ([] : List (S33))))) = some (r1, r2, r3, r4, r5) := h
  clear h
  replace H := Option.bind_eq_some_iff.mp H
  obtain ⟨t206, A20, H⟩ := H
  replace H : (some (0, 2, false, t206, ([] : List (S33)))) = some (r1, r2, r3, r4, r5) := H
  have A2 := Aside0.mk A20
  clear A20
  simp only [Option.some.injEq, Prod.mk.injEq] at H
  obtain ⟨rfl, rfl, rfl, rfl, rfl⟩ := H
  go_enter Tryd.func54, Tryd.ntmps54
  go_wp2_with (first | ((with_reducible refine gate_dst (N := 2) rfl ?_); refine box_event ?hg (N := 2) ?hd (cs := #[.int .i64 0, .int .i64 0, .bool false, .slice none 0 0, .slice none 0 0]) (t := 33) ?hr ?_; (case hd => rfl); (case hg => rfl); (case hr => first | (go_simp; done) | (go_simp; rfl)); intro gb205 hg w3 hbox hb; have n0_ := Aside0.mk (below_step (by repeat (first | (with_reducible first | exact HB.out | apply below_alloc | apply pw_below_drewN | apply below_drew1) | exact HB.out)) hb); have n1_ := Aside0.mk (hbox); have n2_ := Aside0.mk ((by rw [hg]; exact (below_size (by repeat (first | (with_reducible first | exact HB.out | apply below_alloc | apply pw_below_drewN | apply below_drew1) | exact HB.out))) : w.heap.size ≤ gb205)); have n3_ := Aside0.mk ((by rw [hg]; exact (below_size (by repeat (first | (with_reducible first | exact HB.out | apply below_alloc | apply pw_below_drewN | apply below_drew1) | exact HB.out))) : w.heap.size ≤ gb205)); clear HB; have HB := n0_; have BK205 := n1_; have GW205 := n2_; have GE205 := n3_; clear n0_ n1_ n2_ n3_; clear hb hbox hg) | ((with_reducible refine gate_callee (f := 85) rfl ?_); refine goesL_ (some 4) rfl rfl Tryd.func85 (by kernel_rfl) rfl #[.int .i64 a0] rfl (by (try simp only [List.map_toArray, List.map_cons, List.map_nil]); first | done | rfl | (simp only [List.length_drop, List.length_take]; rfl)) ?_; (with_reducible refine (spec_Whole.calls k a0 t206 _ A2.out).mono ?_); rintro e w4 ⟨v207, rfl, ho0, hb⟩; refine ⟨_, rfl, ?_⟩; have n0_ := Aside0.mk (Kd.R_lower ho0 (below_size (by repeat (first | (with_reducible first | exact HB.out | apply below_alloc | apply pw_below_drewN | apply below_drew1 | refine below_set ?_ GE205.out) | exact HB.out)))); have n1_ := Aside0.mk (blk_below (g := gb205) (o := .cells #[.int .i64 0, .int .i64 0, .bool false, .slice none 0 0, .slice none 0 0] 33 (0, 0)) (by (with_reducible repeat (first | refine blk_drewN ?_ _ | refine blk_drew ?_ | refine blk_alloc ?_ _)); exact BK205.out) hb); have n2_ := Aside0.mk (below_step (by repeat (first | (with_reducible first | exact HB.out | apply below_alloc | apply pw_below_drewN | apply below_drew1 | refine below_set ?_ GE205.out) | exact HB.out)) hb); clear BK205; clear HB; have HO208 := n0_; have BK205 := n1_; have HB := n2_; clear n0_ n1_ n2_; (try clear hb); (try clear hb2); (try clear hk); (try clear hi); (try clear ho0); obtain ⟨Ao5, co5, eo5⟩ := Kd.R_slice HO208.out; subst eo5; have hcz6_0 : w4.cell? ⟨gb205, 0, none⟩ = some (.int .i64 0) := (blk_cell BK205.out 0).trans rfl; have hcz6_1 : w4.cell? ⟨gb205, 1, none⟩ = some (.int .i64 0) := (blk_cell BK205.out 1).trans rfl; have hcz6_2 : w4.cell? ⟨gb205, 2, none⟩ = some (.bool false) := (blk_cell BK205.out 2).trans rfl; have hcz6_3 : w4.cell? ⟨gb205, 3, none⟩ = some (.slice none 0 0) := (blk_cell BK205.out 3).trans rfl; have hcz6_4 : w4.cell? ⟨gb205, 4, none⟩ = some (.slice none 0 0) := (blk_cell BK205.out 4).trans rfl; have hfz6_0 := blk_frozen BK205.out 0; have hfz6_1 := blk_frozen BK205.out 1; have hfz6_2 := blk_frozen BK205.out 2; have hfz6_3 := blk_frozen BK205.out 3; have hfz6_4 := blk_frozen BK205.out 4))
  refine bodyPost_ret (results_cell_row rfl _ _ gb205 33 #[.int .i64 0, .int .i64 2, .bool false, .slice Ao5 t206.length co5, .slice none 0 0] (0, 0) _ rfl (by (with_reducible repeat (first | refine blk_drewN ?_ _ | refine blk_drew ?_ | refine blk_alloc ?_ _)); refine blk_put (cs := #[.int .i64 0, .int .i64 2, .bool false, .slice Ao5 t206.length co5, .slice none 0 0]) ?_ 4 _ rfl; (with_reducible repeat (first | refine blk_drewN ?_ _ | refine blk_drew ?_ | refine blk_alloc ?_ _)); refine blk_put (cs := #[.int .i64 0, .int .i64 2, .bool false, .slice none 0 0, .slice none 0 0]) ?_ 3 _ rfl; (with_reducible repeat (first | refine blk_drewN ?_ _ | refine blk_drew ?_ | refine blk_alloc ?_ _)); refine blk_put (cs := #[.int .i64 0, .int .i64 2, .bool false, .slice none 0 0, .slice none 0 0]) ?_ 2 _ rfl; (with_reducible repeat (first | refine blk_drewN ?_ _ | refine blk_drew ?_ | refine blk_alloc ?_ _)); refine blk_put (cs := #[.int .i64 0, .int .i64 0, .bool false, .slice none 0 0, .slice none 0 0]) ?_ 1 _ rfl; (with_reducible repeat (first | refine blk_drewN ?_ _ | refine blk_drew ?_ | refine blk_alloc ?_ _)); refine blk_put (cs := #[.int .i64 0, .int .i64 0, .bool false, .slice none 0 0, .slice none 0 0]) ?_ 0 _ rfl; (with_reducible repeat (first | refine blk_drewN ?_ _ | refine blk_drew ?_ | refine blk_alloc ?_ _)); exact BK205.out) Tryd.underlying33 rfl (by kernel_rfl)) rfl ?_
  exact ⟨_, _, by first | rfl | (simp [errW_none, errW_some] <;> rfl) | (simp [*, errW_none, errW_some] <;> rfl), by (with_reducible repeat (first | apply Kd.R_alloc | apply Kd.R_drewN | apply Kd.R_drew)); exact Kd.R_mono (Kd.R_far (p := ⟨gb205, 4, none⟩) (Kd.R_far (p := ⟨gb205, 3, none⟩) (Kd.R_far (p := ⟨gb205, 2, none⟩) (Kd.R_far (p := ⟨gb205, 1, none⟩) (Kd.R_far (p := ⟨gb205, 0, none⟩) (Kd.R_types HO208.out BK205.out (by decide)) (fun _ hk => hk.2) (.int .i64 0)) (fun _ hk => hk.2) (.int .i64 2)) (fun _ hk => hk.2) (.bool false)) (fun _ hk => hk.2) (.slice Ao5 t206.length co5)) (fun _ hk => hk.2) (.slice none 0 0)) (fun _ hk => trivial), by first | exact Kd.R_nil _ _ _ _ _ | exact Kd.N_nil _ _ _ _ _ | exact Kd.V_nil _ _ _ _ _ | exact Kd.Q_nil _ _ _ _ _ | exact Kd.S_nil _ _ _ _ _, by repeat (first | (with_reducible first | exact HB.out | apply below_alloc | apply pw_below_drewN | apply below_drew1 | refine below_set ?_ GE205.out) | exact HB.out)⟩

-- NOT PRINTED: function 19 (spec_Bind)

/-! ### spec_Unbind: function 20 -/
-- NOT PRINTED: function 5 (laws_FnBind)

end Go.Proofs.YtbmcpjkhnhbjdaaDoor.PFnEncode
namespace Go.Proofs.YtbmcpjkhnhbjdaaDoor.Num
open Go.RowKit Go.Proofs.YtbmcpjkhnhbjdaaDoorW.PrintWords Go.Proofs.YtbmcpjkhnhbjdaaDoorW.PrintLast Go.Proofs.YtbmcpjkhnhbjdaaDoorW.PrintMore Go.Proofs.YtbmcpjkhnhbjdaaDoor.PFnEncode
set_option linter.unusedVariables false
set_option linter.unusedSimpArgs false

/-- the number of digits to the base 256, at least one -/
def nd (x : Nat) : Nat := if _h : x < 256 then 1 else nd (x / 256) + 1
termination_by x
decreasing_by omega

/-- m digits of a whole number to the base 256 (two's complement), the great one first -/
def be (x : Int) : Nat → List Int
  | 0 => []
  | m + 1 => (x / 256 ^ m % 256) :: be x m

theorem be_length (x : Int) (m : Nat) : (be x m).length = m := by
  induction m with
  | zero => rfl
  | succ m ih => simp [be, ih]

theorem be_snoc (x : Int) (m : Nat) : be x (m + 1) = be (x / 256) m ++ [x % 256] := by
  induction m with
  | zero => simp [be]
  | succ m ih =>
    rw [be, ih]
    show _ = ((x / 256) / 256 ^ m % 256) :: be (x / 256) m ++ _
    rw [Int.ediv_ediv_of_nonneg (by omega), show (256 : Int) * 256 ^ m = 256 ^ (m + 1) by rw [Int.pow_succ, Int.mul_comm]]
    rfl

theorem be_one (x : Int) : be x 1 = [x % 256] := by rw [be_snoc]; rfl

theorem be_range (x : Int) (m : Nat) : ∀ y ∈ be x m, 0 ≤ y ∧ y < 256 := by
  induction m with
  | zero => intro y hy; simp [be] at hy
  | succ m ih =>
    intro y hy
    rcases List.mem_cons.1 hy with rfl | hy
    · omega
    · exact ih y hy

theorem nd_small {x : Nat} (h : x < 256) : nd x = 1 := by rw [nd, dif_pos h]
theorem nd_great {x : Nat} (h : ¬ x < 256) : nd x = nd (x / 256) + 1 := by rw [nd, dif_neg h]

theorem nd_le : ∀ (k x : Nat), x < 256 ^ (k + 1) → nd x ≤ k + 1 := by
  intro k
  induction k with
  | zero => intro x h; rw [nd_small (by simpa using h)]; omega
  | succ k ih =>
    intro x h
    by_cases hx : x < 256
    · rw [nd_small hx]; omega
    · rw [nd_great hx]
      have := ih (x / 256) (by rw [Nat.div_lt_iff_lt_mul (by omega)]; rw [Nat.pow_succ] at h; exact h)
      omega

theorem nd_pos (x : Nat) : 1 ≤ nd x := by
  by_cases hx : x < 256
  · rw [nd_small hx]; omega
  · rw [nd_great hx]; omega

theorem ulen (k : Nat) : ∀ (x : Nat) (c : Int), x < 256 ^ (k + 1) → 0 ≤ c → c + k < 4611686018427387904 →
    asn1ber_uint64Length.l0 (k + 1) (x : Int) c = some (c + nd x - 1) := by
  induction k with
  | zero =>
    intro x c hx _ _
    have hx' : x < 256 := by simpa using hx
    unfold asn1ber_uint64Length.l0
    rw [if_neg (by omega), nd_small hx']
    congr 1; omega
  | succ k ih =>
    intro x c hx h0 hc
    unfold asn1ber_uint64Length.l0
    by_cases hs : x < 256
    · rw [if_neg (by omega), nd_small hs]
      congr 1; omega
    · rw [if_pos (by omega), nd_great hs]
      have e1 : wrap64 (c + 1) = c + 1 := by unfold wrap64; omega
      have e2 : (x : Int) / 256 = ((x / 256 : Nat) : Int) := by omega
      rw [e1, e2, ih (x / 256) (c + 1) (by rw [Nat.div_lt_iff_lt_mul (by omega)]; rw [Nat.pow_succ] at hx; exact hx) (by omega) (by omega)]
      congr 1; omega

theorem take_set_snoc (l : List Int) (j : Nat) (v : Int) (h : j < l.length) : (l.set j v).take (j + 1) = l.take j ++ [v] := by
  induction l generalizing j with
  | nil => simp at h
  | cons a l ih =>
    cases j with
    | zero => simp
    | succ j => simp only [List.set_cons_succ, List.take_succ_cons, List.cons_append]; rw [ih j (by simpa using h)]

theorem shr_at (k : IntKind) (hk : k.bits = 64) (x : Int) (m : Nat) (hm : m < 8) : (shr k x ((m : Int) * 8)) % 256 = x / 256 ^ m % 256 := by
  unfold shr
  rw [hk, show min ((m : Int) * 8).toNat 64 = 8 * m by omega, Int.pow_mul]
  rfl

theorem uenc (m : Nat) : ∀ (x : Int) (j : Nat) (out : List Int), m ≤ 8 → j + m ≤ 8 → out.length = j + m →
    asn1ber_encodeUnsignedInteger.l0 (m + 1) x (m : Int) out (j : Int) = some (out.take j ++ be x m) := by
  induction m with
  | zero =>
    intro x j out _ _ hl
    unfold asn1ber_encodeUnsignedInteger.l0
    rw [if_neg (by omega), List.take_of_length_le (by omega)]
    simp [be]
  | succ m ih =>
    intro x j out hm hj hl
    unfold asn1ber_encodeUnsignedInteger.l0
    have e1 : wrap64 (((m + 1 : Nat) : Int) - 1) = (m : Int) := by unfold wrap64; omega
    have e2 : wrap64 ((m : Int) * 8) = (m : Int) * 8 := by unfold wrap64; omega
    have e3 : IntKind.u64.wrap ((m : Int) * 8) = (m : Int) * 8 := IntWalk.u64_in _ (by omega)
    have e4 : wrap64 ((j : Int) + 1) = ((j + 1 : Nat) : Int) := by unfold wrap64; omega
    rw [e1, e2, e3, e4]
    rw [if_pos (show ((m + 1 : Nat) : Int) > 0 by omega), if_pos (show (0 : Int) ≤ (m : Int) * 8 by omega), if_pos (show (0 : Int) ≤ (j : Int) by omega), if_pos (show (j : Int) < (out.length : Int) by omega), shr_at .u64 rfl x m (by omega)]
    rw [Int.toNat_natCast, ih x (j + 1) (out.set j (x / 256 ^ m % 256)) (by omega) (by omega) (by rw [List.length_set]; omega)]
    rw [take_set_snoc _ _ _ (by omega)]
    simp [be]

theorem uint_enc (x : Nat) (hx : x < 256 ^ 8) (k : Nat) (hk : 9 ≤ k) : asn1ber_encodeUnsignedInteger.f k (x : Int) = some (be x (nd x)) := by
  have hn := nd_le 7 x hx
  have h1 : asn1ber_uint64Length.f 8 (x : Int) = some (nd x : Int) := by
    unfold asn1ber_uint64Length.f
    rw [ulen 7 x 1 hx (by omega) (by omega)]
    congr 1; omega
  have h1' := at_rounds (fun n => asn1ber_uint64Length.mono (x : Int) n) (show 8 ≤ k by omega) h1
  unfold asn1ber_encodeUnsignedInteger.f
  rw [h1']
  simp only [Option.bind_some]
  rw [if_pos (by omega), if_pos (by omega)]
  have h2 := uenc (nd x) x 0 (List.replicate (nd x) 0) hn (by omega) (by simp)
  have h2' := at_rounds (fun n => (asn1ber_encodeUnsignedInteger.mono_l n) (x : Int) (nd x : Int) (List.replicate (nd x) 0) 0) (show nd x + 1 ≤ k by omega) h2
  simp only [Int.toNat_natCast]
  rw [show (0 : Int) = ((0 : Nat) : Int) from rfl] at h2' ⊢
  rw [h2']; simp

/-- the bytes of a length -/
def lenBytes (n : Nat) : List Int := if n < 128 then [(n : Int)] else (128 + (nd n : Int)) :: be n (nd n)

theorem lenBytes_le (n : Nat) (h : n < 256 ^ 8) : (lenBytes n).length ≤ 9 := by
  unfold lenBytes
  have := nd_le 7 n h
  split
  · simp
  · simp [be_length]; omega

theorem or128 : ∀ n : Fin 9, Go.bits .or .u8 128 ((n : Nat) : Int) = 128 + ((n : Nat) : Int) := by decide +kernel

theorem enc_len (n : Nat) (hn : n < 256 ^ 7) : asn1ber_encodeLength.f 12 (n : Int) = some (lenBytes n) := by
  have h8 : n < 256 ^ 8 := by have : 256 ^ 7 ≤ 256 ^ 8 := Nat.pow_le_pow_right (by omega) (by omega); omega
  have hu : IntKind.u64.wrap (n : Int) = (n : Int) := IntWalk.u64_in _ (by simp at hn; omega)
  have hnd := nd_le 7 n h8
  have hp := nd_pos n
  unfold asn1ber_encodeLength.f lenBytes
  rw [hu, uint_enc n h8 12 (by omega)]
  simp only [Option.bind_some]
  by_cases hs : n < 128
  · rw [if_pos hs, if_neg (by omega), be_length, nd_small (by omega), if_neg (by omega), be_one]
    congr 1
    congr 1
    omega
  · rw [if_neg hs, if_pos (by omega), if_pos (by rw [be_length]; simp; omega), be_length]
    have e := or128 ⟨nd n, by omega⟩
    rw [show ((nd n : Nat) : Int) % 256 = (nd n : Int) by omega, e]
    rfl

theorem works_true : laws_works.f 12 = some true := by decide +kernel
theorem works_any (w : World) : Calls Tryd.prog 11 #[] w fun e w' => e = .returned (.bool true) ∧ Below w.heap.size w w' := laws_works.calls 12 true w works_true
theorem encLen_any (n : Nat) (h : n < 256 ^ 7) (w : World) : Calls Tryd.prog 105 #[.int .i64 (n : Int)] w fun e w' => ∃ v, e = .returned v ∧ (Kd.int .u8).R 5 w' w.heap.size (fun _ => True) v (lenBytes n) ∧ Below w.heap.size w w' :=
  asn1ber_encodeLength.calls 12 n _ w (enc_len n h)
end Go.Proofs.YtbmcpjkhnhbjdaaDoor.Num
