/- Parts of the proof of one law, in the order in which they build. Lengths as bytes: what encodeLength makes, in plain Lean; the contracts of encodeLength and works. -/
import Derived.Test.YteockihoefbmdaaGreatDoorEty2
import Derived.Test.YteockihoefbmdaaGreatDoorEty3
import Derived.Test.YteockihoefbmdaaGreatDoorEty4
namespace Go.Proofs.YteockihoefbmdaaGreatDoor.PFnEncode
open Go.RowKit Go.Proofs.YteockihoefbmdaaGreatDoorW.PrintWords Go.Proofs.YteockihoefbmdaaGreatDoorW.PrintLast Go.Proofs.YteockihoefbmdaaGreatDoorW.PrintMore
attribute [local go_sem] max2_int min2_int max_two min_two max_three min_three max_four min_four   -- for this text's walks alone
set_option linter.unusedVariables false
set_option linter.unusedSimpArgs false

/-! ### laws_short: function 7 -/
def laws_short.l0 : Nat → List ByteArray → List ByteArray → Int → Int → Option (Bool)
  | 0, _, _, _, _ => none
  | k + 1, x0, x5, x6, x7 => if x7 < x6 then (if 0 ≤ x7 then (if x7 < (x5.length : Int) then (if ((rdOf ByteArray.empty x5 x7).size : Int) > 200 then (some false) else (laws_short.l0 k x0 x5 x6 (wrap64 (x7 + 1)))) else (none)) else (none)) else (some (decide ((x0.length : Int) ≤ 20)))
def laws_short.f (k : Nat) (l0 : List ByteArray) : Option (Bool) := laws_short.l0 k l0 l0 (l0.length : Int) 0
theorem laws_short.mono_l : ∀ k, (∀ y0 y1 y2 y3, LeO (laws_short.l0 k y0 y1 y2 y3) (laws_short.l0 (k + 1) y0 y1 y2 y3))
  | 0 => fun _ _ _ _ r h => by simp [laws_short.l0] at h
  | k + 1 => by
    have ih0 := laws_short.mono_l k
    · intro y0 y1 y2 y3
      unfold laws_short.l0
      repeat' first
      | (with_reducible exact ih0 _ _ _ _)
      | (with_reducible exact LeO.refl _)
      | (with_reducible exact LeO.none _)
      | (with_reducible refine LeO.ite ?_ ?_)
      | (with_reducible refine LeO.bind ?_ (fun _ => ?_))
      | exact ih0 _ _ _ _
      | exact LeO.none _
      | refine LeO.ite ?_ ?_
      | refine LeO.bind ?_ (fun _ => ?_)
theorem laws_short.mono : ∀ a0 k, LeO (laws_short.f k a0) (laws_short.f (k + 1) a0) := by
  intro a0 k
  have ih0 := laws_short.mono_l k
  unfold laws_short.f
  repeat' first
      | (with_reducible exact ih0 _ _ _ _)
      | (with_reducible exact LeO.refl _)
      | (with_reducible exact LeO.none _)
      | (with_reducible refine LeO.ite ?_ ?_)
      | (with_reducible refine LeO.bind ?_ (fun _ => ?_))
      | exact ih0 _ _ _ _
      | exact LeO.none _
      | refine LeO.ite ?_ ?_
      | refine LeO.bind ?_ (fun _ => ?_)
set_option maxHeartbeats 8000000 in
set_option maxRecDepth 100000 in
theorem laws_short.calls (k : Nat) (A0 : Option Addr) (c0 : Nat) (l0 : List ByteArray) (r : Bool) (w : World) (hr0 : Kd.C Kd.string w A0 l0.length l0) (hc0 : l0.length ≤ c0) (h : laws_short.f k l0 = some r) :
    Calls Tryz.prog 7 #[.slice A0 l0.length c0] w fun e w' => e = .returned (.bool r) ∧ Drawn0 w w' := by
  have HR0 := Aside0.mk hr0
  have HC0 := Aside0.mk hc0
  clear hr0 hc0
  have H : (laws_short.l0 k l0 l0 (l0.length : Int) 0) = some r := h
  clear h
  have H' := Aside0.mk H
  clear H
  go_enter Tryz.func7, Tryz.ntmps7
  go_wp2
  go_loopg [7] k (fun kq v7 w' => ∃ (x7_1 : Int), v7 = .int .i64 x7_1 ∧ Aside0 (laws_short.l0 kq l0 l0 (l0.length : Int) x7_1 = some r) ∧ Aside0 (kq ≤ k) ∧ Drawn0 w w')
  case atStart => exact ⟨(0), (by first | rfl | (simp; done) | (simp [*]; done)), H', ⟨Nat.le_refl _⟩, by repeat (first | exact Drawn0.refl _ | apply Drawn0.step)⟩
  case round =>
    clear H'
    obtain ⟨x7_1, rfl, HA, HK1, ⟨m1, rfl⟩⟩ := hrel
    cases gk with
    | zero => exact absurd HA.out (by simp [laws_short.l0])
    | succ k1 =>
      have H := HA.out
      clear HA
      simp only [laws_short.l0] at H
      by_cases c2 : x7_1 < (l0.length : Int)
      · rw [if_pos c2] at H
        have c2b0 : decide (x7_1 < (l0.length : Int)) = true := decide_eq_true c2
        clear c2
        by_cases c3 : 0 ≤ x7_1
        · rw [if_pos c3] at H
          have c3b0 : decide (0 ≤ x7_1) = true := decide_eq_true c3
          clear c3
          by_cases c4 : x7_1 < (l0.length : Int)
          · rw [if_pos c4] at H
            have c4b0 : decide (x7_1 < (l0.length : Int)) = true := decide_eq_true c4
            clear c4
            by_cases c5 : ((rdOf ByteArray.empty l0 x7_1).size : Int) > 200
            · rw [if_pos c5] at H
              have c5b0 : decide (200 < ((rdOf ByteArray.empty l0 x7_1).size : Int)) = true := decide_eq_true c5
              have c5b1 : decide (200 < (rdOf ByteArray.empty l0 x7_1).size) = true := decide_eq_true (by omega)
              clear c5
              obtain rfl := Option.some.inj H
              have p101 : 0 ≤ (x7_1 : Int) := of_decide_eq_true (by first | (with_reducible assumption) | assumption)
              have q101 : x7_1 < (l0.length : Int) := of_decide_eq_true (by first | (with_reducible assumption) | assumption)
              obtain ⟨ad101, e101, hx101_0⟩ := Kd.at_string HR0.out x7_1 p101 q101
              cases e101
              replace p101 := eq_true p101
              replace q101 := eq_true q101
              go_wp2
              go_ret
              exact ⟨by first | rfl | (simp; done) | (simp [*]; done), by repeat (first | exact Drawn0.refl _ | apply Drawn0.step)⟩
            · rw [if_neg c5] at H
              have c5b0 : decide (200 < ((rdOf ByteArray.empty l0 x7_1).size : Int)) = false := decide_eq_false c5
              have c5b1 : decide (200 < (rdOf ByteArray.empty l0 x7_1).size) = false := decide_eq_false (by omega)
              clear c5
              have H' := Aside0.mk H
              clear H
              have p101 : 0 ≤ (x7_1 : Int) := of_decide_eq_true (by first | (with_reducible assumption) | assumption)
              have q101 : x7_1 < (l0.length : Int) := of_decide_eq_true (by first | (with_reducible assumption) | assumption)
              obtain ⟨ad101, e101, hx101_0⟩ := Kd.at_string HR0.out x7_1 p101 q101
              cases e101
              replace p101 := eq_true p101
              replace q101 := eq_true q101
              go_wp2
              go_roundg k1
              case measure => have := HK1.out; omega
              case rel => exact ⟨(wrap64 (x7_1 + 1)), (by first | rfl | (simp; done) | (simp [*]; done)), H', ⟨by have := HK1.out; omega⟩, by repeat (first | exact Drawn0.refl _ | apply Drawn0.step)⟩
          · rw [if_neg c4] at H
            exact absurd H (by simp)
        · rw [if_neg c3] at H
          exact absurd H (by simp)
      · rw [if_neg c2] at H
        have c2b0 : decide (x7_1 < (l0.length : Int)) = false := decide_eq_false c2
        clear c2
        obtain rfl := Option.some.inj H
        go_wp2
        go_ret
        exact ⟨by first | rfl | (simp; done) | (simp [*]; done), by repeat (first | exact Drawn0.refl _ | apply Drawn0.step)⟩

/-! ### asn1ber_uint64Length: function 141 -/
def asn1ber_uint64Length.l0 : Nat → Int → Int → Option (Int)
  | 0, _, _ => none
  | k + 1, x0, x2 => if x0 > 255 then (asn1ber_uint64Length.l0 k (x0 / 256) (wrap64 (x2 + 1))) else (some x2)
def asn1ber_uint64Length.f (k : Nat) (a0 : Int) : Option (Int) := asn1ber_uint64Length.l0 k a0 1
theorem asn1ber_uint64Length.mono_l : ∀ k, (∀ y0 y1, LeO (asn1ber_uint64Length.l0 k y0 y1) (asn1ber_uint64Length.l0 (k + 1) y0 y1))
  | 0 => fun _ _ r h => by simp [asn1ber_uint64Length.l0] at h
  | k + 1 => by
    have ih0 := asn1ber_uint64Length.mono_l k
    · intro y0 y1
      unfold asn1ber_uint64Length.l0
      repeat' first
      | (with_reducible exact ih0 _ _)
      | (with_reducible exact LeO.refl _)
      | (with_reducible exact LeO.none _)
      | (with_reducible refine LeO.ite ?_ ?_)
      | (with_reducible refine LeO.bind ?_ (fun _ => ?_))
      | exact ih0 _ _
      | exact LeO.none _
      | refine LeO.ite ?_ ?_
      | refine LeO.bind ?_ (fun _ => ?_)
theorem asn1ber_uint64Length.mono : ∀ a0 k, LeO (asn1ber_uint64Length.f k a0) (asn1ber_uint64Length.f (k + 1) a0) := by
  intro a0 k
  have ih0 := asn1ber_uint64Length.mono_l k
  unfold asn1ber_uint64Length.f
  repeat' first
      | (with_reducible exact ih0 _ _)
      | (with_reducible exact LeO.refl _)
      | (with_reducible exact LeO.none _)
      | (with_reducible refine LeO.ite ?_ ?_)
      | (with_reducible refine LeO.bind ?_ (fun _ => ?_))
      | exact ih0 _ _
      | exact LeO.none _
      | refine LeO.ite ?_ ?_
      | refine LeO.bind ?_ (fun _ => ?_)
set_option maxHeartbeats 8000000 in
set_option maxRecDepth 100000 in
theorem asn1ber_uint64Length.calls (k : Nat) (a0 : Int) (r : Int) (w : World) (h : asn1ber_uint64Length.f k a0 = some r) :
    Calls Tryz.prog 141 #[.int .u64 a0] w fun e w' => e = .returned (.int .i64 r) ∧ Drawn0 w w' := by
  have H : (asn1ber_uint64Length.l0 k a0 1) = some r := h
  clear h
  have H' := Aside0.mk H
  clear H
  go_enter Tryz.func141, Tryz.ntmps141
  go_wp2
  go_loopg [0, 2] k (fun kq v0 v2 w' => ∃ (x0_1 : Int) (x2_1 : Int), v0 = .int .u64 x0_1 ∧ v2 = .int .i64 x2_1 ∧ Aside0 (asn1ber_uint64Length.l0 kq x0_1 x2_1 = some r) ∧ Aside0 (kq ≤ k) ∧ Drawn0 w w')
  case atStart => exact ⟨(a0), (1), (by first | rfl | (simp; done) | (simp [*]; done)), (by first | rfl | (simp; done) | (simp [*]; done)), H', ⟨Nat.le_refl _⟩, by repeat (first | exact Drawn0.refl _ | apply Drawn0.step)⟩
  case round =>
    clear H'
    try clear c1
    obtain ⟨x0_1, x2_1, rfl, rfl, HA, HK1, ⟨m1, rfl⟩⟩ := hrel
    cases gk with
    | zero => exact absurd HA.out (by simp [asn1ber_uint64Length.l0])
    | succ k1 =>
      have H := HA.out
      clear HA
      simp only [asn1ber_uint64Length.l0] at H
      by_cases c2 : x0_1 > 255
      · rw [if_pos c2] at H
        have c2b0 : decide (255 < x0_1) = true := decide_eq_true c2
        clear c2
        have H' := Aside0.mk H
        clear H
        go_wp2
        go_roundg k1
        case measure => have := HK1.out; omega
        case rel => exact ⟨(x0_1 / 256), (wrap64 (x2_1 + 1)), (by first | rfl | (simp; done) | (simp [*]; done)), (by first | rfl | (simp; done) | (simp [*]; done)), H', ⟨by have := HK1.out; omega⟩, by repeat (first | exact Drawn0.refl _ | apply Drawn0.step)⟩
      · rw [if_neg c2] at H
        have c2b0 : decide (255 < x0_1) = false := decide_eq_false c2
        clear c2
        obtain rfl := Option.some.inj H
        go_wp2
        go_ret
        exact ⟨by first | rfl | (simp; done) | (simp [*]; done), by repeat (first | exact Drawn0.refl _ | apply Drawn0.step)⟩

/-! ### asn1ber_encodeUnsignedInteger: function 120 -/
def asn1ber_encodeUnsignedInteger.l0 : Nat → Int → Int → List Int → Int → Option (List Int)
  | 0, _, _, _, _ => none
  | k + 1, x0, x3, x4, x5 => if x3 > 0 then (if 0 ≤ (IntKind.u64.wrap (wrap64 ((wrap64 (x3 - 1)) * 8))) then (if 0 ≤ x5 then (if x5 < (x4.length : Int) then (asn1ber_encodeUnsignedInteger.l0 k x0 (wrap64 (x3 - 1)) (x4.set (x5 : Int).toNat ((shr .u64 x0 (IntKind.u64.wrap (wrap64 ((wrap64 (x3 - 1)) * 8)))) % 256)) (wrap64 (x5 + 1))) else (none)) else (none)) else (none)) else (some x4)
def asn1ber_encodeUnsignedInteger.f (k : Nat) (a0 : Int) : Option (List Int) := (asn1ber_uint64Length.f k a0).bind fun t102 => (if 0 ≤ t102 then (if (t102 : Int).toNat ≤ 281474976710656 then (asn1ber_encodeUnsignedInteger.l0 k a0 t102 (List.replicate (t102 : Int).toNat 0) 0) else (none)) else (none))
theorem asn1ber_encodeUnsignedInteger.mono_l : ∀ k, (∀ y0 y1 y2 y3, LeO (asn1ber_encodeUnsignedInteger.l0 k y0 y1 y2 y3) (asn1ber_encodeUnsignedInteger.l0 (k + 1) y0 y1 y2 y3))
  | 0 => fun _ _ _ _ r h => by simp [asn1ber_encodeUnsignedInteger.l0] at h
  | k + 1 => by
    have ih0 := asn1ber_encodeUnsignedInteger.mono_l k
    · intro y0 y1 y2 y3
      unfold asn1ber_encodeUnsignedInteger.l0
      repeat' first
      | (with_reducible exact ih0 _ _ _ _)
      | (with_reducible exact asn1ber_uint64Length.mono _ _)
      | (with_reducible exact LeO.refl _)
      | (with_reducible exact LeO.none _)
      | (with_reducible refine LeO.ite ?_ ?_)
      | (with_reducible refine LeO.bind ?_ (fun _ => ?_))
      | exact ih0 _ _ _ _
      | exact asn1ber_uint64Length.mono _ _
      | exact LeO.none _
      | refine LeO.ite ?_ ?_
      | refine LeO.bind ?_ (fun _ => ?_)
set_option maxHeartbeats 8000000 in
set_option maxRecDepth 100000 in
theorem asn1ber_encodeUnsignedInteger.calls (k : Nat) (a0 : Int) (r : List Int) (w : World) (h : asn1ber_encodeUnsignedInteger.f k a0 = some r) :
    Calls Tryz.prog 120 #[.int .u64 a0] w fun e w' => ∃ v0_ : Value, e = .returned (v0_) ∧ Kd.R (Kd.int .u8) 5 w' w.heap.size (fun _ => True) v0_ r ∧ Below w.heap.size w w' := by
  have HB := Aside0.mk (Below.refl w.heap.size w)
  have H : ((asn1ber_uint64Length.f k a0).bind fun t102 => (if 0 ≤ t102 then (if (t102 : Int).toNat ≤ 281474976710656 then (asn1ber_encodeUnsignedInteger.l0 k a0 t102 (List.replicate (t102 : Int).toNat 0) 0) else (none)) else (none))) = some r := h
  clear h
  replace H := Option.bind_eq_some_iff.mp H
  obtain ⟨t102, A20, H⟩ := H
  replace H : (if 0 ≤ t102 then (if (t102 : Int).toNat ≤ 281474976710656 then (asn1ber_encodeUnsignedInteger.l0 k a0 t102 (List.replicate (t102 : Int).toNat 0) 0) else (none)) else (none)) = some r := H
  have A2 := Aside0.mk A20
  clear A20
  by_cases c3 : 0 ≤ t102
  · rw [if_pos c3] at H
    have c3b0 := eq_true c3
    have c3b1 : decide (0 ≤ t102) = true := decide_eq_true c3
    clear c3
    by_cases c4 : (t102 : Int).toNat ≤ 281474976710656
    · rw [if_pos c4] at H
      have c4b0 := eq_true c4
      have c4b1 : decide ((t102 : Int).toNat ≤ 281474976710656) = true := decide_eq_true c4
      clear c4
      obtain ⟨y103, hy103⟩ : ∃ y_ : List Int, y_ = (List.replicate (t102 : Int).toNat 0) := ⟨_, rfl⟩
      replace H : (asn1ber_encodeUnsignedInteger.l0 k a0 t102 y103 0) = some r := by first | (rw [hy103]; with_reducible exact H) | (have H2_ := (Option.bind_some _ _).symm.trans H; rw [hy103]; with_reducible exact H2_) | (have H2_ := (Option.bind_some _ _).symm.trans H; with_reducible exact H2_) | with_reducible exact H | (rw [hy103]; exact H) | exact H
      have Ny103 := Aside0.mk hy103
      clear hy103
      have H' := Aside0.mk H
      clear H
      go_enter Tryz.func120, Tryz.ntmps120
      go_wp2_with (first | ((with_reducible refine gate_callee (f := 141) rfl ?_); refine goesL_ (some 7) rfl rfl Tryz.func141 (by kernel_rfl) rfl #[.int .u64 a0] rfl (by (try simp only [List.map_toArray, List.map_cons, List.map_nil]); first | done | rfl | (simp only [List.length_drop, List.length_take]; rfl)) ?_; (with_reducible refine (asn1ber_uint64Length.calls k a0 t102 _ A2.out).mono ?_); rintro e w' ⟨rfl, ⟨nd, rfl⟩⟩; refine ⟨_, rfl, ?_⟩) | ((with_reducible refine gate_dst (N := 9) rfl ?_); refine Kd.R_make (Kd.int .u8) _ 5 rfl (N := 9) rfl 22 _ _ rfl t102 rfl rfl Tryz.underlying22 (.int .u8 0) 1 info5 rfl (by decide) (by omega) 0 (ok := fun _ => True) (okp := fun _ => True) rfl (fun _ hk => hk) trivial (of_decide_eq_true (by first | (with_reducible assumption) | assumption)) (Nat.le_trans (Nat.mul_le_mul_right _ (of_decide_eq_true (by first | (with_reducible assumption) | assumption) : t102.toNat ≤ 281474976710656)) (by omega)) (Below.refl _ _) (Nat.le_refl _) ?_; intro v104 w5 ho6 hb hg_ hnew_; clear hg_ hnew_; (first | rw [← Ny103.out] at ho6 | (simp only [Int.reduceToNat] at ho6; rw [← Ny103.out] at ho6)); have n0_ := Aside0.mk (Kd.R_lower ho6 (below_size (by repeat (first | (with_reducible first | exact HB.out | apply below_alloc | apply pw_below_drewN | apply below_drew1) | exact HB.out)))); have n1_ := Aside0.mk (below_step (by repeat (first | (with_reducible first | exact HB.out | apply below_alloc | apply pw_below_drewN | apply below_drew1) | exact HB.out)) hb); clear HB; have HO105 := n0_; have HB := n1_; clear n0_ n1_; clear hb ho6))
      go_loopg [3, 5] k (fun kq v3 v5 w' => ∃ (x3_1 : Int) (x4_1 : List Int) (x5_1 : Int), v3 = .int .i64 x3_1 ∧ v5 = .int .i64 x5_1 ∧ Aside0 (asn1ber_encodeUnsignedInteger.l0 kq a0 x3_1 x4_1 x5_1 = some r) ∧ Aside0 (kq ≤ k) ∧ Aside0 (Kd.R (Kd.int .u8) 5 w' w.heap.size (fun _ => True) v104 x4_1) ∧ Aside0 (Below w.heap.size w w'))
      case atStart => exact ⟨(t102), (y103), (0), (by first | rfl | (simp; done) | (simp [*]; done)), (by first | rfl | (simp; done) | (simp [*]; done)), H', ⟨Nat.le_refl _⟩, ⟨by (with_reducible repeat (first | apply Kd.R_alloc | apply Kd.R_drewN | apply Kd.R_drew)); exact HO105.out⟩, ⟨by repeat (first | (with_reducible first | exact HB.out | apply below_alloc | apply pw_below_drewN | apply below_drew1) | exact HB.out)⟩⟩
      case round =>
        clear H'
        try clear c1
        try clear p2
        try clear c3
        try clear c3b0
        try clear c3b1
        try clear c4
        try clear c4b0
        try clear c4b1
        obtain ⟨x3_1, x4_1, x5_1, rfl, rfl, HA, HK1, HO_4, HB⟩ := hrel
        cases gk with
        | zero => exact absurd HA.out (by simp [asn1ber_encodeUnsignedInteger.l0])
        | succ k1 =>
          have H := HA.out
          clear HA
          simp only [asn1ber_encodeUnsignedInteger.l0] at H
          by_cases c7 : x3_1 > 0
          · rw [if_pos c7] at H
            have c7b0 : decide (0 < x3_1) = true := decide_eq_true c7
            clear c7
            obtain ⟨ji8, hji8⟩ : ∃ j_ : Int, (IntKind.u64.wrap (wrap64 ((wrap64 (x3_1 - 1)) * 8))) = j_ := ⟨_, rfl⟩
            replace H : (if 0 ≤ (ji8) then (if 0 ≤ x5_1 then (if x5_1 < (x4_1.length : Int) then (asn1ber_encodeUnsignedInteger.l0 k1 a0 (wrap64 (x3_1 - 1)) (x4_1.set (x5_1 : Int).toNat ((shr .u64 a0 (ji8)) % 256)) (wrap64 (x5_1 + 1))) else (none)) else (none)) else (none)) = some r := by first | (rw [hji8] at H; exact H) | (simp only [hji8] at H ⊢; exact H)
            by_cases c9 : 0 ≤ (ji8)
            · rw [if_pos c9] at H
              have c9b0 := eq_true c9
              have c9b1 : decide (0 ≤ (ji8)) = true := decide_eq_true c9
              clear c9
              obtain ⟨ji10, hji10⟩ : ∃ j_ : Int, (shr .u64 a0 (ji8)) = j_ := ⟨_, rfl⟩
              replace H : (if 0 ≤ x5_1 then (if x5_1 < (x4_1.length : Int) then (asn1ber_encodeUnsignedInteger.l0 k1 a0 (wrap64 (x3_1 - 1)) (x4_1.set (x5_1 : Int).toNat ((ji10) % 256)) (wrap64 (x5_1 + 1))) else (none)) else (none)) = some r := by first | (rw [hji10] at H; exact H) | (simp only [hji10] at H ⊢; exact H)
              have hji10_ : (a0 / 2 ^ min (ji8).toNat 64) = ji10 := hji10
              have hji10z : (ji8) ≤ 64 → (a0 / 2 ^ (ji8).toNat) = ji10 := shr_small hji10
              by_cases c11 : 0 ≤ x5_1
              · rw [if_pos c11] at H
                have c11b0 : decide (0 ≤ x5_1) = true := decide_eq_true c11
                clear c11
                by_cases c12 : x5_1 < (x4_1.length : Int)
                · rw [if_pos c12] at H
                  have c12b0 : decide (x5_1 < (x4_1.length : Int)) = true := decide_eq_true c12
                  clear c12
                  obtain ⟨y106, hy106⟩ : ∃ y_ : List Int, y_ = (x4_1.set (x5_1 : Int).toNat ((ji10) % 256)) := ⟨_, rfl⟩
                  replace H : (asn1ber_encodeUnsignedInteger.l0 k1 a0 (wrap64 (x3_1 - 1)) y106 (wrap64 (x5_1 + 1))) = some r := by first | (rw [hy106]; with_reducible exact H) | (have H2_ := (Option.bind_some _ _).symm.trans H; rw [hy106]; with_reducible exact H2_) | (have H2_ := (Option.bind_some _ _).symm.trans H; with_reducible exact H2_) | with_reducible exact H | (rw [hy106]; exact H) | exact H
                  have Ny106 := Aside0.mk hy106
                  clear hy106
                  have H' := Aside0.mk H
                  clear H
                  have p13 : 0 ≤ (x5_1 : Int) := of_decide_eq_true (by first | (with_reducible assumption) | assumption)
                  have q13 : (x5_1 : Int) < ((x4_1.length : Int) : Int) := of_decide_eq_true (by first | (with_reducible assumption) | assumption)
                  obtain ⟨go13, co13, eo13, gb13, gl13, cl13, HG13⟩ := Kd.R_form HO_4.out (by omega)
                  (first | cases eo13 | (injection eo13 with ea_ en_ ec_; (first | subst ea_ | (injection ea_ with ea_; subst ea_)); subst ec_; clear en_))
                  have GB13 := Aside0.mk gb13
                  have GG13 := Aside0.mk HG13
                  clear gb13 gl13 HG13
                  obtain ⟨hx13_0, hf13_0⟩ := Kd.R_celln 0 HO_4.out (x5_1 : Int) p13 q13
                  replace p13 := eq_true p13
                  replace q13 := eq_true q13
                  have HP14 := Kd.R_putg HO_4.out (x5_1 : Int) ((ji10) % 256)
                  go_wp2_with (first | ((with_reducible refine gate_store (t := 5) (p := 23) rfl ?_); refine store_event (t := 5) (p := 23) (v := ?vo_w15) (w1 := (wr.setCell ⟨go13, (x5_1 : Int).toNat, none⟩ (.int .u8 ((ji10) % 256)))) ?hg ?ho ?hn ?hr ?_; (case ho => rfl); (case hg => rfl); (case hn => rfl); (case hr => first | (go_simp; done) | (go_simp; rfl)); intro w15 hw; have hg : wr.grownBy w15 (some go13) := (by rw [hw]; exact HP14.2); have hp_ : Kd.R (Kd.int .u8) 5 w15 w.heap.size (fun _ => True) (.slice (some ⟨go13, 0, none⟩) x4_1.length co13) y106 := (by rw [hw, Ny106.out]; exact HP14.1); clear HP14; have n0_ := Aside0.mk (hp_); have n1_ := Aside0.mk ((by rw [hw]; exact below_set (HB.out) GB13.out : Below w.heap.size w w15)); clear HO_4; clear HB; have HO_4 := n0_; have HB := n1_; clear n0_ n1_; clear hg hw hp_))
                  go_roundg k1
                  case measure => have := HK1.out; omega
                  case rel => exact ⟨(wrap64 (x3_1 - 1)), (y106), (wrap64 (x5_1 + 1)), (by first | rfl | (simp; done) | (simp [*]; done)), (by first | rfl | (simp; done) | (simp [*]; done)), H', ⟨by have := HK1.out; omega⟩, ⟨by (with_reducible repeat (first | apply Kd.R_alloc | apply Kd.R_drewN | apply Kd.R_drew)); exact HO_4.out⟩, ⟨by repeat (first | (with_reducible first | exact HB.out | apply below_alloc | apply pw_below_drewN | apply below_drew1) | exact HB.out)⟩⟩
                · rw [if_neg c12] at H
                  exact absurd H (by simp)
              · rw [if_neg c11] at H
                exact absurd H (by simp)
            · rw [if_neg c9] at H
              exact absurd H (by simp)
          · rw [if_neg c7] at H
            have c7b0 : decide (0 < x3_1) = false := decide_eq_false c7
            clear c7
            obtain rfl := Option.some.inj H
            go_wp2
            go_ret
            exact ⟨_, by first | rfl | (simp [errW_none, errW_some] <;> rfl) | (simp [*, errW_none, errW_some] <;> rfl), by (with_reducible repeat (first | apply Kd.R_alloc | apply Kd.R_drewN | apply Kd.R_drew)); exact HO_4.out, by repeat (first | (with_reducible first | exact HB.out | apply below_alloc | apply pw_below_drewN | apply below_drew1) | exact HB.out)⟩
    · rw [if_neg c4] at H
      exact absurd H (by simp)
  · rw [if_neg c3] at H
    exact absurd H (by simp)

/-! ### asn1ber_encodeLength: function 103 -/
def asn1ber_encodeLength.f (k : Nat) (a0 : Int) : Option (List Int) := (asn1ber_encodeUnsignedInteger.f k (IntKind.u64.wrap (a0))).bind fun t107 => (if a0 > 127 then ((some (([Go.bits .or .u8 128 (((t107.length : Int)) % 256)] : List Int) : List Int)).bind fun y110 => (if y110.length + t107.length < 140737488355328 then (some (y110 ++ t107)) else (none))) else (if (t107.length : Int) > 1 then ((some (([Go.bits .or .u8 128 (((t107.length : Int)) % 256)] : List Int) : List Int)).bind fun y116 => (if y116.length + t107.length < 140737488355328 then (some (y116 ++ t107)) else (none))) else (some t107)))
set_option maxHeartbeats 8000000 in
set_option maxRecDepth 100000 in
theorem asn1ber_encodeLength.calls (k : Nat) (a0 : Int) (r : List Int) (w : World) (h : asn1ber_encodeLength.f k a0 = some r) :
    Calls Tryz.prog 103 #[.int .i64 a0] w fun e w' => ∃ v0_ : Value, e = .returned (v0_) ∧ Kd.R (Kd.int .u8) 5 w' w.heap.size (fun _ => True) v0_ r ∧ Below w.heap.size w w' := by
  have HB := Aside0.mk (Below.refl w.heap.size w)
  have H : ((asn1ber_encodeUnsignedInteger.f k (IntKind.u64.wrap (a0))).bind fun t107 => (if a0 > 127 then ((some (([Go.bits .or .u8 128 (((t107.length : Int)) % 256)] : List Int) : List Int)).bind fun y110 => (if y110.length + t107.length < 140737488355328 then (some (y110 ++ t107)) else (none))) else (if (t107.length : Int) > 1 then ((some (([Go.bits .or .u8 128 (((t107.length : Int)) % 256)] : List Int) : List Int)).bind fun y116 => (if y116.length + t107.length < 140737488355328 then (some (y116 ++ t107)) else (none))) else (some t107)))) = some r := h
  clear h
  replace H := Option.bind_eq_some_iff.mp H
  obtain ⟨t107, A20, H⟩ := H
  replace H : (if a0 > 127 then ((some (([Go.bits .or .u8 128 (((t107.length : Int)) % 256)] : List Int) : List Int)).bind fun y110 => (if y110.length + t107.length < 140737488355328 then (some (y110 ++ t107)) else (none))) else (if (t107.length : Int) > 1 then ((some (([Go.bits .or .u8 128 (((t107.length : Int)) % 256)] : List Int) : List Int)).bind fun y116 => (if y116.length + t107.length < 140737488355328 then (some (y116 ++ t107)) else (none))) else (some t107))) = some r := H
  have A2 := Aside0.mk A20
  clear A20
  by_cases c3 : a0 > 127
  · rw [if_pos c3] at H
    have c3b0 : decide (127 < a0) = true := decide_eq_true c3
    clear c3
    obtain ⟨y110, hy110⟩ : ∃ y_ : List Int, y_ = (([Go.bits .or .u8 128 (((t107.length : Int)) % 256)] : List Int)) := ⟨_, rfl⟩
    replace H : (if y110.length + t107.length < 140737488355328 then (some (y110 ++ t107)) else (none)) = some r := by first | (rw [hy110]; with_reducible exact H) | (have H2_ := (Option.bind_some _ _).symm.trans H; rw [hy110]; with_reducible exact H2_) | (have H2_ := (Option.bind_some _ _).symm.trans H; with_reducible exact H2_) | with_reducible exact H | (rw [hy110]; exact H) | exact H
    have Ny110 := Aside0.mk hy110
    clear hy110
    by_cases c4 : y110.length + t107.length < 140737488355328
    · rw [if_pos c4] at H
      have LMc4 := Aside0.mk c4
      clear c4
      obtain ⟨y113, hy113⟩ : ∃ y_ : List Int, y_ = (y110 ++ t107) := ⟨_, rfl⟩
      replace H : (some y113) = some r := by first | (rw [hy113]; with_reducible exact H) | (have H2_ := (Option.bind_some _ _).symm.trans H; rw [hy113]; with_reducible exact H2_) | (have H2_ := (Option.bind_some _ _).symm.trans H; with_reducible exact H2_) | with_reducible exact H | (rw [hy113]; exact H) | exact H
      have Ny113 := Aside0.mk hy113
      clear hy113
      obtain rfl := Option.some.inj H
      go_enter Tryz.func103, Tryz.ntmps103
      go_wp2_with (first | ((with_reducible refine gate_callee (f := 120) rfl ?_); refine goesL_ (some 7) rfl rfl Tryz.func120 (by kernel_rfl) rfl #[.int .u64 (IntKind.u64.wrap (a0))] rfl (by (try simp only [List.map_toArray, List.map_cons, List.map_nil]); first | done | rfl | (simp only [List.length_drop, List.length_take]; rfl)) ?_; (with_reducible refine (asn1ber_encodeUnsignedInteger.calls k (IntKind.u64.wrap (a0)) t107 _ A2.out).mono ?_); rintro e w5 ⟨v108, rfl, ho0, hb⟩; refine ⟨_, rfl, ?_⟩; have n0_ := Aside0.mk (Kd.R_lower ho0 (below_size (by repeat (first | (with_reducible first | exact HB.out | apply below_alloc | apply pw_below_drewN | apply below_drew1) | exact HB.out)))); have n1_ := Aside0.mk (below_step (by repeat (first | (with_reducible first | exact HB.out | apply below_alloc | apply pw_below_drewN | apply below_drew1) | exact HB.out)) hb); clear HB; have HO109 := n0_; have HB := n1_; clear n0_ n1_; (try clear hb); (try clear hb2); (try clear hk); (try clear hi); (try clear ho0); obtain ⟨Ao6, co6, eo6⟩ := Kd.R_slice HO109.out; subst eo6) | ((with_reducible refine gate_dst (N := 19) rfl ?_); (try (refine gate_guard (by rfl) ?_; dsimp only)); refine Kd.R_lit (Kd.int .u8) _ 5 ?hg (N := 19) ?hd (xs := ([Go.bits .or .u8 128 (((t107.length : Int)) % 256)] : List Int)) (inner := [.int .u8 (Go.bits .or .u8 128 (((t107.length : Int)) % 256))]) (ok := fun _ => True) (okp := fun _ => True) ?hr ?hp (fun _ hk => hk) trivial (Below.refl _ _) (Nat.le_refl _) (by simp) ?_; (case hd => rfl); (case hg => rfl); (case hr => first | (go_simp; done) | (go_simp; rfl)); (case hp => exact (Reps.one (show Kd.M (Kd.int .u8) _ _ _ (Go.bits .or .u8 128 (((t107.length : Int)) % 256)) [.int .u8 (Go.bits .or .u8 128 (((t107.length : Int)) % 256))] from rfl) (Reps.none _ _))); intro v111 w7 ho8 hb hg_ hnew_; clear hg_ hnew_; (first | rw [← Ny110.out] at ho8 | (simp only [Int.reduceToNat] at ho8; rw [← Ny110.out] at ho8)); have n0_ := Aside0.mk (Kd.R_elder' (by (with_reducible repeat (first | apply Kd.R_alloc | apply Kd.R_drewN | apply Kd.R_drew)); exact HO109.out) (Kd.R_base ho8) hb); have n1_ := Aside0.mk (Kd.R_lower (Kd.R_new' ho8 (Kd.R_lt (by (with_reducible repeat (first | apply Kd.R_alloc | apply Kd.R_drewN | apply Kd.R_drew)); exact HO109.out))) (below_size (by repeat (first | (with_reducible first | exact HB.out | apply below_alloc | apply pw_below_drewN | apply below_drew1) | exact HB.out)))); have n2_ := Aside0.mk (below_step (by repeat (first | (with_reducible first | exact HB.out | apply below_alloc | apply pw_below_drewN | apply below_drew1) | exact HB.out)) hb); clear HO109; clear HB; have HO109 := n0_; have HO112 := n1_; have HB := n2_; clear n0_ n1_ n2_; clear hb ho8) | ((with_reducible refine gate_builtin (b := .append) (xs := #[.tmp 20, .tmp 21]) rfl ?_); (try (refine gate_guard (by rfl) ?_; dsimp only)); at_builtin; refine Kd.R_append_rows (Kd.int .u8) (w0 := w) w.heap.size rfl (.tmp 20) (.tmp 21) 22 5 (.int .u8 0) 1 rfl Tryz.underlying22 info5 rfl (by decide) (by omega) v111 y110 t107 _ _ _ (fun k_ => some k_ ≠ (.slice Ao6 t107.length co6 : Value).ownBlock) (fun _ => False) rfl rfl ?aO ?aR (fun _ _ h => h) (fun _ h => h.elim) ?aF ?aB ?aS ?aL ?_; (case aR => repeat (first | exact (Kd.R_reads' HO109.out).2.2 | (with_reducible refine Kd.C_alloc ?_ _) | (with_reducible refine Kd.C_drewN ?_ _) | (with_reducible refine Kd.C_drew ?_))); (case aB => exact (by repeat (first | (with_reducible first | exact HB.out | apply below_alloc | apply pw_below_drewN | apply below_drew1) | exact HB.out))); (case aF => exact (fun k_ hk => Kd.fresh' (Kd.R_lt (by (with_reducible repeat (first | apply Kd.R_alloc | apply Kd.R_drewN | apply Kd.R_drew)); exact HO109.out)) k_ hk)); (case aO => exact (by (with_reducible repeat (first | apply Kd.R_alloc | apply Kd.R_drewN | apply Kd.R_drew)); exact Kd.R_mono HO112.out (fun _ hk => hk.2))); (case aS => exact (below_size (by repeat (first | (with_reducible first | exact HB.out | apply below_alloc | apply pw_below_drewN | apply below_drew1) | exact HB.out)))); (case aL => have := LMc4.out; omega); intro v114 w9 ho hb hg hat; rw [← Ny113.out] at ho; have n0_ := Aside0.mk (Kd.R_after (ok := (fun _ => True)) (by (with_reducible repeat (first | apply Kd.R_alloc | apply Kd.R_drewN | apply Kd.R_drew)); exact HO109.out) hg hat); have n1_ := Aside0.mk (hb); have n2_ := Aside0.mk (ho); clear HO109; clear HB; clear HO112; have HO109 := n0_; have HB := n1_; have HO115 := n2_; clear n0_ n1_ n2_; clear ho hb hg hat))
      go_ret
      exact ⟨_, by first | rfl | (simp [errW_none, errW_some] <;> rfl) | (simp [*, errW_none, errW_some] <;> rfl), by (with_reducible repeat (first | apply Kd.R_alloc | apply Kd.R_drewN | apply Kd.R_drew)); exact Kd.R_mono HO115.out (fun _ hk => trivial), by repeat (first | (with_reducible first | exact HB.out | apply below_alloc | apply pw_below_drewN | apply below_drew1) | exact HB.out)⟩
    · rw [if_neg c4] at H
      exact absurd H (by simp)
  · rw [if_neg c3] at H
    have c3b0 : decide (127 < a0) = false := decide_eq_false c3
    clear c3
    by_cases c10 : (t107.length : Int) > 1
    · rw [if_pos c10] at H
      have c10b0 : decide (1 < (t107.length : Int)) = true := decide_eq_true c10
      have c10b1 : decide (1 < t107.length) = true := decide_eq_true (by omega)
      clear c10
      obtain ⟨y116, hy116⟩ : ∃ y_ : List Int, y_ = (([Go.bits .or .u8 128 (((t107.length : Int)) % 256)] : List Int)) := ⟨_, rfl⟩
      replace H : (if y116.length + t107.length < 140737488355328 then (some (y116 ++ t107)) else (none)) = some r := by first | (rw [hy116]; with_reducible exact H) | (have H2_ := (Option.bind_some _ _).symm.trans H; rw [hy116]; with_reducible exact H2_) | (have H2_ := (Option.bind_some _ _).symm.trans H; with_reducible exact H2_) | with_reducible exact H | (rw [hy116]; exact H) | exact H
      have Ny116 := Aside0.mk hy116
      clear hy116
      by_cases c11 : y116.length + t107.length < 140737488355328
      · rw [if_pos c11] at H
        have LMc11 := Aside0.mk c11
        clear c11
        obtain ⟨y119, hy119⟩ : ∃ y_ : List Int, y_ = (y116 ++ t107) := ⟨_, rfl⟩
        replace H : (some y119) = some r := by first | (rw [hy119]; with_reducible exact H) | (have H2_ := (Option.bind_some _ _).symm.trans H; rw [hy119]; with_reducible exact H2_) | (have H2_ := (Option.bind_some _ _).symm.trans H; with_reducible exact H2_) | with_reducible exact H | (rw [hy119]; exact H) | exact H
        have Ny119 := Aside0.mk hy119
        clear hy119
        obtain rfl := Option.some.inj H
        go_enter Tryz.func103, Tryz.ntmps103
        go_wp2_with (first | ((with_reducible refine gate_callee (f := 120) rfl ?_); refine goesL_ (some 7) rfl rfl Tryz.func120 (by kernel_rfl) rfl #[.int .u64 (IntKind.u64.wrap (a0))] rfl (by (try simp only [List.map_toArray, List.map_cons, List.map_nil]); first | done | rfl | (simp only [List.length_drop, List.length_take]; rfl)) ?_; (with_reducible refine (asn1ber_encodeUnsignedInteger.calls k (IntKind.u64.wrap (a0)) t107 _ A2.out).mono ?_); rintro e w12 ⟨v108, rfl, ho0, hb⟩; refine ⟨_, rfl, ?_⟩; have n0_ := Aside0.mk (Kd.R_lower ho0 (below_size (by repeat (first | (with_reducible first | exact HB.out | apply below_alloc | apply pw_below_drewN | apply below_drew1) | exact HB.out)))); have n1_ := Aside0.mk (below_step (by repeat (first | (with_reducible first | exact HB.out | apply below_alloc | apply pw_below_drewN | apply below_drew1) | exact HB.out)) hb); clear HB; have HO109 := n0_; have HB := n1_; clear n0_ n1_; (try clear hb); (try clear hb2); (try clear hk); (try clear hi); (try clear ho0); obtain ⟨Ao13, co13, eo13⟩ := Kd.R_slice HO109.out; subst eo13) | ((with_reducible refine gate_dst (N := 19) rfl ?_); (try (refine gate_guard (by rfl) ?_; dsimp only)); refine Kd.R_lit (Kd.int .u8) _ 5 ?hg (N := 19) ?hd (xs := ([Go.bits .or .u8 128 (((t107.length : Int)) % 256)] : List Int)) (inner := [.int .u8 (Go.bits .or .u8 128 (((t107.length : Int)) % 256))]) (ok := fun _ => True) (okp := fun _ => True) ?hr ?hp (fun _ hk => hk) trivial (Below.refl _ _) (Nat.le_refl _) (by simp) ?_; (case hd => rfl); (case hg => rfl); (case hr => first | (go_simp; done) | (go_simp; rfl)); (case hp => exact (Reps.one (show Kd.M (Kd.int .u8) _ _ _ (Go.bits .or .u8 128 (((t107.length : Int)) % 256)) [.int .u8 (Go.bits .or .u8 128 (((t107.length : Int)) % 256))] from rfl) (Reps.none _ _))); intro v117 w14 ho15 hb hg_ hnew_; clear hg_ hnew_; (first | rw [← Ny116.out] at ho15 | (simp only [Int.reduceToNat] at ho15; rw [← Ny116.out] at ho15)); have n0_ := Aside0.mk (Kd.R_elder' (by (with_reducible repeat (first | apply Kd.R_alloc | apply Kd.R_drewN | apply Kd.R_drew)); exact HO109.out) (Kd.R_base ho15) hb); have n1_ := Aside0.mk (Kd.R_lower (Kd.R_new' ho15 (Kd.R_lt (by (with_reducible repeat (first | apply Kd.R_alloc | apply Kd.R_drewN | apply Kd.R_drew)); exact HO109.out))) (below_size (by repeat (first | (with_reducible first | exact HB.out | apply below_alloc | apply pw_below_drewN | apply below_drew1) | exact HB.out)))); have n2_ := Aside0.mk (below_step (by repeat (first | (with_reducible first | exact HB.out | apply below_alloc | apply pw_below_drewN | apply below_drew1) | exact HB.out)) hb); clear HO109; clear HB; have HO109 := n0_; have HO118 := n1_; have HB := n2_; clear n0_ n1_ n2_; clear hb ho15) | ((with_reducible refine gate_builtin (b := .append) (xs := #[.tmp 20, .tmp 21]) rfl ?_); (try (refine gate_guard (by rfl) ?_; dsimp only)); at_builtin; refine Kd.R_append_rows (Kd.int .u8) (w0 := w) w.heap.size rfl (.tmp 20) (.tmp 21) 22 5 (.int .u8 0) 1 rfl Tryz.underlying22 info5 rfl (by decide) (by omega) v117 y116 t107 _ _ _ (fun k_ => some k_ ≠ (.slice Ao13 t107.length co13 : Value).ownBlock) (fun _ => False) rfl rfl ?aO ?aR (fun _ _ h => h) (fun _ h => h.elim) ?aF ?aB ?aS ?aL ?_; (case aR => repeat (first | exact (Kd.R_reads' HO109.out).2.2 | (with_reducible refine Kd.C_alloc ?_ _) | (with_reducible refine Kd.C_drewN ?_ _) | (with_reducible refine Kd.C_drew ?_))); (case aB => exact (by repeat (first | (with_reducible first | exact HB.out | apply below_alloc | apply pw_below_drewN | apply below_drew1) | exact HB.out))); (case aF => exact (fun k_ hk => Kd.fresh' (Kd.R_lt (by (with_reducible repeat (first | apply Kd.R_alloc | apply Kd.R_drewN | apply Kd.R_drew)); exact HO109.out)) k_ hk)); (case aO => exact (by (with_reducible repeat (first | apply Kd.R_alloc | apply Kd.R_drewN | apply Kd.R_drew)); exact Kd.R_mono HO118.out (fun _ hk => hk.2))); (case aS => exact (below_size (by repeat (first | (with_reducible first | exact HB.out | apply below_alloc | apply pw_below_drewN | apply below_drew1) | exact HB.out)))); (case aL => have := LMc11.out; omega); intro v120 w16 ho hb hg hat; rw [← Ny119.out] at ho; have n0_ := Aside0.mk (Kd.R_after (ok := (fun _ => True)) (by (with_reducible repeat (first | apply Kd.R_alloc | apply Kd.R_drewN | apply Kd.R_drew)); exact HO109.out) hg hat); have n1_ := Aside0.mk (hb); have n2_ := Aside0.mk (ho); clear HO109; clear HB; clear HO118; have HO109 := n0_; have HB := n1_; have HO121 := n2_; clear n0_ n1_ n2_; clear ho hb hg hat))
        go_ret
        exact ⟨_, by first | rfl | (simp [errW_none, errW_some] <;> rfl) | (simp [*, errW_none, errW_some] <;> rfl), by (with_reducible repeat (first | apply Kd.R_alloc | apply Kd.R_drewN | apply Kd.R_drew)); exact Kd.R_mono HO121.out (fun _ hk => trivial), by repeat (first | (with_reducible first | exact HB.out | apply below_alloc | apply pw_below_drewN | apply below_drew1) | exact HB.out)⟩
      · rw [if_neg c11] at H
        exact absurd H (by simp)
    · rw [if_neg c10] at H
      have c10b0 : decide (1 < (t107.length : Int)) = false := decide_eq_false c10
      have c10b1 : decide (1 < t107.length) = false := decide_eq_false (by omega)
      clear c10
      obtain rfl := Option.some.inj H
      go_enter Tryz.func103, Tryz.ntmps103
      go_wp2_with (first | ((with_reducible refine gate_callee (f := 120) rfl ?_); refine goesL_ (some 7) rfl rfl Tryz.func120 (by kernel_rfl) rfl #[.int .u64 (IntKind.u64.wrap (a0))] rfl (by (try simp only [List.map_toArray, List.map_cons, List.map_nil]); first | done | rfl | (simp only [List.length_drop, List.length_take]; rfl)) ?_; (with_reducible refine (asn1ber_encodeUnsignedInteger.calls k (IntKind.u64.wrap (a0)) t107 _ A2.out).mono ?_); rintro e w17 ⟨v108, rfl, ho0, hb⟩; refine ⟨_, rfl, ?_⟩; have n0_ := Aside0.mk (Kd.R_lower ho0 (below_size (by repeat (first | (with_reducible first | exact HB.out | apply below_alloc | apply pw_below_drewN | apply below_drew1) | exact HB.out)))); have n1_ := Aside0.mk (below_step (by repeat (first | (with_reducible first | exact HB.out | apply below_alloc | apply pw_below_drewN | apply below_drew1) | exact HB.out)) hb); clear HB; have HO109 := n0_; have HB := n1_; clear n0_ n1_; (try clear hb); (try clear hb2); (try clear hk); (try clear hi); (try clear ho0); obtain ⟨Ao18, co18, eo18⟩ := Kd.R_slice HO109.out; subst eo18))
      go_ret
      exact ⟨_, by first | rfl | (simp [errW_none, errW_some] <;> rfl) | (simp [*, errW_none, errW_some] <;> rfl), by (with_reducible repeat (first | apply Kd.R_alloc | apply Kd.R_drewN | apply Kd.R_drew)); exact HO109.out, by repeat (first | (with_reducible first | exact HB.out | apply below_alloc | apply pw_below_drewN | apply below_drew1) | exact HB.out)⟩

/-! ### asn1ber_LengthBytes: function 59 -/
def asn1ber_LengthBytes.f (k : Nat) (a0 : Int) : Option (List Int) := (asn1ber_encodeLength.f k a0).bind fun t122 => (some t122)
set_option maxHeartbeats 8000000 in
set_option maxRecDepth 100000 in
theorem asn1ber_LengthBytes.calls (k : Nat) (a0 : Int) (r : List Int) (w : World) (h : asn1ber_LengthBytes.f k a0 = some r) :
    Calls Tryz.prog 59 #[.int .i64 a0] w fun e w' => ∃ v0_ : Value, e = .returned (v0_) ∧ Kd.R (Kd.int .u8) 5 w' w.heap.size (fun _ => True) v0_ r ∧ Below w.heap.size w w' := by
  have HB := Aside0.mk (Below.refl w.heap.size w)
  have H : ((asn1ber_encodeLength.f k a0).bind fun t122 => (some t122)) = some r := h
  clear h
  replace H := Option.bind_eq_some_iff.mp H
  obtain ⟨t122, A20, H⟩ := H
  replace H : (some t122) = some r := H
  have A2 := Aside0.mk A20
  clear A20
  obtain rfl := Option.some.inj H
  go_enter Tryz.func59, Tryz.ntmps59
  go_wp2_with (first | ((with_reducible refine gate_callee (f := 103) rfl ?_); refine goesL_ (some 4) rfl rfl Tryz.func103 (by kernel_rfl) rfl #[.int .i64 a0] rfl (by (try simp only [List.map_toArray, List.map_cons, List.map_nil]); first | done | rfl | (simp only [List.length_drop, List.length_take]; rfl)) ?_; (with_reducible refine (asn1ber_encodeLength.calls k a0 t122 _ A2.out).mono ?_); rintro e w3 ⟨v123, rfl, ho0, hb⟩; refine ⟨_, rfl, ?_⟩; have n0_ := Aside0.mk (Kd.R_lower ho0 (below_size (by repeat (first | (with_reducible first | exact HB.out | apply below_alloc | apply pw_below_drewN | apply below_drew1) | exact HB.out)))); have n1_ := Aside0.mk (below_step (by repeat (first | (with_reducible first | exact HB.out | apply below_alloc | apply pw_below_drewN | apply below_drew1) | exact HB.out)) hb); clear HB; have HO124 := n0_; have HB := n1_; clear n0_ n1_; (try clear hb); (try clear hb2); (try clear hk); (try clear hi); (try clear ho0)))
  go_ret
  exact ⟨_, by first | rfl | (simp [errW_none, errW_some] <;> rfl) | (simp [*, errW_none, errW_some] <;> rfl), by (with_reducible repeat (first | apply Kd.R_alloc | apply Kd.R_drewN | apply Kd.R_drew)); exact HO124.out, by repeat (first | (with_reducible first | exact HB.out | apply below_alloc | apply pw_below_drewN | apply below_drew1) | exact HB.out)⟩

/-! ### impl_EncodeLength: function 27 -/
def impl_EncodeLength.f (k : Nat) (a0 : Int) : Option (List Int) := (asn1ber_LengthBytes.f k a0).bind fun t125 => (some t125)
set_option maxHeartbeats 8000000 in
set_option maxRecDepth 100000 in
theorem impl_EncodeLength.calls (k : Nat) (a0 : Int) (r : List Int) (w : World) (h : impl_EncodeLength.f k a0 = some r) :
    Calls Tryz.prog 27 #[.int .i64 a0] w fun e w' => ∃ v0_ : Value, e = .returned (v0_) ∧ Kd.R (Kd.int .u8) 5 w' w.heap.size (fun _ => True) v0_ r ∧ Below w.heap.size w w' := by
  have HB := Aside0.mk (Below.refl w.heap.size w)
  have H : ((asn1ber_LengthBytes.f k a0).bind fun t125 => (some t125)) = some r := h
  clear h
  replace H := Option.bind_eq_some_iff.mp H
  obtain ⟨t125, A20, H⟩ := H
  replace H : (some t125) = some r := H
  have A2 := Aside0.mk A20
  clear A20
  obtain rfl := Option.some.inj H
  go_enter Tryz.func27, Tryz.ntmps27
  go_wp2_with (first | ((with_reducible refine gate_callee (f := 59) rfl ?_); refine goesL_ (some 4) rfl rfl Tryz.func59 (by kernel_rfl) rfl #[.int .i64 a0] rfl (by (try simp only [List.map_toArray, List.map_cons, List.map_nil]); first | done | rfl | (simp only [List.length_drop, List.length_take]; rfl)) ?_; (with_reducible refine (asn1ber_LengthBytes.calls k a0 t125 _ A2.out).mono ?_); rintro e w3 ⟨v126, rfl, ho0, hb⟩; refine ⟨_, rfl, ?_⟩; have n0_ := Aside0.mk (Kd.R_lower ho0 (below_size (by repeat (first | (with_reducible first | exact HB.out | apply below_alloc | apply pw_below_drewN | apply below_drew1) | exact HB.out)))); have n1_ := Aside0.mk (below_step (by repeat (first | (with_reducible first | exact HB.out | apply below_alloc | apply pw_below_drewN | apply below_drew1) | exact HB.out)) hb); clear HB; have HO127 := n0_; have HB := n1_; clear n0_ n1_; (try clear hb); (try clear hb2); (try clear hk); (try clear hi); (try clear ho0)))
  go_ret
  exact ⟨_, by first | rfl | (simp [errW_none, errW_some] <;> rfl) | (simp [*, errW_none, errW_some] <;> rfl), by (with_reducible repeat (first | apply Kd.R_alloc | apply Kd.R_drewN | apply Kd.R_drew)); exact HO127.out, by repeat (first | (with_reducible first | exact HB.out | apply below_alloc | apply pw_below_drewN | apply below_drew1) | exact HB.out)⟩

/-! ### laws_works: function 8 -/
def laws_works.f (k : Nat)  : Option (Bool) := (impl_EncodeLength.f k 5).bind fun t128 => (some ((strOfNums t128).toList == ([5] : List UInt8)))
set_option maxHeartbeats 8000000 in
set_option maxRecDepth 100000 in
theorem laws_works.calls (k : Nat)  (r : Bool) (w : World) (h : laws_works.f k  = some r) :
    Calls Tryz.prog 8 #[] w fun e w' => e = .returned (.bool r) ∧ Below w.heap.size w w' := by
  have HB := Aside0.mk (Below.refl w.heap.size w)
  have H : ((impl_EncodeLength.f k 5).bind fun t128 => (some ((strOfNums t128).toList == ([5] : List UInt8)))) = some r := h
  clear h
  replace H := Option.bind_eq_some_iff.mp H
  obtain ⟨t128, A10, H⟩ := H
  replace H : (some ((strOfNums t128).toList == ([5] : List UInt8))) = some r := H
  have A1 := Aside0.mk A10
  clear A10
  obtain rfl := Option.some.inj H
  go_enter Tryz.func8, Tryz.ntmps8
  go_wp2_with (first | ((with_reducible refine gate_callee (f := 27) rfl ?_); refine goesL_ (some 1) rfl rfl Tryz.func27 (by kernel_rfl) rfl #[.int .i64 5] rfl (by (try simp only [List.map_toArray, List.map_cons, List.map_nil]); first | done | rfl | (simp only [List.length_drop, List.length_take]; rfl)) ?_; (with_reducible refine (impl_EncodeLength.calls k 5 t128 _ A1.out).mono ?_); rintro e w2 ⟨v129, rfl, ho0, hb⟩; refine ⟨_, rfl, ?_⟩; have n0_ := Aside0.mk (Kd.R_lower ho0 (below_size (by repeat (first | (with_reducible first | exact HB.out | apply below_alloc | apply pw_below_drewN | apply below_drew1) | exact HB.out)))); have n1_ := Aside0.mk (below_step (by repeat (first | (with_reducible first | exact HB.out | apply below_alloc | apply pw_below_drewN | apply below_drew1) | exact HB.out)) hb); clear HB; have HO130 := n0_; have HB := n1_; clear n0_ n1_; (try clear hb); (try clear hb2); (try clear hk); (try clear hi); (try clear ho0); have hcv3 := own_string (P := Tryz.prog) Tryz.underlying22 Tryz.underlying5 Tryz.underlying9 (Kd.own_of_R HO130.out)))
  go_ret
  exact ⟨by first | rfl | (simp [errW_none, errW_some] <;> rfl) | (simp [*, errW_none, errW_some] <;> rfl), by repeat (first | (with_reducible first | exact HB.out | apply below_alloc | apply pw_below_drewN | apply below_drew1) | exact HB.out)⟩

-- NOT PRINTED: function 28 (impl_safely)

-- NOT PRINTED: function 9 (impl_Answer)

-- NOT PRINTED: function 10 (laws_plain)

/-! ### spec_List: function 34 -/
def spec_List.f (l0 : List (S34)) : Option (Int × Int × Bool × List Int × (List (S34))) := some (0, 16, true, ([] : List Int), l0)
set_option maxHeartbeats 8000000 in
set_option maxRecDepth 100000 in
theorem spec_List.calls (P0_ : Nat → Prop) (A0 : Option Addr) (c0 : Nat) (l0 : List (S34)) (r1 : Int) (r2 : Int) (r3 : Bool) (r4 : List Int) (r5 : List (S34)) (w : World) (hs0 : Kd.V k34 34 w w.heap.size (fun k_ => P0_ k_) (.slice A0 l0.length c0) l0) (h : spec_List.f l0 = some (r1, r2, r3, r4, r5)) :
    Calls Tryz.prog 34 #[.slice A0 l0.length c0] w fun e w' => ∃ v3_ v4_ : Value, e = .returned (.agg #[.int .i64 r1, .int .i64 r2, .bool r3, v3_, v4_]) ∧ Kd.R (Kd.int .u8) 5 w' w.heap.size (fun k_ => (w.heap.size ≤ k_)) v3_ r4 ∧ Kd.V k34 34 w' w.heap.size (fun k_ => (P0_ k_ ∨ w.heap.size ≤ k_) ∧ some k_ ≠ (v3_ : Value).ownBlock) v4_ r5 ∧ Below w.heap.size w w' := by
  have hu34 := Tryz.underlying34
  have HO0 := Aside0.mk (show Kd.V k34 34 w w.heap.size (fun k_ => (P0_ k_ ∨ w.heap.size ≤ k_)) (.slice A0 l0.length c0) l0 from Kd.V_mono hs0 (fun k_ hk => .inl hk))
  have HB := Aside0.mk (Below.refl w.heap.size w)
  have H : (some (0, 16, true, ([] : List Int), l0)) = some (r1, r2, r3, r4, r5) := h
  clear h
  simp only [Option.some.injEq, Prod.mk.injEq] at H
  obtain ⟨rfl, rfl, rfl, rfl, rfl⟩ := H
  go_enter Tryz.func34, Tryz.ntmps34
  go_wp2_with (first | ((with_reducible refine gate_dst (N := 2) rfl ?_); refine box_event ?hg (N := 2) ?hd (cs := #[.int .i64 0, .int .i64 0, .bool false, .slice none 0 0, .slice none 0 0]) (t := 34) ?hr ?_; (case hd => rfl); (case hg => rfl); (case hr => first | (go_simp; done) | (go_simp; rfl)); intro gb137 hg w2 hbox hb; have n0_ := Aside0.mk (Kd.V_below (Kd.V_elderB (by (with_reducible repeat (first | apply Kd.V_alloc | apply Kd.V_drewN | apply Kd.V_drew)); exact HO0.out) gb137 (Nat.le_of_eq hg.symm)) hb); have n1_ := Aside0.mk (below_step (by repeat (first | (with_reducible first | exact HB.out | apply below_alloc | apply pw_below_drewN | apply below_drew1) | exact HB.out)) hb); have n2_ := Aside0.mk (hbox); have n3_ := Aside0.mk ((by rw [hg]; exact (below_size (by repeat (first | (with_reducible first | exact HB.out | apply below_alloc | apply pw_below_drewN | apply below_drew1) | exact HB.out))) : w.heap.size ≤ gb137)); have n4_ := Aside0.mk ((by rw [hg]; exact (below_size (by repeat (first | (with_reducible first | exact HB.out | apply below_alloc | apply pw_below_drewN | apply below_drew1) | exact HB.out))) : w.heap.size ≤ gb137)); clear HO0; clear HB; have HO0 := n0_; have HB := n1_; have BK137 := n2_; have GW137 := n3_; have GE137 := n4_; clear n0_ n1_ n2_ n3_ n4_; clear hb hbox hg; have hcz3_0 : w2.cell? ⟨gb137, 0, none⟩ = some (.int .i64 0) := (blk_cell BK137.out 0).trans rfl; have hcz3_1 : w2.cell? ⟨gb137, 1, none⟩ = some (.int .i64 0) := (blk_cell BK137.out 1).trans rfl; have hcz3_2 : w2.cell? ⟨gb137, 2, none⟩ = some (.bool false) := (blk_cell BK137.out 2).trans rfl; have hcz3_3 : w2.cell? ⟨gb137, 3, none⟩ = some (.slice none 0 0) := (blk_cell BK137.out 3).trans rfl; have hcz3_4 : w2.cell? ⟨gb137, 4, none⟩ = some (.slice none 0 0) := (blk_cell BK137.out 4).trans rfl; have hfz3_0 := blk_frozen BK137.out 0; have hfz3_1 := blk_frozen BK137.out 1; have hfz3_2 := blk_frozen BK137.out 2; have hfz3_3 := blk_frozen BK137.out 3; have hfz3_4 := blk_frozen BK137.out 4))
  refine bodyPost_ret (results_cell_row rfl _ _ gb137 34 #[.int .i64 0, .int .i64 16, .bool true, .slice none 0 0, .slice A0 l0.length c0] (0, 0) _ rfl (by (with_reducible repeat (first | refine blk_drewN ?_ _ | refine blk_drew ?_ | refine blk_alloc ?_ _)); refine blk_put (cs := #[.int .i64 0, .int .i64 16, .bool true, .slice none 0 0, .slice none 0 0]) ?_ 4 _ rfl; (with_reducible repeat (first | refine blk_drewN ?_ _ | refine blk_drew ?_ | refine blk_alloc ?_ _)); refine blk_put (cs := #[.int .i64 0, .int .i64 16, .bool true, .slice none 0 0, .slice none 0 0]) ?_ 3 _ rfl; (with_reducible repeat (first | refine blk_drewN ?_ _ | refine blk_drew ?_ | refine blk_alloc ?_ _)); refine blk_put (cs := #[.int .i64 0, .int .i64 16, .bool false, .slice none 0 0, .slice none 0 0]) ?_ 2 _ rfl; (with_reducible repeat (first | refine blk_drewN ?_ _ | refine blk_drew ?_ | refine blk_alloc ?_ _)); refine blk_put (cs := #[.int .i64 0, .int .i64 0, .bool false, .slice none 0 0, .slice none 0 0]) ?_ 1 _ rfl; (with_reducible repeat (first | refine blk_drewN ?_ _ | refine blk_drew ?_ | refine blk_alloc ?_ _)); refine blk_put (cs := #[.int .i64 0, .int .i64 0, .bool false, .slice none 0 0, .slice none 0 0]) ?_ 0 _ rfl; (with_reducible repeat (first | refine blk_drewN ?_ _ | refine blk_drew ?_ | refine blk_alloc ?_ _)); exact BK137.out) Tryz.underlying34 rfl (by kernel_rfl)) rfl ?_
  exact ⟨_, _, by first | rfl | (simp [errW_none, errW_some] <;> rfl) | (simp [*, errW_none, errW_some] <;> rfl), by first | exact Kd.R_nil _ _ _ _ _ | exact Kd.N_nil _ _ _ _ _ | exact Kd.V_nil _ _ _ _ _ | exact Kd.Q_nil _ _ _ _ _ | exact Kd.S_nil _ _ _ _ _, by (with_reducible repeat (first | apply Kd.V_alloc | apply Kd.V_drewN | apply Kd.V_drew)); exact Kd.V_mono (Kd.V_far (p := ⟨gb137, 4, none⟩) (Kd.V_far (p := ⟨gb137, 3, none⟩) (Kd.V_far (p := ⟨gb137, 2, none⟩) (Kd.V_far (p := ⟨gb137, 1, none⟩) (Kd.V_far (p := ⟨gb137, 0, none⟩) (Kd.V_mono HO0.out (fun k_ hk => (⟨hk, hk.2⟩ : _ ∧ k_ ≠ gb137))) (fun _ hk => hk.2) (.int .i64 0)) (fun _ hk => hk.2) (.int .i64 16)) (fun _ hk => hk.2) (.bool true)) (fun _ hk => hk.2) (.slice none 0 0)) (fun _ hk => hk.2) (.slice A0 l0.length c0)) (fun _ hk => ⟨hk.1.1, (by simp [Value.ownBlock])⟩), by repeat (first | (with_reducible first | exact HB.out | apply below_alloc | apply pw_below_drewN | apply below_drew1 | refine below_set ?_ GE137.out) | exact HB.out)⟩

/-! ### spec_Whole: function 65 -/
/-! ### spec_Number: function 35 -/
-- NOT PRINTED: function 11 (spec_Message)

-- NOT PRINTED: function 37 (spec_Octets)

/-! ### spec_tagged: function 36 -/
def spec_tagged.f (a0 : Int) (a1 : Int) (a2_0 : Int) (a2_1 : Int) (a2_2 : Bool) (l2_3 : List Int) (l2_4 : List (S34)) : Option (Int × Int × Bool × List Int × (List (S34))) := some (a0, a1, a2_2, l2_3, l2_4)
set_option maxHeartbeats 8000000 in
set_option maxRecDepth 100000 in
theorem spec_tagged.calls (a0 : Int) (a1 : Int) (a2_0 : Int) (a2_1 : Int) (a2_2 : Bool) (P2_3_ : Nat → Prop) (u9000_ : Value) (l2_3 : List Int) (P2_4_ : Nat → Prop) (A2_4 : Option Addr) (c2_4 : Nat) (l2_4 : List (S34)) (r1 : Int) (r2 : Int) (r3 : Bool) (r4 : List Int) (r5 : List (S34)) (w0 w : World) (hB : Below w0.heap.size w0 w) (ho2_3 : Kd.R (Kd.int .u8) 5 w w0.heap.size P2_3_ u9000_ l2_3) (hs2_4 : Kd.V k34 34 w w0.heap.size (fun k_ => P2_4_ k_ ∧ some k_ ≠ (u9000_ : Value).ownBlock) (.slice A2_4 l2_4.length c2_4) l2_4) (h : spec_tagged.f a0 a1 a2_0 a2_1 a2_2 l2_3 l2_4 = some (r1, r2, r3, r4, r5)) :
    Calls Tryz.prog 36 #[.int .i64 a0, .int .i64 a1, .agg #[.int .i64 a2_0, .int .i64 a2_1, .bool a2_2, u9000_, .slice A2_4 l2_4.length c2_4]] w fun e w' => ∃ v3_ v4_ : Value, e = .returned (.agg #[.int .i64 r1, .int .i64 r2, .bool r3, v3_, v4_]) ∧ Kd.R (Kd.int .u8) 5 w' w0.heap.size (fun k_ => (P2_3_ k_ ∨ w.heap.size ≤ k_)) v3_ r4 ∧ Kd.V k34 34 w' w0.heap.size (fun k_ => ((P2_3_ k_ ∨ P2_4_ k_) ∨ w.heap.size ≤ k_) ∧ some k_ ≠ (v3_ : Value).ownBlock) v4_ r5 ∧ Below w0.heap.size w0 w' ∧ Kept w w' (fun k_ => P2_3_ k_) := by
  have hu34 := Tryz.underlying34
  have HO2_3 := Aside0.mk (show Kd.R (Kd.int .u8) 5 w w0.heap.size (fun k_ => (P2_3_ k_ ∨ w.heap.size ≤ k_)) u9000_ l2_3 from Kd.R_mono ho2_3 (fun k_ hk => (.inl hk)))
  have HO2_4 := Aside0.mk (show Kd.V k34 34 w w0.heap.size (fun k_ => ((P2_3_ k_ ∨ P2_4_ k_) ∨ w.heap.size ≤ k_) ∧ some k_ ≠ (u9000_ : Value).ownBlock) (.slice A2_4 l2_4.length c2_4) l2_4 from Kd.V_mono hs2_4 (fun k_ hk => ⟨.inl (.inr hk.1), hk.2⟩))
  have HK := Aside0.mk (Kept.refl w (fun k_ => P2_3_ k_))
  have HW0 := Aside0.mk hB.size
  have HB := Aside0.mk hB
  clear hB
  have H : (some (a0, a1, a2_2, l2_3, l2_4)) = some (r1, r2, r3, r4, r5) := h
  clear h
  simp only [Option.some.injEq, Prod.mk.injEq] at H
  obtain ⟨rfl, rfl, rfl, rfl, rfl⟩ := H
  obtain ⟨Ao4, co4, eo4⟩ := Kd.R_slice HO2_3.out
  subst eo4
  go_enter Tryz.func36, Tryz.ntmps36
  go_wp2_with (first | ((with_reducible refine gate_dst (N := 5) rfl ?_); refine box_event ?hg (N := 5) ?hd (cs := #[.int .i64 a2_0, .int .i64 a2_1, .bool a2_2, .slice Ao4 l2_3.length co4, .slice A2_4 l2_4.length c2_4]) (t := 34) ?hr ?_; (case hd => rfl); (case hg => rfl); (case hr => first | (go_simp; done) | (go_simp; rfl)); intro gb188 hg w5 hbox hb; have n0_ := Aside0.mk (Kd.R_below (by (with_reducible repeat (first | apply Kd.R_alloc | apply Kd.R_drewN | apply Kd.R_drew)); exact HO2_3.out) hb); have n1_ := Aside0.mk (Kd.V_below (Kd.V_elderB (by (with_reducible repeat (first | apply Kd.V_alloc | apply Kd.V_drewN | apply Kd.V_drew)); exact HO2_4.out) gb188 (Nat.le_of_eq hg.symm)) hb); have n2_ := Aside0.mk (Kept.below (S := (fun k_ => P2_3_ k_)) (by repeat (first | (with_reducible first | exact HK.out | apply Kept.alloc | apply Kept.drewN | apply Kept.drew) | exact HK.out)) hb); have n3_ := Aside0.mk (below_step (by repeat (first | (with_reducible first | exact HB.out | apply below_alloc | apply pw_below_drewN | apply below_drew1) | exact HB.out)) hb); have n4_ := Aside0.mk (hbox); have n5_ := Aside0.mk ((by rw [hg]; exact (by first | exact HK.out.1 | exact (show Kept w _ (fun k_ => P2_3_ k_) from by repeat (first | (with_reducible first | exact HK.out | apply Kept.alloc | apply Kept.drewN | apply Kept.drew) | exact HK.out)).1) : w.heap.size ≤ gb188)); have n6_ := Aside0.mk ((by rw [hg]; exact (below_size (by repeat (first | (with_reducible first | exact HB.out | apply below_alloc | apply pw_below_drewN | apply below_drew1) | exact HB.out))) : w0.heap.size ≤ gb188)); clear HO2_3; clear HO2_4; clear HK; clear HB; have HO2_3 := n0_; have HO2_4 := n1_; have HK := n2_; have HB := n3_; have BK188 := n4_; have GW188 := n5_; have GE188 := n6_; clear n0_ n1_ n2_ n3_ n4_ n5_ n6_; clear hb hbox hg) | ((with_reducible refine gate_dst (N := 6) rfl ?_); refine box_event ?hg (N := 6) ?hd (cs := #[.int .i64 0, .int .i64 0, .bool false, .slice none 0 0, .slice none 0 0]) (t := 34) ?hr ?_; (case hd => rfl); (case hg => rfl); (case hr => first | (go_simp; done) | (go_simp; rfl)); intro gb189 hg w6 hbox hb; have n0_ := Aside0.mk (Kd.R_below (by (with_reducible repeat (first | apply Kd.R_alloc | apply Kd.R_drewN | apply Kd.R_drew)); exact HO2_3.out) hb); have n1_ := Aside0.mk (Kd.V_below (Kd.V_elderB (by (with_reducible repeat (first | apply Kd.V_alloc | apply Kd.V_drewN | apply Kd.V_drew)); exact HO2_4.out) gb189 (Nat.le_of_eq hg.symm)) hb); have n2_ := Aside0.mk (blk_below (g := gb188) (o := .cells #[.int .i64 a2_0, .int .i64 a2_1, .bool a2_2, .slice Ao4 l2_3.length co4, .slice A2_4 l2_4.length c2_4] 34 (0, 0)) (by (with_reducible repeat (first | refine blk_drewN ?_ _ | refine blk_drew ?_ | refine blk_alloc ?_ _)); exact BK188.out) hb); have n3_ := Aside0.mk (Kept.below (S := (fun k_ => P2_3_ k_)) (by repeat (first | (with_reducible first | exact HK.out | apply Kept.alloc | apply Kept.drewN | apply Kept.drew | refine Kept.setCell ?_ (.inr GW188.out) _) | exact HK.out)) hb); have n4_ := Aside0.mk (below_step (by repeat (first | (with_reducible first | exact HB.out | apply below_alloc | apply pw_below_drewN | apply below_drew1 | refine below_set ?_ GE188.out) | exact HB.out)) hb); have n5_ := Aside0.mk (hbox); have n6_ := Aside0.mk ((by rw [hg]; exact (by first | exact HK.out.1 | exact (show Kept w _ (fun k_ => P2_3_ k_) from by repeat (first | (with_reducible first | exact HK.out | apply Kept.alloc | apply Kept.drewN | apply Kept.drew | refine Kept.setCell ?_ (.inr GW188.out) _) | exact HK.out)).1) : w.heap.size ≤ gb189)); have n7_ := Aside0.mk ((by rw [hg]; exact (below_size (by repeat (first | (with_reducible first | exact HB.out | apply below_alloc | apply pw_below_drewN | apply below_drew1 | refine below_set ?_ GE188.out) | exact HB.out))) : w0.heap.size ≤ gb189)); have n8_ := Aside0.mk ((by rw [hg]; exact Nat.ne_of_lt (blk_lt (g := gb188) (o := .cells #[.int .i64 a2_0, .int .i64 a2_1, .bool a2_2, .slice Ao4 l2_3.length co4, .slice A2_4 l2_4.length c2_4] 34 (0, 0)) (by (with_reducible repeat (first | refine blk_drewN ?_ _ | refine blk_drew ?_ | refine blk_alloc ?_ _)); exact BK188.out)) : gb188 ≠ gb189)); have n9_ := Aside0.mk ((by rw [hg]; exact Nat.ne_of_gt (blk_lt (g := gb188) (o := .cells #[.int .i64 a2_0, .int .i64 a2_1, .bool a2_2, .slice Ao4 l2_3.length co4, .slice A2_4 l2_4.length c2_4] 34 (0, 0)) (by (with_reducible repeat (first | refine blk_drewN ?_ _ | refine blk_drew ?_ | refine blk_alloc ?_ _)); exact BK188.out)) : gb189 ≠ gb188)); clear HO2_3; clear HO2_4; clear BK188; clear HK; clear HB; have HO2_3 := n0_; have HO2_4 := n1_; have BK188 := n2_; have HK := n3_; have HB := n4_; have BK189 := n5_; have GW189 := n6_; have GE189 := n7_; have NB188_189 := n8_; have NB189_188 := n9_; clear n0_ n1_ n2_ n3_ n4_ n5_ n6_ n7_ n8_ n9_; clear hb hbox hg; have hnb7 := NB188_189.out; have hnc7 := NB189_188.out; have hcz8_0 : w6.cell? ⟨gb188, 0, none⟩ = some (.int .i64 a2_0) := (blk_cell BK188.out 0).trans rfl; have hcz8_1 : w6.cell? ⟨gb188, 1, none⟩ = some (.int .i64 a2_1) := (blk_cell BK188.out 1).trans rfl; have hcz8_2 : w6.cell? ⟨gb188, 2, none⟩ = some (.bool a2_2) := (blk_cell BK188.out 2).trans rfl; have hcz8_3 : w6.cell? ⟨gb188, 3, none⟩ = some (.slice Ao4 l2_3.length co4) := (blk_cell BK188.out 3).trans rfl; have hcz8_4 : w6.cell? ⟨gb188, 4, none⟩ = some (.slice A2_4 l2_4.length c2_4) := (blk_cell BK188.out 4).trans rfl; have hfz8_0 := blk_frozen BK188.out 0; have hfz8_1 := blk_frozen BK188.out 1; have hfz8_2 := blk_frozen BK188.out 2; have hfz8_3 := blk_frozen BK188.out 3; have hfz8_4 := blk_frozen BK188.out 4; have hcz9_0 : w6.cell? ⟨gb189, 0, none⟩ = some (.int .i64 0) := (blk_cell BK189.out 0).trans rfl; have hcz9_1 : w6.cell? ⟨gb189, 1, none⟩ = some (.int .i64 0) := (blk_cell BK189.out 1).trans rfl; have hcz9_2 : w6.cell? ⟨gb189, 2, none⟩ = some (.bool false) := (blk_cell BK189.out 2).trans rfl; have hcz9_3 : w6.cell? ⟨gb189, 3, none⟩ = some (.slice none 0 0) := (blk_cell BK189.out 3).trans rfl; have hcz9_4 : w6.cell? ⟨gb189, 4, none⟩ = some (.slice none 0 0) := (blk_cell BK189.out 4).trans rfl; have hfz9_0 := blk_frozen BK189.out 0; have hfz9_1 := blk_frozen BK189.out 1; have hfz9_2 := blk_frozen BK189.out 2; have hfz9_3 := blk_frozen BK189.out 3; have hfz9_4 := blk_frozen BK189.out 4))
  refine bodyPost_ret (results_cell_row rfl _ _ gb189 34 #[.int .i64 a0, .int .i64 a1, .bool a2_2, .slice Ao4 l2_3.length co4, .slice A2_4 l2_4.length c2_4] (0, 0) _ rfl (by (with_reducible repeat (first | refine blk_drewN ?_ _ | refine blk_drew ?_ | refine blk_alloc ?_ _)); refine blk_put (cs := #[.int .i64 a0, .int .i64 a1, .bool a2_2, .slice Ao4 l2_3.length co4, .slice none 0 0]) ?_ 4 _ rfl; (with_reducible repeat (first | refine blk_drewN ?_ _ | refine blk_drew ?_ | refine blk_alloc ?_ _)); refine blk_put (cs := #[.int .i64 a0, .int .i64 a1, .bool a2_2, .slice none 0 0, .slice none 0 0]) ?_ 3 _ rfl; (with_reducible repeat (first | refine blk_drewN ?_ _ | refine blk_drew ?_ | refine blk_alloc ?_ _)); refine blk_put (cs := #[.int .i64 a0, .int .i64 a1, .bool false, .slice none 0 0, .slice none 0 0]) ?_ 2 _ rfl; (with_reducible repeat (first | refine blk_drewN ?_ _ | refine blk_drew ?_ | refine blk_alloc ?_ _)); refine blk_put (cs := #[.int .i64 a0, .int .i64 0, .bool false, .slice none 0 0, .slice none 0 0]) ?_ 1 _ rfl; (with_reducible repeat (first | refine blk_drewN ?_ _ | refine blk_drew ?_ | refine blk_alloc ?_ _)); refine blk_put (cs := #[.int .i64 0, .int .i64 0, .bool false, .slice none 0 0, .slice none 0 0]) ?_ 0 _ rfl; (with_reducible repeat (first | refine blk_drewN ?_ _ | refine blk_drew ?_ | refine blk_alloc ?_ _)); refine blk_far ?_ NB189_188.out _; (with_reducible repeat (first | refine blk_drewN ?_ _ | refine blk_drew ?_ | refine blk_alloc ?_ _)); refine blk_far ?_ NB189_188.out _; (with_reducible repeat (first | refine blk_drewN ?_ _ | refine blk_drew ?_ | refine blk_alloc ?_ _)); exact BK189.out) Tryz.underlying34 rfl (by kernel_rfl)) rfl ?_
  exact ⟨_, _, by first | rfl | (simp [errW_none, errW_some] <;> rfl) | (simp [*, errW_none, errW_some] <;> rfl), by (with_reducible repeat (first | apply Kd.R_alloc | apply Kd.R_drewN | apply Kd.R_drew)); exact Kd.R_mono (Kd.R_far (p := ⟨gb189, 4, none⟩) (Kd.R_far (p := ⟨gb189, 3, none⟩) (Kd.R_far (p := ⟨gb189, 2, none⟩) (Kd.R_far (p := ⟨gb189, 1, none⟩) (Kd.R_far (p := ⟨gb189, 0, none⟩) (Kd.R_far (p := ⟨gb188, 1, none⟩) (Kd.R_far (p := ⟨gb188, 0, none⟩) (Kd.R_types (Kd.R_types HO2_3.out BK188.out (by decide)) BK189.out (by decide)) (fun _ hk => hk.1.2) (.int .i64 a0)) (fun _ hk => hk.1.2) (.int .i64 a1)) (fun _ hk => hk.2) (.int .i64 a0)) (fun _ hk => hk.2) (.int .i64 a1)) (fun _ hk => hk.2) (.bool a2_2)) (fun _ hk => hk.2) (.slice Ao4 l2_3.length co4)) (fun _ hk => hk.2) (.slice A2_4 l2_4.length c2_4)) (fun _ hk => hk.1.1), by (with_reducible repeat (first | apply Kd.V_alloc | apply Kd.V_drewN | apply Kd.V_drew)); exact Kd.V_mono (Kd.V_far (p := ⟨gb189, 4, none⟩) (Kd.V_far (p := ⟨gb189, 3, none⟩) (Kd.V_far (p := ⟨gb189, 2, none⟩) (Kd.V_far (p := ⟨gb189, 1, none⟩) (Kd.V_far (p := ⟨gb189, 0, none⟩) (Kd.V_far (p := ⟨gb188, 1, none⟩) (Kd.V_far (p := ⟨gb188, 0, none⟩) (Kd.V_mono (Kd.V_mono HO2_4.out (fun k_ hk => (⟨hk, hk.1.2⟩ : _ ∧ k_ ≠ gb188))) (fun k_ hk => (⟨hk, hk.1.2⟩ : _ ∧ k_ ≠ gb189))) (fun _ hk => hk.1.2) (.int .i64 a0)) (fun _ hk => hk.1.2) (.int .i64 a1)) (fun _ hk => hk.2) (.int .i64 a0)) (fun _ hk => hk.2) (.int .i64 a1)) (fun _ hk => hk.2) (.bool a2_2)) (fun _ hk => hk.2) (.slice Ao4 l2_3.length co4)) (fun _ hk => hk.2) (.slice A2_4 l2_4.length c2_4)) (fun _ hk => ⟨hk.1.1.1.1.1, hk.1.1.1.1.2⟩), by repeat (first | (with_reducible first | exact HB.out | apply below_alloc | apply pw_below_drewN | apply below_drew1 | refine below_set ?_ GE188.out | refine below_set ?_ GE189.out) | exact HB.out), by repeat (first | (with_reducible first | exact HK.out | apply Kept.alloc | apply Kept.drewN | apply Kept.drew | refine Kept.setCell ?_ (.inr GW188.out) _ | refine Kept.setCell ?_ (.inr GW189.out) _) | exact HK.out)⟩

/-! ### spec_operation: function 53 -/
def spec_operation.f (a0 : Int) (l1 : List (S34)) : Option (Int × Int × Bool × List Int × (List (S34))) := (spec_List.f l1).bind fun bt191 => ((spec_tagged.f 1 a0 bt191.1 bt191.2.1 bt191.2.2.1 bt191.2.2.2.1 bt191.2.2.2.2).bind fun bt200 => (some (bt200.1, bt200.2.1, bt200.2.2.1, bt200.2.2.2.1, bt200.2.2.2.2)))
set_option maxHeartbeats 8000000 in
set_option maxRecDepth 100000 in
theorem spec_operation.calls (a0 : Int) (P1_ : Nat → Prop) (A1 : Option Addr) (c1 : Nat) (l1 : List (S34)) (r1 : Int) (r2 : Int) (r3 : Bool) (r4 : List Int) (r5 : List (S34)) (w : World) (hs1 : Kd.V k34 34 w w.heap.size (fun k_ => P1_ k_) (.slice A1 l1.length c1) l1) (h : spec_operation.f a0 l1 = some (r1, r2, r3, r4, r5)) :
    Calls Tryz.prog 53 #[.int .i64 a0, .slice A1 l1.length c1] w fun e w' => ∃ v3_ v4_ : Value, e = .returned (.agg #[.int .i64 r1, .int .i64 r2, .bool r3, v3_, v4_]) ∧ Kd.R (Kd.int .u8) 5 w' w.heap.size (fun k_ => (w.heap.size ≤ k_)) v3_ r4 ∧ Kd.V k34 34 w' w.heap.size (fun k_ => (P1_ k_ ∨ w.heap.size ≤ k_) ∧ some k_ ≠ (v3_ : Value).ownBlock) v4_ r5 ∧ Below w.heap.size w w' := by
  have hu34 := Tryz.underlying34
  have HO1 := Aside0.mk (show Kd.V k34 34 w w.heap.size (fun k_ => (P1_ k_ ∨ w.heap.size ≤ k_)) (.slice A1 l1.length c1) l1 from Kd.V_mono hs1 (fun k_ hk => .inl hk))
  have HB := Aside0.mk (Below.refl w.heap.size w)
  have H : ((spec_List.f l1).bind fun bt191 => ((spec_tagged.f 1 a0 bt191.1 bt191.2.1 bt191.2.2.1 bt191.2.2.2.1 bt191.2.2.2.2).bind fun bt200 => (some (bt200.1, bt200.2.1, bt200.2.2.1, bt200.2.2.2.1, bt200.2.2.2.2)))) = some (r1, r2, r3, r4, r5) := h
  clear h
  replace H := Option.bind_eq_some_iff.mp H
  obtain ⟨⟨t191, t192, t193, t194, t197⟩, A30, H⟩ := H
  replace H : ((spec_tagged.f 1 a0 t191 t192 t193 t194 t197).bind fun bt200 => (some (bt200.1, bt200.2.1, bt200.2.2.1, bt200.2.2.2.1, bt200.2.2.2.2))) = some (r1, r2, r3, r4, r5) := H
  have A3 := Aside0.mk A30
  clear A30
  replace H := Option.bind_eq_some_iff.mp H
  obtain ⟨⟨t200, t201, t202, t203, t206⟩, A40, H⟩ := H
  replace H : (some (t200, t201, t202, t203, t206)) = some (r1, r2, r3, r4, r5) := H
  have A4 := Aside0.mk A40
  clear A40
  simp only [Option.some.injEq, Prod.mk.injEq] at H
  obtain ⟨rfl, rfl, rfl, rfl, rfl⟩ := H
  go_enter Tryz.func53, Tryz.ntmps53
  go_wp2_with (first | ((with_reducible refine gate_dst (N := 4) rfl ?_); refine box_event ?hg (N := 4) ?hd (cs := #[.int .i64 0, .int .i64 0, .bool false, .slice none 0 0, .slice none 0 0]) (t := 34) ?hr ?_; (case hd => rfl); (case hg => rfl); (case hr => first | (go_simp; done) | (go_simp; rfl)); intro gb190 hg w5 hbox hb; have n0_ := Aside0.mk (Kd.V_below (Kd.V_elderB (by (with_reducible repeat (first | apply Kd.V_alloc | apply Kd.V_drewN | apply Kd.V_drew)); exact HO1.out) gb190 (Nat.le_of_eq hg.symm)) hb); have n1_ := Aside0.mk (below_step (by repeat (first | (with_reducible first | exact HB.out | apply below_alloc | apply pw_below_drewN | apply below_drew1) | exact HB.out)) hb); have n2_ := Aside0.mk (hbox); have n3_ := Aside0.mk ((by rw [hg]; exact (below_size (by repeat (first | (with_reducible first | exact HB.out | apply below_alloc | apply pw_below_drewN | apply below_drew1) | exact HB.out))) : w.heap.size ≤ gb190)); have n4_ := Aside0.mk ((by rw [hg]; exact (below_size (by repeat (first | (with_reducible first | exact HB.out | apply below_alloc | apply pw_below_drewN | apply below_drew1) | exact HB.out))) : w.heap.size ≤ gb190)); clear HO1; clear HB; have HO1 := n0_; have HB := n1_; have BK190 := n2_; have GW190 := n3_; have GE190 := n4_; clear n0_ n1_ n2_ n3_ n4_; clear hb hbox hg) | ((with_reducible refine gate_callee (f := 34) rfl ?_); refine goesL_ (some 7) rfl rfl Tryz.func34 (by kernel_rfl) rfl #[.slice A1 l1.length c1] rfl (by (try simp only [List.map_toArray, List.map_cons, List.map_nil]); first | done | rfl | (simp only [List.length_drop, List.length_take]; rfl)) ?_; (with_reducible refine (spec_List.calls (fun k_ => ((P1_ k_ ∨ w.heap.size ≤ k_) ∧ k_ ≠ gb190)) _ _ l1 t191 t192 t193 t194 t197 _ ?side1 A3.out).mono ?_); (case side1 => exact HO1.out); rintro e w6 ⟨v195, v198, rfl, ho0, ho1, hb⟩; refine ⟨_, rfl, ?_⟩; have n0_ := Aside0.mk (Kd.V_elder' (by (with_reducible repeat (first | apply Kd.V_alloc | apply Kd.V_drewN | apply Kd.V_drew)); exact HO1.out) (Kd.R_base ho0) hb); have n1_ := Aside0.mk (Kd.R_lower (Kd.R_newM (M := fun k_ => (w.heap.size ≤ k_)) (Kd.R_mono (ok' := fun k_ => True) ho0 (fun _ hk_ => trivial)) (below_size (by repeat (first | (with_reducible first | exact HB.out | apply below_alloc | apply pw_below_drewN | apply below_drew1 | refine below_set ?_ GE190.out) | exact HB.out))) (fun k_ h_ => h_)) (below_size (by repeat (first | (with_reducible first | exact HB.out | apply below_alloc | apply pw_below_drewN | apply below_drew1 | refine below_set ?_ GE190.out) | exact HB.out)))); have n2_ := Aside0.mk (Kd.V_lower (Kd.V_mono (ok' := fun k_ => (P1_ k_ ∨ w.heap.size ≤ k_) ∧ some k_ ≠ (v195 : Value).ownBlock ∧ k_ ≠ gb190) ho1 (fun k_ hk_ => ⟨Or.elim hk_.1 (fun hs_ => hs_.1) (fun hn_ => (.inr (Nat.le_trans (below_size (by repeat (first | (with_reducible first | exact HB.out | apply below_alloc | apply pw_below_drewN | apply below_drew1 | refine below_set ?_ GE190.out) | exact HB.out))) hn_))), hk_.2, Or.elim hk_.1 (fun hs_ => hs_.2) (fun hn_ => (Kd.freshB (g := gb190) (o := .cells #[.int .i64 0, .int .i64 0, .bool false, .slice none 0 0, .slice none 0 0] 34 (0, 0)) (by (with_reducible repeat (first | refine blk_drewN ?_ _ | refine blk_drew ?_ | refine blk_alloc ?_ _)); exact BK190.out) k_ hn_))⟩)) (below_size (by repeat (first | (with_reducible first | exact HB.out | apply below_alloc | apply pw_below_drewN | apply below_drew1 | refine below_set ?_ GE190.out) | exact HB.out)))); have n3_ := Aside0.mk (blk_below (g := gb190) (o := .cells #[.int .i64 0, .int .i64 0, .bool false, .slice none 0 0, .slice none 0 0] 34 (0, 0)) (by (with_reducible repeat (first | refine blk_drewN ?_ _ | refine blk_drew ?_ | refine blk_alloc ?_ _)); exact BK190.out) hb); have n4_ := Aside0.mk (below_step (by repeat (first | (with_reducible first | exact HB.out | apply below_alloc | apply pw_below_drewN | apply below_drew1 | refine below_set ?_ GE190.out) | exact HB.out)) hb); clear HO1; clear BK190; clear HB; have HO1 := n0_; have HO196 := n1_; have HO199 := n2_; have BK190 := n3_; have HB := n4_; clear n0_ n1_ n2_ n3_ n4_; (try clear hb); (try clear hb2); (try clear hk); (try clear hi); (try clear ho0); (try clear ho1); obtain ⟨Ao7, co7, eo7⟩ := Kd.R_slice HO196.out; subst eo7; obtain ⟨Ao8, co8, eo8⟩ := Kd.V_slice HO199.out; subst eo8) | ((with_reducible refine gate_callee (f := 36) rfl ?_); refine goesL_ (some 8) rfl rfl Tryz.func36 (by kernel_rfl) rfl #[.int .i64 1, .int .i64 a0, .agg #[.int .i64 t191, .int .i64 t192, .bool t193, .slice Ao7 t194.length co7, .slice Ao8 t197.length co8]] rfl (by (try simp only [List.map_toArray, List.map_cons, List.map_nil]); first | done | rfl | (simp only [List.length_drop, List.length_take]; rfl)) ?_; (with_reducible refine (spec_tagged.calls 1 a0 t191 t192 t193 (fun k_ => some k_ = (.slice Ao7 t194.length co7 : Value).ownBlock) (.slice Ao7 t194.length co7) t194 (fun k_ => ((P1_ k_ ∨ w.heap.size ≤ k_) ∧ (some k_ ≠ (.slice Ao7 t194.length co7 : Value).ownBlock ∧ k_ ≠ gb190))) _ _ t197 t200 t201 t202 t203 t206 w _ ?side1 ?side2 ?side3 A4.out).mono ?_); (case side1 => repeat (first | (with_reducible first | exact HB.out | apply below_alloc | apply pw_below_drewN | apply below_drew1 | refine below_set ?_ GE190.out) | exact HB.out)); (case side2 => exact Kd.R_tight rfl HO196.out); (case side3 => exact Kd.V_mono (HO199.out) (fun k_ hk_ => ⟨hk_, hk_.2.1⟩)); rintro e w9 ⟨v204, v207, rfl, ho0, ho1, hb, hkp⟩; refine ⟨_, rfl, ?_⟩; have n0_ := Aside0.mk (Kd.V_mono (ok' := fun k_ => (P1_ k_ ∨ w.heap.size ≤ k_) ∧ k_ ≠ gb190 ∧ some k_ ≠ (v204 : Value).ownBlock) (Kd.V_keptB (HO1.out) hkp (fun k_ hk_ hs_ => (hk_.2) hs_)) (fun k_ hk_ => ⟨hk_.1.1.1, hk_.1.1.2, fun e_ => Or.elim (ho0.1 k_ e_.symm) (fun hs_ => hk_.2.1 hs_) (fun hn_ => Nat.not_le.2 hk_.2.2 hn_)⟩)); have n1_ := Aside0.mk (blk_kept (by (with_reducible repeat (first | refine blk_drewN ?_ _ | refine blk_drew ?_ | refine blk_alloc ?_ _)); exact BK190.out) hkp (fun hs_ => (fun e_ => (Kd.R_ne HO196.out BK190.out (by decide)) e_) hs_)); have n2_ := Aside0.mk (Kd.V_mono (ok' := fun k_ => (P1_ k_ ∨ w.heap.size ≤ k_) ∧ k_ ≠ gb190 ∧ some k_ ≠ (v204 : Value).ownBlock) (Kd.V_keptB (HO199.out) hkp (fun k_ hk_ hs_ => (hk_.2.1) hs_)) (fun k_ hk_ => ⟨hk_.1.1, hk_.1.2.2, fun e_ => Or.elim (ho0.1 k_ e_.symm) (fun hs_ => hk_.2.1 hs_) (fun hn_ => Nat.not_le.2 hk_.2.2 hn_)⟩)); have n3_ := Aside0.mk (Kd.R_mono (ok' := fun k_ => (w.heap.size ≤ k_)) ho0 (fun k_ hk_ => Or.elim hk_ (fun hs_ => (HO196.out.1 k_ (hs_).symm).1) (fun hn_ => (Nat.le_trans (below_size (by repeat (first | (with_reducible first | exact HB.out | apply below_alloc | apply pw_below_drewN | apply below_drew1 | refine below_set ?_ GE190.out) | exact HB.out))) hn_)))); have n4_ := Aside0.mk (Kd.V_mono (ok' := fun k_ => (P1_ k_ ∨ w.heap.size ≤ k_) ∧ some k_ ≠ (v204 : Value).ownBlock ∧ k_ ≠ gb190) ho1 (fun k_ hk_ => ⟨Or.elim hk_.1 (fun hs_ => Or.elim hs_ (fun hs_ => (.inr ((HO196.out.1 k_ (hs_).symm).1))) (fun hs_ => hs_.1)) (fun hn_ => (.inr (Nat.le_trans (below_size (by repeat (first | (with_reducible first | exact HB.out | apply below_alloc | apply pw_below_drewN | apply below_drew1 | refine below_set ?_ GE190.out) | exact HB.out))) hn_))), hk_.2, Or.elim hk_.1 (fun hs_ => Or.elim hs_ (fun hs_ => fun e_ => (Kd.R_ne HO196.out BK190.out (by decide)) (by rw [← e_]; exact hs_)) (fun hs_ => hs_.2.2)) (fun hn_ => (Kd.freshB (g := gb190) (o := .cells #[.int .i64 0, .int .i64 0, .bool false, .slice none 0 0, .slice none 0 0] 34 (0, 0)) (by (with_reducible repeat (first | refine blk_drewN ?_ _ | refine blk_drew ?_ | refine blk_alloc ?_ _)); exact BK190.out) k_ hn_))⟩)); have n5_ := Aside0.mk (hb); clear HO1; clear BK190; clear HO199; clear HB; clear HO196; have HO1 := n0_; have BK190 := n1_; have HO199 := n2_; have HO205 := n3_; have HO208 := n4_; have HB := n5_; clear n0_ n1_ n2_ n3_ n4_ n5_; (try clear hb); (try clear hkp); (try clear ho0); (try clear ho1); have hcz10_0 : w9.cell? ⟨gb190, 0, none⟩ = some (.int .i64 0) := (blk_cell BK190.out 0).trans rfl; have hcz10_1 : w9.cell? ⟨gb190, 1, none⟩ = some (.int .i64 0) := (blk_cell BK190.out 1).trans rfl; have hcz10_2 : w9.cell? ⟨gb190, 2, none⟩ = some (.bool false) := (blk_cell BK190.out 2).trans rfl; have hcz10_3 : w9.cell? ⟨gb190, 3, none⟩ = some (.slice none 0 0) := (blk_cell BK190.out 3).trans rfl; have hcz10_4 : w9.cell? ⟨gb190, 4, none⟩ = some (.slice none 0 0) := (blk_cell BK190.out 4).trans rfl; have hfz10_0 := blk_frozen BK190.out 0; have hfz10_1 := blk_frozen BK190.out 1; have hfz10_2 := blk_frozen BK190.out 2; have hfz10_3 := blk_frozen BK190.out 3; have hfz10_4 := blk_frozen BK190.out 4; obtain ⟨Ao11, co11, eo11⟩ := Kd.R_slice HO205.out; subst eo11; obtain ⟨Ao12, co12, eo12⟩ := Kd.V_slice HO208.out; subst eo12))
  refine bodyPost_ret (results_cell_row rfl _ _ gb190 34 #[.int .i64 t200, .int .i64 t201, .bool t202, .slice Ao11 t203.length co11, .slice Ao12 t206.length co12] (0, 0) _ rfl (by (with_reducible repeat (first | refine blk_drewN ?_ _ | refine blk_drew ?_ | refine blk_alloc ?_ _)); refine blk_put (cs := #[.int .i64 t200, .int .i64 t201, .bool t202, .slice Ao11 t203.length co11, .slice none 0 0]) ?_ 4 _ rfl; (with_reducible repeat (first | refine blk_drewN ?_ _ | refine blk_drew ?_ | refine blk_alloc ?_ _)); refine blk_put (cs := #[.int .i64 t200, .int .i64 t201, .bool t202, .slice none 0 0, .slice none 0 0]) ?_ 3 _ rfl; (with_reducible repeat (first | refine blk_drewN ?_ _ | refine blk_drew ?_ | refine blk_alloc ?_ _)); refine blk_put (cs := #[.int .i64 t200, .int .i64 t201, .bool false, .slice none 0 0, .slice none 0 0]) ?_ 2 _ rfl; (with_reducible repeat (first | refine blk_drewN ?_ _ | refine blk_drew ?_ | refine blk_alloc ?_ _)); refine blk_put (cs := #[.int .i64 t200, .int .i64 0, .bool false, .slice none 0 0, .slice none 0 0]) ?_ 1 _ rfl; (with_reducible repeat (first | refine blk_drewN ?_ _ | refine blk_drew ?_ | refine blk_alloc ?_ _)); refine blk_put (cs := #[.int .i64 0, .int .i64 0, .bool false, .slice none 0 0, .slice none 0 0]) ?_ 0 _ rfl; (with_reducible repeat (first | refine blk_drewN ?_ _ | refine blk_drew ?_ | refine blk_alloc ?_ _)); exact BK190.out) Tryz.underlying34 rfl (by kernel_rfl)) rfl ?_
  exact ⟨_, _, by first | rfl | (simp [errW_none, errW_some] <;> rfl) | (simp [*, errW_none, errW_some] <;> rfl), by (with_reducible repeat (first | apply Kd.R_alloc | apply Kd.R_drewN | apply Kd.R_drew)); exact Kd.R_mono (Kd.R_far (p := ⟨gb190, 4, none⟩) (Kd.R_far (p := ⟨gb190, 3, none⟩) (Kd.R_far (p := ⟨gb190, 2, none⟩) (Kd.R_far (p := ⟨gb190, 1, none⟩) (Kd.R_far (p := ⟨gb190, 0, none⟩) (Kd.R_types HO205.out BK190.out (by decide)) (fun _ hk => hk.2) (.int .i64 t200)) (fun _ hk => hk.2) (.int .i64 t201)) (fun _ hk => hk.2) (.bool t202)) (fun _ hk => hk.2) (.slice Ao11 t203.length co11)) (fun _ hk => hk.2) (.slice Ao12 t206.length co12)) (fun _ hk => hk.1), by (with_reducible repeat (first | apply Kd.V_alloc | apply Kd.V_drewN | apply Kd.V_drew)); exact Kd.V_mono (Kd.V_far (p := ⟨gb190, 4, none⟩) (Kd.V_far (p := ⟨gb190, 3, none⟩) (Kd.V_far (p := ⟨gb190, 2, none⟩) (Kd.V_far (p := ⟨gb190, 1, none⟩) (Kd.V_far (p := ⟨gb190, 0, none⟩) (Kd.V_mono HO208.out (fun k_ hk => (⟨hk, hk.2.2⟩ : _ ∧ k_ ≠ gb190))) (fun _ hk => hk.2) (.int .i64 t200)) (fun _ hk => hk.2) (.int .i64 t201)) (fun _ hk => hk.2) (.bool t202)) (fun _ hk => hk.2) (.slice Ao11 t203.length co11)) (fun _ hk => hk.2) (.slice Ao12 t206.length co12)) (fun _ hk => ⟨hk.1.1, hk.1.2.1⟩), by repeat (first | (with_reducible first | exact HB.out | apply below_alloc | apply pw_below_drewN | apply below_drew1 | refine below_set ?_ GE190.out) | exact HB.out)⟩

/-! ### spec_Code: function 54 -/
-- NOT PRINTED: function 24 (spec_Result)

-- NOT PRINTED: function 12 (spec_Answer)

-- NOT PRINTED: function 3 (laws_FnAnswer)

/-! ### laws_zzFits15: function 13 -/
end Go.Proofs.YteockihoefbmdaaGreatDoor.PFnEncode
namespace Go.Proofs.YteockihoefbmdaaGreatDoor.Num
open Go.RowKit Go.Proofs.YteockihoefbmdaaGreatDoorW.PrintWords Go.Proofs.YteockihoefbmdaaGreatDoorW.PrintLast Go.Proofs.YteockihoefbmdaaGreatDoorW.PrintMore Go.Proofs.YteockihoefbmdaaGreatDoor.PFnEncode
set_option linter.unusedVariables false
set_option linter.unusedSimpArgs false

/-- the number of digits to the base 256, at least one -/
def nd (x : Nat) : Nat := if _h : x < 256 then 1 else nd (x / 256) + 1
termination_by x
decreasing_by omega

/-- m digits of a whole number to the base 256 (two's complement), the great one first -/
def be (x : Int) : Nat → List Int
  | 0 => []
  | m + 1 => (x / 256 ^ m % 256) :: be x m

theorem be_length (x : Int) (m : Nat) : (be x m).length = m := by
  induction m with
  | zero => rfl
  | succ m ih => simp [be, ih]

theorem be_snoc (x : Int) (m : Nat) : be x (m + 1) = be (x / 256) m ++ [x % 256] := by
  induction m with
  | zero => simp [be]
  | succ m ih =>
    rw [be, ih]
    show _ = ((x / 256) / 256 ^ m % 256) :: be (x / 256) m ++ _
    rw [Int.ediv_ediv_of_nonneg (by omega), show (256 : Int) * 256 ^ m = 256 ^ (m + 1) by rw [Int.pow_succ, Int.mul_comm]]
    rfl

theorem be_one (x : Int) : be x 1 = [x % 256] := by rw [be_snoc]; rfl

theorem be_range (x : Int) (m : Nat) : ∀ y ∈ be x m, 0 ≤ y ∧ y < 256 := by
  induction m with
  | zero => intro y hy; simp [be] at hy
  | succ m ih =>
    intro y hy
    rcases List.mem_cons.1 hy with rfl | hy
    · omega
    · exact ih y hy

theorem nd_small {x : Nat} (h : x < 256) : nd x = 1 := by rw [nd, dif_pos h]
theorem nd_great {x : Nat} (h : ¬ x < 256) : nd x = nd (x / 256) + 1 := by rw [nd, dif_neg h]

theorem nd_le : ∀ (k x : Nat), x < 256 ^ (k + 1) → nd x ≤ k + 1 := by
  intro k
  induction k with
  | zero => intro x h; rw [nd_small (by simpa using h)]; omega
  | succ k ih =>
    intro x h
    by_cases hx : x < 256
    · rw [nd_small hx]; omega
    · rw [nd_great hx]
      have := ih (x / 256) (by rw [Nat.div_lt_iff_lt_mul (by omega)]; rw [Nat.pow_succ] at h; exact h)
      omega

theorem nd_pos (x : Nat) : 1 ≤ nd x := by
  by_cases hx : x < 256
  · rw [nd_small hx]; omega
  · rw [nd_great hx]; omega

theorem ulen (k : Nat) : ∀ (x : Nat) (c : Int), x < 256 ^ (k + 1) → 0 ≤ c → c + k < 4611686018427387904 →
    asn1ber_uint64Length.l0 (k + 1) (x : Int) c = some (c + nd x - 1) := by
  induction k with
  | zero =>
    intro x c hx _ _
    have hx' : x < 256 := by simpa using hx
    unfold asn1ber_uint64Length.l0
    rw [if_neg (by omega), nd_small hx']
    congr 1; omega
  | succ k ih =>
    intro x c hx h0 hc
    unfold asn1ber_uint64Length.l0
    by_cases hs : x < 256
    · rw [if_neg (by omega), nd_small hs]
      congr 1; omega
    · rw [if_pos (by omega), nd_great hs]
      have e1 : wrap64 (c + 1) = c + 1 := by unfold wrap64; omega
      have e2 : (x : Int) / 256 = ((x / 256 : Nat) : Int) := by omega
      rw [e1, e2, ih (x / 256) (c + 1) (by rw [Nat.div_lt_iff_lt_mul (by omega)]; rw [Nat.pow_succ] at hx; exact hx) (by omega) (by omega)]
      congr 1; omega

theorem take_set_snoc (l : List Int) (j : Nat) (v : Int) (h : j < l.length) : (l.set j v).take (j + 1) = l.take j ++ [v] := by
  induction l generalizing j with
  | nil => simp at h
  | cons a l ih =>
    cases j with
    | zero => simp
    | succ j => simp only [List.set_cons_succ, List.take_succ_cons, List.cons_append]; rw [ih j (by simpa using h)]

theorem shr_at (k : IntKind) (hk : k.bits = 64) (x : Int) (m : Nat) (hm : m < 8) : (shr k x ((m : Int) * 8)) % 256 = x / 256 ^ m % 256 := by
  unfold shr
  rw [hk, show min ((m : Int) * 8).toNat 64 = 8 * m by omega, Int.pow_mul]
  rfl

theorem uenc (m : Nat) : ∀ (x : Int) (j : Nat) (out : List Int), m ≤ 8 → j + m ≤ 8 → out.length = j + m →
    asn1ber_encodeUnsignedInteger.l0 (m + 1) x (m : Int) out (j : Int) = some (out.take j ++ be x m) := by
  induction m with
  | zero =>
    intro x j out _ _ hl
    unfold asn1ber_encodeUnsignedInteger.l0
    rw [if_neg (by omega), List.take_of_length_le (by omega)]
    simp [be]
  | succ m ih =>
    intro x j out hm hj hl
    unfold asn1ber_encodeUnsignedInteger.l0
    have e1 : wrap64 (((m + 1 : Nat) : Int) - 1) = (m : Int) := by unfold wrap64; omega
    have e2 : wrap64 ((m : Int) * 8) = (m : Int) * 8 := by unfold wrap64; omega
    have e3 : IntKind.u64.wrap ((m : Int) * 8) = (m : Int) * 8 := IntWalk.u64_in _ (by omega)
    have e4 : wrap64 ((j : Int) + 1) = ((j + 1 : Nat) : Int) := by unfold wrap64; omega
    rw [e1, e2, e3, e4]
    rw [if_pos (show ((m + 1 : Nat) : Int) > 0 by omega), if_pos (show (0 : Int) ≤ (m : Int) * 8 by omega), if_pos (show (0 : Int) ≤ (j : Int) by omega), if_pos (show (j : Int) < (out.length : Int) by omega), shr_at .u64 rfl x m (by omega)]
    rw [Int.toNat_natCast, ih x (j + 1) (out.set j (x / 256 ^ m % 256)) (by omega) (by omega) (by rw [List.length_set]; omega)]
    rw [take_set_snoc _ _ _ (by omega)]
    simp [be]

theorem uint_enc (x : Nat) (hx : x < 256 ^ 8) (k : Nat) (hk : 9 ≤ k) : asn1ber_encodeUnsignedInteger.f k (x : Int) = some (be x (nd x)) := by
  have hn := nd_le 7 x hx
  have h1 : asn1ber_uint64Length.f 8 (x : Int) = some (nd x : Int) := by
    unfold asn1ber_uint64Length.f
    rw [ulen 7 x 1 hx (by omega) (by omega)]
    congr 1; omega
  have h1' := at_rounds (fun n => asn1ber_uint64Length.mono (x : Int) n) (show 8 ≤ k by omega) h1
  unfold asn1ber_encodeUnsignedInteger.f
  rw [h1']
  simp only [Option.bind_some]
  rw [if_pos (by omega), if_pos (by omega)]
  have h2 := uenc (nd x) x 0 (List.replicate (nd x) 0) hn (by omega) (by simp)
  have h2' := at_rounds (fun n => (asn1ber_encodeUnsignedInteger.mono_l n) (x : Int) (nd x : Int) (List.replicate (nd x) 0) 0) (show nd x + 1 ≤ k by omega) h2
  simp only [Int.toNat_natCast]
  rw [show (0 : Int) = ((0 : Nat) : Int) from rfl] at h2' ⊢
  rw [h2']; simp

/-- the bytes of a length -/
def lenBytes (n : Nat) : List Int := if n < 128 then [(n : Int)] else (128 + (nd n : Int)) :: be n (nd n)

theorem lenBytes_le (n : Nat) (h : n < 256 ^ 8) : (lenBytes n).length ≤ 9 := by
  unfold lenBytes
  have := nd_le 7 n h
  split
  · simp
  · simp [be_length]; omega

theorem or128 : ∀ n : Fin 9, Go.bits .or .u8 128 ((n : Nat) : Int) = 128 + ((n : Nat) : Int) := by decide +kernel

theorem enc_len (n : Nat) (hn : n < 256 ^ 7) : asn1ber_encodeLength.f 12 (n : Int) = some (lenBytes n) := by
  have h8 : n < 256 ^ 8 := by have : 256 ^ 7 ≤ 256 ^ 8 := Nat.pow_le_pow_right (by omega) (by omega); omega
  have hu : IntKind.u64.wrap (n : Int) = (n : Int) := IntWalk.u64_in _ (by simp at hn; omega)
  have hnd := nd_le 7 n h8
  have hp := nd_pos n
  unfold asn1ber_encodeLength.f lenBytes
  rw [hu, uint_enc n h8 12 (by omega)]
  simp only [Option.bind_some]
  by_cases hs : n < 128
  · rw [if_pos hs, if_neg (by omega), be_length, nd_small (by omega), if_neg (by omega), be_one]
    congr 1
    congr 1
    omega
  · rw [if_neg hs, if_pos (by omega), if_pos (by rw [be_length]; simp; omega), be_length]
    have e := or128 ⟨nd n, by omega⟩
    rw [show ((nd n : Nat) : Int) % 256 = (nd n : Int) by omega, e]
    rfl

theorem works_true : laws_works.f 12 = some true := by decide +kernel
theorem works_any (w : World) : Calls Tryz.prog 8 #[] w fun e w' => e = .returned (.bool true) ∧ Below w.heap.size w w' := laws_works.calls 12 true w works_true
theorem encLen_any (n : Nat) (h : n < 256 ^ 7) (w : World) : Calls Tryz.prog 103 #[.int .i64 (n : Int)] w fun e w' => ∃ v, e = .returned v ∧ (Kd.int .u8).R 5 w' w.heap.size (fun _ => True) v (lenBytes n) ∧ Below w.heap.size w w' :=
  asn1ber_encodeLength.calls 12 n _ w (enc_len n h)
end Go.Proofs.YteockihoefbmdaaGreatDoor.Num
