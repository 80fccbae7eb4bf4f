/- Parts of the proof of one law, in the order in which they build. What the printed helpers on attributes compute: texts, attribute, attributes. -/
import Derived.Test.YteockihoefbmdaaGreatDoorEty1
import Derived.Test.YteockihoefbmdaaGreatDoorEty2
import Derived.Test.YteockihoefbmdaaGreatDoorEty3
import Derived.Test.YteockihoefbmdaaGreatDoorEty4
import Derived.Test.YteockihoefbmdaaGreatDoorEty5
import Derived.Test.YteockihoefbmdaaGreatDoorEty6
import Derived.Test.YteockihoefbmdaaGreatDoorEty11
import Derived.Test.YteockihoefbmdaaGreatDoorEty12
namespace Go.Proofs.YteockihoefbmdaaGreatDoor.PFnEncode
open Go.RowKit Go.Proofs.YteockihoefbmdaaGreatDoorW.PrintWords Go.Proofs.YteockihoefbmdaaGreatDoorW.PrintLast Go.Proofs.YteockihoefbmdaaGreatDoorW.PrintMore
attribute [local go_sem] max2_int min2_int max_two min_two max_three min_three max_four min_four   -- for this text's walks alone
set_option linter.unusedVariables false
set_option linter.unusedSimpArgs false

/-! ### goldap_NewControlString: function 68 -/
/-! ### goldap_NewControlPaging: function 69 -/
-- NOT PRINTED: function 70 (goldap_ControlPaging_SetCookie)

/-! ### goldap_NewControlManageDsaIT: function 71 -/
-- NOT PRINTED: function 72 (goldap_NewControlMicrosoftNotification)

-- NOT PRINTED: function 73 (goldap_NewControlMicrosoftShowDeleted)

-- NOT PRINTED: function 74 (goldap_NewControlMicrosoftServerLinkTTL)

-- NOT PRINTED: function 75 (goldap_NewControlSubtreeDelete)

-- NOT PRINTED: function 41 (impl_control)

-- NOT PRINTED: function 15 (impl_FormatControl)

-- NOT PRINTED: function 44 (spec_Alike)

-- NOT PRINTED: function 76 (laws_within)

-- NOT PRINTED: function 45 (laws_answer)

-- NOT PRINTED: function 16 (laws_same)

-- NOT PRINTED: function 17 (impl_ParseControl)

-- NOT PRINTED: function 4 (laws_FnControl)

/-! ### laws_zzFits12: function 95 -/
def laws_zzFits12.l0 : Nat → List (List Int) → Int → Int → Option (Bool)
  | 0, _, _, _ => none
  | k + 1, x8, x9, x10 => if x10 < x9 then (if 0 ≤ x10 then (if x10 < (x8.length : Int) then (if ((rd_L4 x8 x10).length : Int) > 2147483647 then (some false) else (laws_zzFits12.l0 k x8 x9 (wrap64 (x10 + 1)))) else (none)) else (none)) else (some true)
def laws_zzFits12.f (k : Nat) (l0 : List (List Int)) : Option (Bool) := if (l0.length : Int) > 2147483647 then (some false) else (laws_zzFits12.l0 k l0 (l0.length : Int) 0)
theorem laws_zzFits12.mono_l : ∀ k, (∀ y0 y1 y2, LeO (laws_zzFits12.l0 k y0 y1 y2) (laws_zzFits12.l0 (k + 1) y0 y1 y2))
  | 0 => fun _ _ _ r h => by simp [laws_zzFits12.l0] at h
  | k + 1 => by
    have ih0 := laws_zzFits12.mono_l k
    · intro y0 y1 y2
      unfold laws_zzFits12.l0
      repeat' first
      | (with_reducible exact ih0 _ _ _)
      | (with_reducible exact LeO.refl _)
      | (with_reducible exact LeO.none _)
      | (with_reducible refine LeO.ite ?_ ?_)
      | (with_reducible refine LeO.bind ?_ (fun _ => ?_))
      | exact ih0 _ _ _
      | exact LeO.none _
      | refine LeO.ite ?_ ?_
      | refine LeO.bind ?_ (fun _ => ?_)
theorem laws_zzFits12.mono : ∀ a0 k, LeO (laws_zzFits12.f k a0) (laws_zzFits12.f (k + 1) a0) := by
  intro a0 k
  have ih0 := laws_zzFits12.mono_l k
  unfold laws_zzFits12.f
  repeat' first
      | (with_reducible exact ih0 _ _ _)
      | (with_reducible exact LeO.refl _)
      | (with_reducible exact LeO.none _)
      | (with_reducible refine LeO.ite ?_ ?_)
      | (with_reducible refine LeO.bind ?_ (fun _ => ?_))
      | exact ih0 _ _ _
      | exact LeO.none _
      | refine LeO.ite ?_ ?_
      | refine LeO.bind ?_ (fun _ => ?_)
set_option maxHeartbeats 8000000 in
set_option maxRecDepth 100000 in
theorem laws_zzFits12.calls (k : Nat) (A0 : Option Addr) (c0 : Nat) (l0 : List (List Int)) (r : Bool) (w : World) (hr0 : Kd.C (Kd.slice 5 (Kd.int .u8)) w A0 l0.length l0) (hc0 : l0.length ≤ c0) (h : laws_zzFits12.f k l0 = some r) :
    Calls Tryz.prog 95 #[.slice A0 l0.length c0] w fun e w' => e = .returned (.bool r) ∧ Drawn0 w w' := by
  have HR0 := Aside0.mk hr0
  have HC0 := Aside0.mk hc0
  clear hr0 hc0
  have H : (if (l0.length : Int) > 2147483647 then (some false) else (laws_zzFits12.l0 k l0 (l0.length : Int) 0)) = some r := h
  clear h
  by_cases c2 : (l0.length : Int) > 2147483647
  · rw [if_pos c2] at H
    have c2b0 : decide (2147483647 < (l0.length : Int)) = true := decide_eq_true c2
    have c2b1 : decide (2147483647 < l0.length) = true := decide_eq_true (by omega)
    clear c2
    obtain rfl := Option.some.inj H
    go_enter Tryz.func95, Tryz.ntmps95
    go_wp2
    go_ret
    exact ⟨by first | rfl | (simp; done) | (simp [*]; done), by repeat (first | exact Drawn0.refl _ | apply Drawn0.step)⟩
  · rw [if_neg c2] at H
    have c2b0 : decide (2147483647 < (l0.length : Int)) = false := decide_eq_false c2
    have c2b1 : decide (2147483647 < l0.length) = false := decide_eq_false (by omega)
    clear c2
    have H' := Aside0.mk H
    clear H
    go_enter Tryz.func95, Tryz.ntmps95
    go_wp2
    go_loopg [10] k (fun kq v10 w' => ∃ (x10_1 : Int), v10 = .int .i64 x10_1 ∧ Aside0 (laws_zzFits12.l0 kq l0 (l0.length : Int) x10_1 = some r) ∧ Aside0 (kq ≤ k) ∧ Drawn0 w w')
    case atStart => exact ⟨(0), (by first | rfl | (simp; done) | (simp [*]; done)), H', ⟨Nat.le_refl _⟩, by repeat (first | exact Drawn0.refl _ | apply Drawn0.step)⟩
    case round =>
      clear H'
      try clear c2
      try clear c2b0
      try clear c2b1
      try clear p2
      obtain ⟨x10_1, rfl, HA, HK1, ⟨m1, rfl⟩⟩ := hrel
      cases gk with
      | zero => exact absurd HA.out (by simp [laws_zzFits12.l0])
      | succ k1 =>
        have H := HA.out
        clear HA
        simp only [laws_zzFits12.l0] at H
        by_cases c3 : x10_1 < (l0.length : Int)
        · rw [if_pos c3] at H
          have c3b0 : decide (x10_1 < (l0.length : Int)) = true := decide_eq_true c3
          clear c3
          by_cases c4 : 0 ≤ x10_1
          · rw [if_pos c4] at H
            have c4b0 : decide (0 ≤ x10_1) = true := decide_eq_true c4
            clear c4
            by_cases c5 : x10_1 < (l0.length : Int)
            · rw [if_pos c5] at H
              have c5b0 : decide (x10_1 < (l0.length : Int)) = true := decide_eq_true c5
              clear c5
              by_cases c6 : ((rd_L4 l0 x10_1).length : Int) > 2147483647
              · rw [if_pos c6] at H
                have c6b0 : decide (2147483647 < ((rd_L4 l0 x10_1).length : Int)) = true := decide_eq_true c6
                have c6b1 : decide (2147483647 < (rd_L4 l0 x10_1).length) = true := decide_eq_true (by omega)
                clear c6
                obtain rfl := Option.some.inj H
                have p333 : 0 ≤ (x10_1 : Int) := of_decide_eq_true (by first | (with_reducible assumption) | assumption)
                have q333 : x10_1 < (l0.length : Int) := of_decide_eq_true (by first | (with_reducible assumption) | assumption)
                obtain ⟨ad333, A333_0, c333_0, e333, hx333_0, hl333_0, hi333_0⟩ := at_L4 HR0.out x10_1 p333 q333
                cases e333
                have HR333_0 := Aside0.mk hi333_0
                have HC333_0 := Aside0.mk hl333_0
                clear hi333_0 hl333_0
                replace p333 := eq_true p333
                replace q333 := eq_true q333
                go_wp2
                go_ret
                exact ⟨by first | rfl | (simp; done) | (simp [*]; done), by repeat (first | exact Drawn0.refl _ | apply Drawn0.step)⟩
              · rw [if_neg c6] at H
                have c6b0 : decide (2147483647 < ((rd_L4 l0 x10_1).length : Int)) = false := decide_eq_false c6
                have c6b1 : decide (2147483647 < (rd_L4 l0 x10_1).length) = false := decide_eq_false (by omega)
                clear c6
                have H' := Aside0.mk H
                clear H
                have p333 : 0 ≤ (x10_1 : Int) := of_decide_eq_true (by first | (with_reducible assumption) | assumption)
                have q333 : x10_1 < (l0.length : Int) := of_decide_eq_true (by first | (with_reducible assumption) | assumption)
                obtain ⟨ad333, A333_0, c333_0, e333, hx333_0, hl333_0, hi333_0⟩ := at_L4 HR0.out x10_1 p333 q333
                cases e333
                have HR333_0 := Aside0.mk hi333_0
                have HC333_0 := Aside0.mk hl333_0
                clear hi333_0 hl333_0
                replace p333 := eq_true p333
                replace q333 := eq_true q333
                go_wp2
                go_roundg k1
                case measure => have := HK1.out; omega
                case rel => exact ⟨(wrap64 (x10_1 + 1)), (by first | rfl | (simp; done) | (simp [*]; done)), H', ⟨by have := HK1.out; omega⟩, by repeat (first | exact Drawn0.refl _ | apply Drawn0.step)⟩
            · rw [if_neg c5] at H
              exact absurd H (by simp)
          · rw [if_neg c4] at H
            exact absurd H (by simp)
        · rw [if_neg c3] at H
          have c3b0 : decide (x10_1 < (l0.length : Int)) = false := decide_eq_false c3
          clear c3
          obtain rfl := Option.some.inj H
          go_wp2
          go_ret
          exact ⟨by first | rfl | (simp; done) | (simp [*]; done), by repeat (first | exact Drawn0.refl _ | apply Drawn0.step)⟩

/-! ### laws_zzFits11: function 49 -/
def laws_zzFits11.f (k : Nat) (a0_0 : ByteArray) (l0_1 : List (List Int)) : Option (Bool) := if (a0_0.size : Int) > 2147483647 then (some false) else ((laws_zzFits12.f k l0_1).bind fun t335 => (if t335 = true then (some true) else (some false)))
theorem laws_zzFits11.mono : ∀ a0 a1 k, LeO (laws_zzFits11.f k a0 a1) (laws_zzFits11.f (k + 1) a0 a1) := by
  intro a0 a1 k
  unfold laws_zzFits11.f
  repeat' first
      | (with_reducible exact laws_zzFits12.mono _ _)
      | (with_reducible exact LeO.refl _)
      | (with_reducible exact LeO.none _)
      | (with_reducible refine LeO.ite ?_ ?_)
      | (with_reducible refine LeO.bind ?_ (fun _ => ?_))
      | exact laws_zzFits12.mono _ _
      | exact LeO.none _
      | refine LeO.ite ?_ ?_
      | refine LeO.bind ?_ (fun _ => ?_)
set_option maxHeartbeats 8000000 in
set_option maxRecDepth 100000 in
theorem laws_zzFits11.calls (k : Nat) (a0_0 : ByteArray) (A0_1 : Option Addr) (c0_1 : Nat) (l0_1 : List (List Int)) (r : Bool) (w : World) (hr0_1 : Kd.C (Kd.slice 5 (Kd.int .u8)) w A0_1 l0_1.length l0_1) (hc0_1 : l0_1.length ≤ c0_1) (h : laws_zzFits11.f k a0_0 l0_1 = some r) :
    Calls Tryz.prog 49 #[.agg #[.string a0_0, .slice A0_1 l0_1.length c0_1]] w fun e w' => e = .returned (.bool r) ∧ Below w.heap.size w w' := by
  have hu58 := Tryz.underlying58
  have HR0_1 := Aside0.mk hr0_1
  have HC0_1 := Aside0.mk hc0_1
  clear hr0_1 hc0_1
  have HB := Aside0.mk (Below.refl w.heap.size w)
  have H : (if (a0_0.size : Int) > 2147483647 then (some false) else ((laws_zzFits12.f k l0_1).bind fun t335 => (if t335 = true then (some true) else (some false)))) = some r := h
  clear h
  by_cases c2 : (a0_0.size : Int) > 2147483647
  · rw [if_pos c2] at H
    have c2b0 : decide (2147483647 < (a0_0.size : Int)) = true := decide_eq_true c2
    have c2b1 : decide (2147483647 < a0_0.size) = true := decide_eq_true (by omega)
    clear c2
    obtain rfl := Option.some.inj H
    go_enter Tryz.func49, Tryz.ntmps49
    go_wp2_with (first | ((with_reducible refine gate_dst (N := 1) rfl ?_); refine box_event ?hg (N := 1) ?hd (cs := #[.string a0_0, .slice A0_1 l0_1.length c0_1]) (t := 58) ?hr ?_; (case hd => rfl); (case hg => rfl); (case hr => first | (go_simp; done) | (go_simp; rfl)); intro gb334 hg w3 hbox hb; have n0_ := Aside0.mk (below_step (by repeat (first | (with_reducible first | exact HB.out | apply below_alloc | apply pw_below_drewN | apply below_drew1) | exact HB.out)) hb); have n1_ := Aside0.mk (hbox); have n2_ := Aside0.mk ((by rw [hg]; exact (below_size (by repeat (first | (with_reducible first | exact HB.out | apply below_alloc | apply pw_below_drewN | apply below_drew1) | exact HB.out))) : w.heap.size ≤ gb334)); have n3_ := Aside0.mk ((by rw [hg]; exact (below_size (by repeat (first | (with_reducible first | exact HB.out | apply below_alloc | apply pw_below_drewN | apply below_drew1) | exact HB.out))) : w.heap.size ≤ gb334)); clear HB; have HB := n0_; have BK334 := n1_; have GW334 := n2_; have GE334 := n3_; clear n0_ n1_ n2_ n3_; clear hb hbox hg; have hcz4_0 : w3.cell? ⟨gb334, 0, none⟩ = some (.string a0_0) := (blk_cell BK334.out 0).trans rfl; have hcz4_1 : w3.cell? ⟨gb334, 1, none⟩ = some (.slice A0_1 l0_1.length c0_1) := (blk_cell BK334.out 1).trans rfl; have hfz4_0 := blk_frozen BK334.out 0; have hfz4_1 := blk_frozen BK334.out 1))
    go_ret
    exact ⟨by first | rfl | (simp [errW_none, errW_some] <;> rfl) | (simp [*, errW_none, errW_some] <;> rfl), by repeat (first | (with_reducible first | exact HB.out | apply below_alloc | apply pw_below_drewN | apply below_drew1 | refine below_set ?_ GE334.out) | exact HB.out)⟩
  · rw [if_neg c2] at H
    have c2b0 : decide (2147483647 < (a0_0.size : Int)) = false := decide_eq_false c2
    have c2b1 : decide (2147483647 < a0_0.size) = false := decide_eq_false (by omega)
    clear c2
    replace H := Option.bind_eq_some_iff.mp H
    obtain ⟨t335, A50, H⟩ := H
    replace H : (if t335 = true then (some true) else (some false)) = some r := H
    have A5 := Aside0.mk A50
    clear A50
    by_cases c6 : t335 = true
    · subst c6
      have H1 : (some true) = some r := by rw [if_pos rfl] at H; exact H
      clear H
      have H := H1
      clear H1
      obtain rfl := Option.some.inj H
      go_enter Tryz.func49, Tryz.ntmps49
      go_wp2_with (first | ((with_reducible refine gate_dst (N := 1) rfl ?_); refine box_event ?hg (N := 1) ?hd (cs := #[.string a0_0, .slice A0_1 l0_1.length c0_1]) (t := 58) ?hr ?_; (case hd => rfl); (case hg => rfl); (case hr => first | (go_simp; done) | (go_simp; rfl)); intro gb334 hg w7 hbox hb; have n0_ := Aside0.mk (below_step (by repeat (first | (with_reducible first | exact HB.out | apply below_alloc | apply pw_below_drewN | apply below_drew1) | exact HB.out)) hb); have n1_ := Aside0.mk (hbox); have n2_ := Aside0.mk ((by rw [hg]; exact (below_size (by repeat (first | (with_reducible first | exact HB.out | apply below_alloc | apply pw_below_drewN | apply below_drew1) | exact HB.out))) : w.heap.size ≤ gb334)); have n3_ := Aside0.mk ((by rw [hg]; exact (below_size (by repeat (first | (with_reducible first | exact HB.out | apply below_alloc | apply pw_below_drewN | apply below_drew1) | exact HB.out))) : w.heap.size ≤ gb334)); clear HB; have HB := n0_; have BK334 := n1_; have GW334 := n2_; have GE334 := n3_; clear n0_ n1_ n2_ n3_; clear hb hbox hg; have hcz8_0 : w7.cell? ⟨gb334, 0, none⟩ = some (.string a0_0) := (blk_cell BK334.out 0).trans rfl; have hcz8_1 : w7.cell? ⟨gb334, 1, none⟩ = some (.slice A0_1 l0_1.length c0_1) := (blk_cell BK334.out 1).trans rfl; have hfz8_0 := blk_frozen BK334.out 0; have hfz8_1 := blk_frozen BK334.out 1) | ((with_reducible refine gate_callee (f := 95) rfl ?_); refine goesL_ (some 9) rfl rfl Tryz.func95 (by kernel_rfl) rfl #[.slice A0_1 l0_1.length c0_1] rfl (by (try simp only [List.map_toArray, List.map_cons, List.map_nil]); first | done | rfl | (simp only [List.length_drop, List.length_take]; rfl)) ?_; (with_reducible refine (laws_zzFits12.calls k _ _ l0_1 true _ ?side1 ?side2 A5.out).mono ?_); (case side1 => repeat (first | exact (Kd.C_below HR0_1.out HB.out) | (with_reducible refine Kd.C_alloc ?_ _) | (with_reducible refine Kd.C_drewN ?_ _) | (with_reducible refine Kd.C_drew ?_))); (case side2 => exact HC0_1.out); rintro e w' ⟨rfl, ⟨nd, rfl⟩⟩; refine ⟨_, rfl, ?_⟩))
      go_ret
      exact ⟨by first | rfl | (simp [errW_none, errW_some] <;> rfl) | (simp [*, errW_none, errW_some] <;> rfl), by repeat (first | (with_reducible first | exact HB.out | apply below_alloc | apply pw_below_drewN | apply below_drew1 | refine below_set ?_ GE334.out) | exact HB.out)⟩
    · replace c6 := Bool.eq_false_iff.mpr c6
      subst c6
      have H1 : (some false) = some r := by rw [if_neg (show ¬ (false = true) by decide)] at H; exact H
      clear H
      have H := H1
      clear H1
      obtain rfl := Option.some.inj H
      go_enter Tryz.func49, Tryz.ntmps49
      go_wp2_with (first | ((with_reducible refine gate_dst (N := 1) rfl ?_); refine box_event ?hg (N := 1) ?hd (cs := #[.string a0_0, .slice A0_1 l0_1.length c0_1]) (t := 58) ?hr ?_; (case hd => rfl); (case hg => rfl); (case hr => first | (go_simp; done) | (go_simp; rfl)); intro gb334 hg w9 hbox hb; have n0_ := Aside0.mk (below_step (by repeat (first | (with_reducible first | exact HB.out | apply below_alloc | apply pw_below_drewN | apply below_drew1) | exact HB.out)) hb); have n1_ := Aside0.mk (hbox); have n2_ := Aside0.mk ((by rw [hg]; exact (below_size (by repeat (first | (with_reducible first | exact HB.out | apply below_alloc | apply pw_below_drewN | apply below_drew1) | exact HB.out))) : w.heap.size ≤ gb334)); have n3_ := Aside0.mk ((by rw [hg]; exact (below_size (by repeat (first | (with_reducible first | exact HB.out | apply below_alloc | apply pw_below_drewN | apply below_drew1) | exact HB.out))) : w.heap.size ≤ gb334)); clear HB; have HB := n0_; have BK334 := n1_; have GW334 := n2_; have GE334 := n3_; clear n0_ n1_ n2_ n3_; clear hb hbox hg; have hcz10_0 : w9.cell? ⟨gb334, 0, none⟩ = some (.string a0_0) := (blk_cell BK334.out 0).trans rfl; have hcz10_1 : w9.cell? ⟨gb334, 1, none⟩ = some (.slice A0_1 l0_1.length c0_1) := (blk_cell BK334.out 1).trans rfl; have hfz10_0 := blk_frozen BK334.out 0; have hfz10_1 := blk_frozen BK334.out 1) | ((with_reducible refine gate_callee (f := 95) rfl ?_); refine goesL_ (some 9) rfl rfl Tryz.func95 (by kernel_rfl) rfl #[.slice A0_1 l0_1.length c0_1] rfl (by (try simp only [List.map_toArray, List.map_cons, List.map_nil]); first | done | rfl | (simp only [List.length_drop, List.length_take]; rfl)) ?_; (with_reducible refine (laws_zzFits12.calls k _ _ l0_1 false _ ?side1 ?side2 A5.out).mono ?_); (case side1 => repeat (first | exact (Kd.C_below HR0_1.out HB.out) | (with_reducible refine Kd.C_alloc ?_ _) | (with_reducible refine Kd.C_drewN ?_ _) | (with_reducible refine Kd.C_drew ?_))); (case side2 => exact HC0_1.out); rintro e w' ⟨rfl, ⟨nd, rfl⟩⟩; refine ⟨_, rfl, ?_⟩))
      go_ret
      exact ⟨by first | rfl | (simp [errW_none, errW_some] <;> rfl) | (simp [*, errW_none, errW_some] <;> rfl), by repeat (first | (with_reducible first | exact HB.out | apply below_alloc | apply pw_below_drewN | apply below_drew1 | refine below_set ?_ GE334.out) | exact HB.out)⟩

/-! ### laws_zzFits13: function 18 -/
def laws_zzFits13.l0 : Nat → List (S58) → Int → Int → Option (Bool)
  | 0, _, _, _ => none
  | k + 1, x8, x9, x10 => if x10 < x9 then (if 0 ≤ x10 then (if x10 < (x8.length : Int) then ((laws_zzFits11.f k ((rd_T58 x8 x10).f0) ((rd_T58 x8 x10).f1)).bind fun t338 => (if t338 = true then (laws_zzFits13.l0 k x8 x9 (wrap64 (x10 + 1))) else (some false))) else (none)) else (none)) else (some true)
def laws_zzFits13.f (k : Nat) (l0 : List (S58)) : Option (Bool) := if (l0.length : Int) > 2147483647 then (some false) else (laws_zzFits13.l0 k l0 (l0.length : Int) 0)
theorem laws_zzFits13.mono_l : ∀ k, (∀ y0 y1 y2, LeO (laws_zzFits13.l0 k y0 y1 y2) (laws_zzFits13.l0 (k + 1) y0 y1 y2))
  | 0 => fun _ _ _ r h => by simp [laws_zzFits13.l0] at h
  | k + 1 => by
    have ih0 := laws_zzFits13.mono_l k
    · intro y0 y1 y2
      unfold laws_zzFits13.l0
      repeat' first
      | (with_reducible exact ih0 _ _ _)
      | (with_reducible exact laws_zzFits11.mono _ _ _)
      | (with_reducible exact LeO.refl _)
      | (with_reducible exact LeO.none _)
      | (with_reducible refine LeO.ite ?_ ?_)
      | (with_reducible refine LeO.bind ?_ (fun _ => ?_))
      | exact ih0 _ _ _
      | exact laws_zzFits11.mono _ _ _
      | exact LeO.none _
      | refine LeO.ite ?_ ?_
      | refine LeO.bind ?_ (fun _ => ?_)
set_option maxHeartbeats 8000000 in
set_option maxRecDepth 100000 in
theorem laws_zzFits13.calls (k : Nat) (A0 : Option Addr) (c0 : Nat) (l0 : List (S58)) (r : Bool) (w : World) (hr0 : Kd.C k58 w A0 l0.length l0) (hc0 : l0.length ≤ c0) (h : laws_zzFits13.f k l0 = some r) :
    Calls Tryz.prog 18 #[.slice A0 l0.length c0] w fun e w' => e = .returned (.bool r) ∧ Below w.heap.size w w' := by
  have hu58 := Tryz.underlying58
  have HR0 := Aside0.mk hr0
  have HC0 := Aside0.mk hc0
  clear hr0 hc0
  have HB := Aside0.mk (Below.refl w.heap.size w)
  have H : (if (l0.length : Int) > 2147483647 then (some false) else (laws_zzFits13.l0 k l0 (l0.length : Int) 0)) = some r := h
  clear h
  by_cases c2 : (l0.length : Int) > 2147483647
  · rw [if_pos c2] at H
    have c2b0 : decide (2147483647 < (l0.length : Int)) = true := decide_eq_true c2
    have c2b1 : decide (2147483647 < l0.length) = true := decide_eq_true (by omega)
    clear c2
    obtain rfl := Option.some.inj H
    go_enter Tryz.func18, Tryz.ntmps18
    go_wp2
    go_ret
    exact ⟨by first | rfl | (simp [errW_none, errW_some] <;> rfl) | (simp [*, errW_none, errW_some] <;> rfl), by repeat (first | (with_reducible first | exact HB.out | apply below_alloc | apply pw_below_drewN | apply below_drew1) | exact HB.out)⟩
  · rw [if_neg c2] at H
    have c2b0 : decide (2147483647 < (l0.length : Int)) = false := decide_eq_false c2
    have c2b1 : decide (2147483647 < l0.length) = false := decide_eq_false (by omega)
    clear c2
    have H' := Aside0.mk H
    clear H
    go_enter Tryz.func18, Tryz.ntmps18
    go_wp2
    go_loopg [10] k (fun kq v10 w' => ∃ (x10_1 : Int), v10 = .int .i64 x10_1 ∧ Aside0 (laws_zzFits13.l0 kq l0 (l0.length : Int) x10_1 = some r) ∧ Aside0 (kq ≤ k) ∧ Aside0 (Below w.heap.size w w'))
    case atStart => exact ⟨(0), (by first | rfl | (simp; done) | (simp [*]; done)), H', ⟨Nat.le_refl _⟩, ⟨by repeat (first | (with_reducible first | exact HB.out | apply below_alloc | apply pw_below_drewN | apply below_drew1) | exact HB.out)⟩⟩
    case round =>
      clear H'
      try clear c1
      try clear c2
      try clear c2b0
      try clear c2b1
      try clear p2
      obtain ⟨x10_1, rfl, HA, HK1, HB⟩ := hrel
      cases gk with
      | zero => exact absurd HA.out (by simp [laws_zzFits13.l0])
      | succ k1 =>
        have H := HA.out
        clear HA
        simp only [laws_zzFits13.l0] at H
        by_cases c3 : x10_1 < (l0.length : Int)
        · rw [if_pos c3] at H
          have c3b0 : decide (x10_1 < (l0.length : Int)) = true := decide_eq_true c3
          clear c3
          by_cases c4 : 0 ≤ x10_1
          · rw [if_pos c4] at H
            have c4b0 : decide (0 ≤ x10_1) = true := decide_eq_true c4
            clear c4
            by_cases c5 : x10_1 < (l0.length : Int)
            · rw [if_pos c5] at H
              have c5b0 : decide (x10_1 < (l0.length : Int)) = true := decide_eq_true c5
              clear c5
              replace H := Option.bind_eq_some_iff.mp H
              obtain ⟨t338, A60, H⟩ := H
              replace H : (if t338 = true then (laws_zzFits13.l0 k1 l0 (l0.length : Int) (wrap64 (x10_1 + 1))) else (some false)) = some r := H
              have A6 := Aside0.mk A60
              clear A60
              by_cases c7 : t338 = true
              · subst c7
                have H1 : (laws_zzFits13.l0 k1 l0 (l0.length : Int) (wrap64 (x10_1 + 1))) = some r := by rw [if_pos rfl] at H; exact H
                clear H
                have H := H1
                clear H1
                have H' := Aside0.mk H
                clear H
                have p336 : 0 ≤ (x10_1 : Int) := of_decide_eq_true (by first | (with_reducible assumption) | assumption)
                have q336 : x10_1 < (l0.length : Int) := of_decide_eq_true (by first | (with_reducible assumption) | assumption)
                obtain ⟨ad336, A336_1, c336_1, e336, hx336_0, hx336_1, hl336_1, hi336_1⟩ := at_T58 HR0.out x10_1 p336 q336
                cases e336
                replace hx336_0 := (HB.out.cell (World.block_lt_of_cell? w _ hx336_0)).trans hx336_0
                replace hx336_1 := (HB.out.cell (World.block_lt_of_cell? w _ hx336_1)).trans hx336_1
                have HR336_1 := Aside0.mk hi336_1
                have HC336_1 := Aside0.mk hl336_1
                clear hi336_1 hl336_1
                replace p336 := eq_true p336
                replace q336 := eq_true q336
                go_wp2_with (first | ((with_reducible refine gate_dst (N := 4) rfl ?_); refine box_event ?hg (N := 4) ?hd (cs := #[.string (⟨#[]⟩ : ByteArray), .slice none 0 0]) (t := 58) ?hr ?_; (case hd => rfl); (case hg => rfl); (case hr => first | (go_simp; done) | (go_simp; rfl)); intro gb337 hg w8 hbox hb; have n0_ := Aside0.mk (below_step (by repeat (first | (with_reducible first | exact HB.out | apply below_alloc | apply pw_below_drewN | apply below_drew1) | exact HB.out)) hb); have n1_ := Aside0.mk (hbox); have n2_ := Aside0.mk ((by rw [hg]; exact (below_size (by repeat (first | (with_reducible first | exact HB.out | apply below_alloc | apply pw_below_drewN | apply below_drew1) | exact HB.out))) : w.heap.size ≤ gb337)); have n3_ := Aside0.mk ((by rw [hg]; exact (below_size (by repeat (first | (with_reducible first | exact HB.out | apply below_alloc | apply pw_below_drewN | apply below_drew1) | exact HB.out))) : w.heap.size ≤ gb337)); clear HB; have HB := n0_; have BK337 := n1_; have GW337 := n2_; have GE337 := n3_; clear n0_ n1_ n2_ n3_; clear hb hbox hg; have hcz9_0 : w8.cell? ⟨gb337, 0, none⟩ = some (.string (⟨#[]⟩ : ByteArray)) := (blk_cell BK337.out 0).trans rfl; have hcz9_1 : w8.cell? ⟨gb337, 1, none⟩ = some (.slice none 0 0) := (blk_cell BK337.out 1).trans rfl; have hfz9_0 := blk_frozen BK337.out 0; have hfz9_1 := blk_frozen BK337.out 1) | ((with_reducible refine gate_callee (f := 49) rfl ?_); refine goesL_ (some 15) rfl rfl Tryz.func49 (by kernel_rfl) rfl #[.agg #[.string ((rd_T58 l0 x10_1).f0), .slice A336_1 ((rd_T58 l0 x10_1).f1).length c336_1]] rfl (by (try simp only [List.map_toArray, List.map_cons, List.map_nil]); first | done | rfl | (simp only [List.length_drop, List.length_take]; rfl)) ?_; (with_reducible refine (laws_zzFits11.calls k1 ((rd_T58 l0 x10_1).f0) _ _ ((rd_T58 l0 x10_1).f1) true _ ?side1 ?side2 A6.out).mono ?_); (case side1 => exact Kd.C_below HR336_1.out (by repeat (first | (with_reducible first | exact HB.out | apply below_alloc | apply pw_below_drewN | apply below_drew1 | refine below_set ?_ GE337.out) | exact HB.out))); (case side2 => exact HC336_1.out); rintro e w10 ⟨rfl, hb⟩; refine ⟨_, rfl, ?_⟩; have n0_ := Aside0.mk (blk_below (g := gb337) (o := .cells #[.string ((rd_T58 l0 x10_1).f0), .slice A336_1 ((rd_T58 l0 x10_1).f1).length c336_1] 58 (0, 0)) (by (with_reducible repeat (first | refine blk_drewN ?_ _ | refine blk_drew ?_ | refine blk_alloc ?_ _)); refine blk_put (cs := #[.string ((rd_T58 l0 x10_1).f0), .slice none 0 0]) ?_ 1 _ rfl; (with_reducible repeat (first | refine blk_drewN ?_ _ | refine blk_drew ?_ | refine blk_alloc ?_ _)); refine blk_put (cs := #[.string (⟨#[]⟩ : ByteArray), .slice none 0 0]) ?_ 0 _ rfl; (with_reducible repeat (first | refine blk_drewN ?_ _ | refine blk_drew ?_ | refine blk_alloc ?_ _)); exact BK337.out) hb); have n1_ := Aside0.mk (below_step (by repeat (first | (with_reducible first | exact HB.out | apply below_alloc | apply pw_below_drewN | apply below_drew1 | refine below_set ?_ GE337.out) | exact HB.out)) hb); clear BK337; clear HB; have BK337 := n0_; have HB := n1_; clear n0_ n1_; (try clear hb); (try clear hb2); (try clear hk); (try clear hi)))
                go_roundg k1
                case measure => have := HK1.out; omega
                case rel => exact ⟨(wrap64 (x10_1 + 1)), (by first | rfl | (simp; done) | (simp [*]; done)), H', ⟨by have := HK1.out; omega⟩, ⟨by repeat (first | (with_reducible first | exact HB.out | apply below_alloc | apply pw_below_drewN | apply below_drew1 | refine below_set ?_ GE337.out) | exact HB.out)⟩⟩
              · replace c7 := Bool.eq_false_iff.mpr c7
                subst c7
                have H1 : (some false) = some r := by rw [if_neg (show ¬ (false = true) by decide)] at H; exact H
                clear H
                have H := H1
                clear H1
                obtain rfl := Option.some.inj H
                have p336 : 0 ≤ (x10_1 : Int) := of_decide_eq_true (by first | (with_reducible assumption) | assumption)
                have q336 : x10_1 < (l0.length : Int) := of_decide_eq_true (by first | (with_reducible assumption) | assumption)
                obtain ⟨ad336, A336_1, c336_1, e336, hx336_0, hx336_1, hl336_1, hi336_1⟩ := at_T58 HR0.out x10_1 p336 q336
                cases e336
                replace hx336_0 := (HB.out.cell (World.block_lt_of_cell? w _ hx336_0)).trans hx336_0
                replace hx336_1 := (HB.out.cell (World.block_lt_of_cell? w _ hx336_1)).trans hx336_1
                have HR336_1 := Aside0.mk hi336_1
                have HC336_1 := Aside0.mk hl336_1
                clear hi336_1 hl336_1
                replace p336 := eq_true p336
                replace q336 := eq_true q336
                go_wp2_with (first | ((with_reducible refine gate_dst (N := 4) rfl ?_); refine box_event ?hg (N := 4) ?hd (cs := #[.string (⟨#[]⟩ : ByteArray), .slice none 0 0]) (t := 58) ?hr ?_; (case hd => rfl); (case hg => rfl); (case hr => first | (go_simp; done) | (go_simp; rfl)); intro gb337 hg w11 hbox hb; have n0_ := Aside0.mk (below_step (by repeat (first | (with_reducible first | exact HB.out | apply below_alloc | apply pw_below_drewN | apply below_drew1) | exact HB.out)) hb); have n1_ := Aside0.mk (hbox); have n2_ := Aside0.mk ((by rw [hg]; exact (below_size (by repeat (first | (with_reducible first | exact HB.out | apply below_alloc | apply pw_below_drewN | apply below_drew1) | exact HB.out))) : w.heap.size ≤ gb337)); have n3_ := Aside0.mk ((by rw [hg]; exact (below_size (by repeat (first | (with_reducible first | exact HB.out | apply below_alloc | apply pw_below_drewN | apply below_drew1) | exact HB.out))) : w.heap.size ≤ gb337)); clear HB; have HB := n0_; have BK337 := n1_; have GW337 := n2_; have GE337 := n3_; clear n0_ n1_ n2_ n3_; clear hb hbox hg; have hcz12_0 : w11.cell? ⟨gb337, 0, none⟩ = some (.string (⟨#[]⟩ : ByteArray)) := (blk_cell BK337.out 0).trans rfl; have hcz12_1 : w11.cell? ⟨gb337, 1, none⟩ = some (.slice none 0 0) := (blk_cell BK337.out 1).trans rfl; have hfz12_0 := blk_frozen BK337.out 0; have hfz12_1 := blk_frozen BK337.out 1) | ((with_reducible refine gate_callee (f := 49) rfl ?_); refine goesL_ (some 15) rfl rfl Tryz.func49 (by kernel_rfl) rfl #[.agg #[.string ((rd_T58 l0 x10_1).f0), .slice A336_1 ((rd_T58 l0 x10_1).f1).length c336_1]] rfl (by (try simp only [List.map_toArray, List.map_cons, List.map_nil]); first | done | rfl | (simp only [List.length_drop, List.length_take]; rfl)) ?_; (with_reducible refine (laws_zzFits11.calls k1 ((rd_T58 l0 x10_1).f0) _ _ ((rd_T58 l0 x10_1).f1) false _ ?side1 ?side2 A6.out).mono ?_); (case side1 => exact Kd.C_below HR336_1.out (by repeat (first | (with_reducible first | exact HB.out | apply below_alloc | apply pw_below_drewN | apply below_drew1 | refine below_set ?_ GE337.out) | exact HB.out))); (case side2 => exact HC336_1.out); rintro e w13 ⟨rfl, hb⟩; refine ⟨_, rfl, ?_⟩; have n0_ := Aside0.mk (blk_below (g := gb337) (o := .cells #[.string ((rd_T58 l0 x10_1).f0), .slice A336_1 ((rd_T58 l0 x10_1).f1).length c336_1] 58 (0, 0)) (by (with_reducible repeat (first | refine blk_drewN ?_ _ | refine blk_drew ?_ | refine blk_alloc ?_ _)); refine blk_put (cs := #[.string ((rd_T58 l0 x10_1).f0), .slice none 0 0]) ?_ 1 _ rfl; (with_reducible repeat (first | refine blk_drewN ?_ _ | refine blk_drew ?_ | refine blk_alloc ?_ _)); refine blk_put (cs := #[.string (⟨#[]⟩ : ByteArray), .slice none 0 0]) ?_ 0 _ rfl; (with_reducible repeat (first | refine blk_drewN ?_ _ | refine blk_drew ?_ | refine blk_alloc ?_ _)); exact BK337.out) hb); have n1_ := Aside0.mk (below_step (by repeat (first | (with_reducible first | exact HB.out | apply below_alloc | apply pw_below_drewN | apply below_drew1 | refine below_set ?_ GE337.out) | exact HB.out)) hb); clear BK337; clear HB; have BK337 := n0_; have HB := n1_; clear n0_ n1_; (try clear hb); (try clear hb2); (try clear hk); (try clear hi)))
                go_ret
                exact ⟨by first | rfl | (simp [errW_none, errW_some] <;> rfl) | (simp [*, errW_none, errW_some] <;> rfl), by repeat (first | (with_reducible first | exact HB.out | apply below_alloc | apply pw_below_drewN | apply below_drew1 | refine below_set ?_ GE337.out) | exact HB.out)⟩
            · rw [if_neg c5] at H
              exact absurd H (by simp)
          · rw [if_neg c4] at H
            exact absurd H (by simp)
        · rw [if_neg c3] at H
          have c3b0 : decide (x10_1 < (l0.length : Int)) = false := decide_eq_false c3
          clear c3
          obtain rfl := Option.some.inj H
          go_wp2
          go_ret
          exact ⟨by first | rfl | (simp [errW_none, errW_some] <;> rfl) | (simp [*, errW_none, errW_some] <;> rfl), by repeat (first | (with_reducible first | exact HB.out | apply below_alloc | apply pw_below_drewN | apply below_drew1) | exact HB.out)⟩

/-! ### laws_attribute: function 22 -/
def laws_attribute.l0 : Nat → List (List Int) → Int → Int → ByteArray → List ByteArray → Option (ByteArray × List ByteArray)
  | 0, _, _, _, _, _ => none
  | k + 1, x10, x11, x12, x342000, x342001 => if x12 < x11 then (if 0 ≤ x12 then (if x12 < (x10.length : Int) then (if x342001.length < 8796093022208 then (laws_attribute.l0 k x10 x11 (wrap64 (x12 + 1)) x342000 (x342001 ++ [strOfNums (rd_L4 x10 x12)])) else (none)) else (none)) else (none)) else (some (x342000, x342001))
def laws_attribute.f (k : Nat) (a0_0 : ByteArray) (l0_1 : List (List Int)) : Option (ByteArray × List ByteArray) := laws_attribute.l0 k l0_1 (l0_1.length : Int) 0 a0_0 ([] : List ByteArray)
set_option maxHeartbeats 8000000 in
set_option maxRecDepth 100000 in
theorem laws_attribute.calls (k : Nat) (a0_0 : ByteArray) (A0_1 : Option Addr) (c0_1 : Nat) (l0_1 : List (List Int)) (r1 : ByteArray) (r2 : List ByteArray) (w : World) (hr0_1 : Kd.C (Kd.slice 5 (Kd.int .u8)) w A0_1 l0_1.length l0_1) (hc0_1 : l0_1.length ≤ c0_1) (h : laws_attribute.f k a0_0 l0_1 = some (r1, r2)) :
    Calls Tryz.prog 22 #[.agg #[.string a0_0, .slice A0_1 l0_1.length c0_1]] w fun e w' => ∃ v1_ : Value, e = .returned (.agg #[.string r1, v1_]) ∧ Kd.R Kd.string 9 w' w.heap.size (fun _ => True) v1_ r2 ∧ Below w.heap.size w w' := by
  have hu58 := Tryz.underlying58
  have hu60 := Tryz.underlying60
  have HR0_1 := Aside0.mk hr0_1
  have HC0_1 := Aside0.mk hc0_1
  clear hr0_1 hc0_1
  have HB := Aside0.mk (Below.refl w.heap.size w)
  have H : (laws_attribute.l0 k l0_1 (l0_1.length : Int) 0 a0_0 ([] : List ByteArray)) = some (r1, r2) := h
  clear h
  have H' := Aside0.mk H
  clear H
  go_enter Tryz.func22, Tryz.ntmps22
  go_wp2_with (first | ((with_reducible refine gate_dst (N := 1) rfl ?_); refine box_event ?hg (N := 1) ?hd (cs := #[.string a0_0, .slice A0_1 l0_1.length c0_1]) (t := 58) ?hr ?_; (case hd => rfl); (case hg => rfl); (case hr => first | (go_simp; done) | (go_simp; rfl)); intro gb339 hg w2 hbox hb; have n0_ := Aside0.mk (below_step (by repeat (first | (with_reducible first | exact HB.out | apply below_alloc | apply pw_below_drewN | apply below_drew1) | exact HB.out)) hb); have n1_ := Aside0.mk (hbox); have n2_ := Aside0.mk ((by rw [hg]; exact (below_size (by repeat (first | (with_reducible first | exact HB.out | apply below_alloc | apply pw_below_drewN | apply below_drew1) | exact HB.out))) : w.heap.size ≤ gb339)); have n3_ := Aside0.mk ((by rw [hg]; exact (below_size (by repeat (first | (with_reducible first | exact HB.out | apply below_alloc | apply pw_below_drewN | apply below_drew1) | exact HB.out))) : w.heap.size ≤ gb339)); clear HB; have HB := n0_; have BK339 := n1_; have GW339 := n2_; have GE339 := n3_; clear n0_ n1_ n2_ n3_; clear hb hbox hg) | ((with_reducible refine gate_dst (N := 2) rfl ?_); refine box_event ?hg (N := 2) ?hd (cs := #[.string (⟨#[]⟩ : ByteArray), .slice none 0 0]) (t := 60) ?hr ?_; (case hd => rfl); (case hg => rfl); (case hr => first | (go_simp; done) | (go_simp; rfl)); intro gb340 hg w3 hbox hb; have n0_ := Aside0.mk (blk_below (g := gb339) (o := .cells #[.string a0_0, .slice A0_1 l0_1.length c0_1] 58 (0, 0)) (by (with_reducible repeat (first | refine blk_drewN ?_ _ | refine blk_drew ?_ | refine blk_alloc ?_ _)); exact BK339.out) hb); have n1_ := Aside0.mk (below_step (by repeat (first | (with_reducible first | exact HB.out | apply below_alloc | apply pw_below_drewN | apply below_drew1 | refine below_set ?_ GE339.out) | exact HB.out)) hb); have n2_ := Aside0.mk (hbox); have n3_ := Aside0.mk ((by rw [hg]; exact (below_size (by repeat (first | (with_reducible first | exact HB.out | apply below_alloc | apply pw_below_drewN | apply below_drew1 | refine below_set ?_ GE339.out) | exact HB.out))) : w.heap.size ≤ gb340)); have n4_ := Aside0.mk ((by rw [hg]; exact (below_size (by repeat (first | (with_reducible first | exact HB.out | apply below_alloc | apply pw_below_drewN | apply below_drew1 | refine below_set ?_ GE339.out) | exact HB.out))) : w.heap.size ≤ gb340)); have n5_ := Aside0.mk ((by rw [hg]; exact Nat.ne_of_lt (blk_lt (g := gb339) (o := .cells #[.string a0_0, .slice A0_1 l0_1.length c0_1] 58 (0, 0)) (by (with_reducible repeat (first | refine blk_drewN ?_ _ | refine blk_drew ?_ | refine blk_alloc ?_ _)); exact BK339.out)) : gb339 ≠ gb340)); have n6_ := Aside0.mk ((by rw [hg]; exact Nat.ne_of_gt (blk_lt (g := gb339) (o := .cells #[.string a0_0, .slice A0_1 l0_1.length c0_1] 58 (0, 0)) (by (with_reducible repeat (first | refine blk_drewN ?_ _ | refine blk_drew ?_ | refine blk_alloc ?_ _)); exact BK339.out)) : gb340 ≠ gb339)); clear BK339; clear HB; have BK339 := n0_; have HB := n1_; have BK340 := n2_; have GW340 := n3_; have GE340 := n4_; have NB339_340 := n5_; have NB340_339 := n6_; clear n0_ n1_ n2_ n3_ n4_ n5_ n6_; clear hb hbox hg; have hnb4 := NB339_340.out; have hnc4 := NB340_339.out; have hcz5_0 : w3.cell? ⟨gb339, 0, none⟩ = some (.string a0_0) := (blk_cell BK339.out 0).trans rfl; have hcz5_1 : w3.cell? ⟨gb339, 1, none⟩ = some (.slice A0_1 l0_1.length c0_1) := (blk_cell BK339.out 1).trans rfl; have hfz5_0 := blk_frozen BK339.out 0; have hfz5_1 := blk_frozen BK339.out 1) | ((with_reducible refine gate_dst (N := 3) rfl ?_); refine box_event ?hg (N := 3) ?hd (cs := #[.string (⟨#[]⟩ : ByteArray), .slice none 0 0]) (t := 60) ?hr ?_; (case hd => rfl); (case hg => rfl); (case hr => first | (go_simp; done) | (go_simp; rfl)); intro gb341 hg w6 hbox hb; have n0_ := Aside0.mk (blk_below (g := gb339) (o := .cells #[.string a0_0, .slice A0_1 l0_1.length c0_1] 58 (0, 0)) (by (with_reducible repeat (first | refine blk_drewN ?_ _ | refine blk_drew ?_ | refine blk_alloc ?_ _)); exact BK339.out) hb); have n1_ := Aside0.mk (blk_below (g := gb340) (o := .cells #[.string (⟨#[]⟩ : ByteArray), .slice none 0 0] 60 (0, 0)) (by (with_reducible repeat (first | refine blk_drewN ?_ _ | refine blk_drew ?_ | refine blk_alloc ?_ _)); exact BK340.out) hb); have n2_ := Aside0.mk (below_step (by repeat (first | (with_reducible first | exact HB.out | apply below_alloc | apply pw_below_drewN | apply below_drew1 | refine below_set ?_ GE339.out | refine below_set ?_ GE340.out) | exact HB.out)) hb); have n3_ := Aside0.mk (hbox); have n4_ := Aside0.mk ((by rw [hg]; exact (below_size (by repeat (first | (with_reducible first | exact HB.out | apply below_alloc | apply pw_below_drewN | apply below_drew1 | refine below_set ?_ GE339.out | refine below_set ?_ GE340.out) | exact HB.out))) : w.heap.size ≤ gb341)); have n5_ := Aside0.mk ((by rw [hg]; exact (below_size (by repeat (first | (with_reducible first | exact HB.out | apply below_alloc | apply pw_below_drewN | apply below_drew1 | refine below_set ?_ GE339.out | refine below_set ?_ GE340.out) | exact HB.out))) : w.heap.size ≤ gb341)); have n6_ := Aside0.mk ((by rw [hg]; exact Nat.ne_of_lt (blk_lt (g := gb339) (o := .cells #[.string a0_0, .slice A0_1 l0_1.length c0_1] 58 (0, 0)) (by (with_reducible repeat (first | refine blk_drewN ?_ _ | refine blk_drew ?_ | refine blk_alloc ?_ _)); exact BK339.out)) : gb339 ≠ gb341)); have n7_ := Aside0.mk ((by rw [hg]; exact Nat.ne_of_gt (blk_lt (g := gb339) (o := .cells #[.string a0_0, .slice A0_1 l0_1.length c0_1] 58 (0, 0)) (by (with_reducible repeat (first | refine blk_drewN ?_ _ | refine blk_drew ?_ | refine blk_alloc ?_ _)); exact BK339.out)) : gb341 ≠ gb339)); have n8_ := Aside0.mk ((by rw [hg]; exact Nat.ne_of_lt (blk_lt (g := gb340) (o := .cells #[.string (⟨#[]⟩ : ByteArray), .slice none 0 0] 60 (0, 0)) (by (with_reducible repeat (first | refine blk_drewN ?_ _ | refine blk_drew ?_ | refine blk_alloc ?_ _)); exact BK340.out)) : gb340 ≠ gb341)); have n9_ := Aside0.mk ((by rw [hg]; exact Nat.ne_of_gt (blk_lt (g := gb340) (o := .cells #[.string (⟨#[]⟩ : ByteArray), .slice none 0 0] 60 (0, 0)) (by (with_reducible repeat (first | refine blk_drewN ?_ _ | refine blk_drew ?_ | refine blk_alloc ?_ _)); exact BK340.out)) : gb341 ≠ gb340)); clear BK339; clear BK340; clear HB; have BK339 := n0_; have BK340 := n1_; have HB := n2_; have BK341 := n3_; have GW341 := n4_; have GE341 := n5_; have NB339_341 := n6_; have NB341_339 := n7_; have NB340_341 := n8_; have NB341_340 := n9_; clear n0_ n1_ n2_ n3_ n4_ n5_ n6_ n7_ n8_ n9_; clear hb hbox hg; have hnb7 := NB341_339.out; have hnc7 := NB339_341.out; have hnb8 := NB341_340.out; have hnc8 := NB340_341.out; have hcz9_0 : w6.cell? ⟨gb341, 0, none⟩ = some (.string (⟨#[]⟩ : ByteArray)) := (blk_cell BK341.out 0).trans rfl; have hcz9_1 : w6.cell? ⟨gb341, 1, none⟩ = some (.slice none 0 0) := (blk_cell BK341.out 1).trans rfl; have hfz9_0 := blk_frozen BK341.out 0; have hfz9_1 := blk_frozen BK341.out 1; have hcz10_0 : w6.cell? ⟨gb339, 0, none⟩ = some (.string a0_0) := (blk_cell BK339.out 0).trans rfl; have hcz10_1 : w6.cell? ⟨gb339, 1, none⟩ = some (.slice A0_1 l0_1.length c0_1) := (blk_cell BK339.out 1).trans rfl; have hfz10_0 := blk_frozen BK339.out 0; have hfz10_1 := blk_frozen BK339.out 1))
  go_loopg [12] k (fun kq v12 w' => ∃ (x12_1 : Int) (x342001_1 : List ByteArray) (u342001 : Value), v12 = .int .i64 x12_1 ∧ Aside0 (laws_attribute.l0 kq l0_1 (l0_1.length : Int) x12_1 a0_0 x342001_1 = some (r1, r2)) ∧ Aside0 (kq ≤ k) ∧ Aside0 (Kd.R Kd.string 9 w' w.heap.size (fun _ => True) u342001 x342001_1) ∧ Aside0 (w'.heap[gb339]? = some (.cells #[.string a0_0, (.slice A0_1 l0_1.length c0_1)] 58 (0, 0))) ∧ Aside0 (w'.heap[gb340]? = some (.cells #[.string (⟨#[]⟩ : ByteArray), (.slice none 0 0)] 60 (0, 0))) ∧ Aside0 (w'.heap[gb341]? = some (.cells #[.string a0_0, u342001] 60 (0, 0))) ∧ Aside0 (Below w.heap.size w w'))
  case atStart => exact ⟨(0), (([] : List ByteArray)), (.slice none 0 0), (by first | rfl | (simp; done) | (simp [*]; done)), H', ⟨Nat.le_refl _⟩, ⟨by first | exact Kd.R_nil _ _ _ _ _ | exact Kd.N_nil _ _ _ _ _ | exact Kd.V_nil _ _ _ _ _ | exact Kd.Q_nil _ _ _ _ _ | exact Kd.S_nil _ _ _ _ _⟩, ⟨by (with_reducible repeat (first | refine blk_drewN ?_ _ | refine blk_drew ?_ | refine blk_alloc ?_ _)); refine blk_far ?_ NB339_341.out _; (with_reducible repeat (first | refine blk_drewN ?_ _ | refine blk_drew ?_ | refine blk_alloc ?_ _)); refine blk_far ?_ NB339_341.out _; (with_reducible repeat (first | refine blk_drewN ?_ _ | refine blk_drew ?_ | refine blk_alloc ?_ _)); exact BK339.out⟩, ⟨by (with_reducible repeat (first | refine blk_drewN ?_ _ | refine blk_drew ?_ | refine blk_alloc ?_ _)); refine blk_far ?_ NB340_341.out _; (with_reducible repeat (first | refine blk_drewN ?_ _ | refine blk_drew ?_ | refine blk_alloc ?_ _)); refine blk_far ?_ NB340_341.out _; (with_reducible repeat (first | refine blk_drewN ?_ _ | refine blk_drew ?_ | refine blk_alloc ?_ _)); exact BK340.out⟩, ⟨by (with_reducible repeat (first | refine blk_drewN ?_ _ | refine blk_drew ?_ | refine blk_alloc ?_ _)); refine blk_put (cs := #[.string a0_0, .slice none 0 0]) ?_ 1 _ rfl; (with_reducible repeat (first | refine blk_drewN ?_ _ | refine blk_drew ?_ | refine blk_alloc ?_ _)); refine blk_put (cs := #[.string (⟨#[]⟩ : ByteArray), .slice none 0 0]) ?_ 0 _ rfl; (with_reducible repeat (first | refine blk_drewN ?_ _ | refine blk_drew ?_ | refine blk_alloc ?_ _)); exact BK341.out⟩, ⟨by repeat (first | (with_reducible first | exact HB.out | apply below_alloc | apply pw_below_drewN | apply below_drew1 | refine below_set ?_ GE339.out | refine below_set ?_ GE340.out | refine below_set ?_ GE341.out) | exact HB.out)⟩⟩
  case round =>
    clear H'
    try clear c2
    try clear p2
    try clear c4
    try clear c7
    try clear c8
    try clear hcz10_0
    try clear hcz10_1
    try clear hcz5_0
    try clear hcz5_1
    try clear hcz9_0
    try clear hcz9_1
    try clear hfz10_0
    try clear hfz10_1
    try clear hfz5_0
    try clear hfz5_1
    try clear hfz9_0
    try clear hfz9_1
    obtain ⟨x12_1, x342001_1, u342001, rfl, HA, HK1, HO_342001, BK339, BK340, BK341, HB⟩ := hrel
    cases gk with
    | zero => exact absurd HA.out (by simp [laws_attribute.l0])
    | succ k1 =>
      have H := HA.out
      clear HA
      simp only [laws_attribute.l0] at H
      by_cases c11 : x12_1 < (l0_1.length : Int)
      · rw [if_pos c11] at H
        have c11b0 : decide (x12_1 < (l0_1.length : Int)) = true := decide_eq_true c11
        clear c11
        by_cases c12 : 0 ≤ x12_1
        · rw [if_pos c12] at H
          have c12b0 : decide (0 ≤ x12_1) = true := decide_eq_true c12
          clear c12
          by_cases c13 : x12_1 < (l0_1.length : Int)
          · rw [if_pos c13] at H
            have c13b0 : decide (x12_1 < (l0_1.length : Int)) = true := decide_eq_true c13
            clear c13
            by_cases c14 : x342001_1.length < 8796093022208
            · rw [if_pos c14] at H
              have LMc14 := Aside0.mk c14
              clear c14
              obtain ⟨y343, hy343⟩ : ∃ y_ : List ByteArray, y_ = (x342001_1 ++ [strOfNums (rd_L4 l0_1 x12_1)]) := ⟨_, rfl⟩
              replace H : (laws_attribute.l0 k1 l0_1 (l0_1.length : Int) (wrap64 (x12_1 + 1)) a0_0 y343) = some (r1, r2) := by first | (rw [hy343]; with_reducible exact H) | (have H2_ := (Option.bind_some _ _).symm.trans H; rw [hy343]; with_reducible exact H2_) | (have H2_ := (Option.bind_some _ _).symm.trans H; with_reducible exact H2_) | with_reducible exact H | (rw [hy343]; exact H) | exact H
              have Ny343 := Aside0.mk hy343
              clear hy343
              have H' := Aside0.mk H
              clear H
              have p342 : 0 ≤ (x12_1 : Int) := of_decide_eq_true (by first | (with_reducible assumption) | assumption)
              have q342 : x12_1 < (l0_1.length : Int) := of_decide_eq_true (by first | (with_reducible assumption) | assumption)
              obtain ⟨ad342, A342_0, c342_0, e342, hx342_0, hl342_0, hi342_0⟩ := at_L4 HR0_1.out x12_1 p342 q342
              cases e342
              replace hx342_0 := (HB.out.cell (World.block_lt_of_cell? w _ hx342_0)).trans hx342_0
              have HR342_0 := Aside0.mk hi342_0
              have HC342_0 := Aside0.mk hl342_0
              clear hi342_0 hl342_0
              replace p342 := eq_true p342
              replace q342 := eq_true q342
              have hnb15 := NB341_339.out
              have hnc15 := NB339_341.out
              have hnb16 := NB341_340.out
              have hnc16 := NB340_341.out
              have hcz17_0 : wr.cell? ⟨gb341, 0, none⟩ = some (.string a0_0) := (blk_cell BK341.out 0).trans rfl
              have hcz17_1 : wr.cell? ⟨gb341, 1, none⟩ = some (u342001) := (blk_cell BK341.out 1).trans rfl
              have hfz17_0 := blk_frozen BK341.out 0
              have hfz17_1 := blk_frozen BK341.out 1
              have hcv18 := Kd.C_string (P := Tryz.prog) (A := A342_0) (c := c342_0) Tryz.underlying22 Tryz.underlying5 Tryz.underlying9 (Kd.C_below HR342_0.out HB.out)
              go_wp2_with (first | ((with_reducible refine gate_builtin (b := .append) (xs := #[.tmp 17, .tmp 20]) rfl ?_); at_builtin; refine Kd.R_append Kd.string (w0 := w) w.heap.size rfl (.tmp 17) (.tmp 20) 25 9 (.string ⟨#[]⟩) 16 rfl Tryz.underlying25 info9 rfl (by decide) (by omega) u342001 x342001_1 (strOfNums (rd_L4 l0_1 x12_1)) [.string (strOfNums (rd_L4 l0_1 x12_1))] (fun _ => True) (fun _ => False) rfl rfl ?aP (fun _ hk => hk.elim) ?aF ?aO ?aB ?aS ?aL ?_; (case aP => exact rfl); (case aB => exact (by repeat (first | (with_reducible first | exact HB.out | apply below_alloc | apply pw_below_drewN | apply below_drew1 | refine below_set ?_ GE339.out | refine below_set ?_ GE340.out | refine below_set ?_ GE341.out) | exact HB.out))); (case aF => exact (fun _ _ => trivial)); (case aO => exact (by (with_reducible repeat (first | apply Kd.R_alloc | apply Kd.R_drewN | apply Kd.R_drew)); exact HO_342001.out)); (case aS => exact (below_size (by repeat (first | (with_reducible first | exact HB.out | apply below_alloc | apply pw_below_drewN | apply below_drew1 | refine below_set ?_ GE339.out | refine below_set ?_ GE340.out | refine below_set ?_ GE341.out) | exact HB.out)))); (case aL => have := LMc14.out; omega); intro v344 w19 ho hb hg hat; rw [← Ny343.out] at ho; have n0_ := Aside0.mk (blk_grown (g := gb339) (o := .cells #[.string a0_0, .slice (some ad342) l0_1.length c0_1] 58 (0, 0)) (by (with_reducible repeat (first | refine blk_drewN ?_ _ | refine blk_drew ?_ | refine blk_alloc ?_ _)); exact BK339.out) hg (Kd.R_ne HO_342001.out BK339.out (by decide))); have n1_ := Aside0.mk (blk_grown (g := gb340) (o := .cells #[.string (⟨#[]⟩ : ByteArray), .slice none 0 0] 60 (0, 0)) (by (with_reducible repeat (first | refine blk_drewN ?_ _ | refine blk_drew ?_ | refine blk_alloc ?_ _)); exact BK340.out) hg (Kd.R_ne HO_342001.out BK340.out (by decide))); have n2_ := Aside0.mk (blk_grown (g := gb341) (o := .cells #[.string a0_0, u342001] 60 (0, 0)) (by (with_reducible repeat (first | refine blk_drewN ?_ _ | refine blk_drew ?_ | refine blk_alloc ?_ _)); exact BK341.out) hg (Kd.R_ne HO_342001.out BK341.out (by decide))); have n3_ := Aside0.mk (hb); have n4_ := Aside0.mk (ho); clear BK339; clear BK340; clear BK341; clear HB; clear HO_342001; have BK339 := n0_; have BK340 := n1_; have BK341 := n2_; have HB := n3_; have HO345 := n4_; clear n0_ n1_ n2_ n3_ n4_; clear ho hb hg hat; obtain ⟨Ao20, co20, eo20⟩ := Kd.R_slice HO345.out; subst eo20; have hcz21_0 : w19.cell? ⟨gb341, 0, none⟩ = some (.string a0_0) := (blk_cell BK341.out 0).trans rfl; have hcz21_1 : w19.cell? ⟨gb341, 1, none⟩ = some (u342001) := (blk_cell BK341.out 1).trans rfl; have hfz21_0 := blk_frozen BK341.out 0; have hfz21_1 := blk_frozen BK341.out 1))
              go_roundg k1
              case measure => have := HK1.out; omega
              case rel => exact ⟨(wrap64 (x12_1 + 1)), (y343), (.slice Ao20 y343.length co20), (by first | rfl | (simp; done) | (simp [*]; done)), H', ⟨by have := HK1.out; omega⟩, ⟨by (with_reducible repeat (first | apply Kd.R_alloc | apply Kd.R_drewN | apply Kd.R_drew)); exact Kd.R_mono (Kd.R_far (p := ⟨gb341, 1, none⟩) (Kd.R_types HO345.out BK341.out (by decide)) (fun _ hk => hk.2) (.slice Ao20 y343.length co20)) (fun _ hk => trivial)⟩, ⟨by (with_reducible repeat (first | refine blk_drewN ?_ _ | refine blk_drew ?_ | refine blk_alloc ?_ _)); refine blk_far ?_ NB339_341.out _; (with_reducible repeat (first | refine blk_drewN ?_ _ | refine blk_drew ?_ | refine blk_alloc ?_ _)); exact BK339.out⟩, ⟨by (with_reducible repeat (first | refine blk_drewN ?_ _ | refine blk_drew ?_ | refine blk_alloc ?_ _)); refine blk_far ?_ NB340_341.out _; (with_reducible repeat (first | refine blk_drewN ?_ _ | refine blk_drew ?_ | refine blk_alloc ?_ _)); exact BK340.out⟩, ⟨by (with_reducible repeat (first | refine blk_drewN ?_ _ | refine blk_drew ?_ | refine blk_alloc ?_ _)); refine blk_put (cs := #[.string a0_0, u342001]) ?_ 1 _ rfl; (with_reducible repeat (first | refine blk_drewN ?_ _ | refine blk_drew ?_ | refine blk_alloc ?_ _)); exact BK341.out⟩, ⟨by repeat (first | (with_reducible first | exact HB.out | apply below_alloc | apply pw_below_drewN | apply below_drew1 | refine below_set ?_ GE339.out | refine below_set ?_ GE340.out | refine below_set ?_ GE341.out) | exact HB.out)⟩⟩
            · rw [if_neg c14] at H
              exact absurd H (by simp)
          · rw [if_neg c13] at H
            exact absurd H (by simp)
        · rw [if_neg c12] at H
          exact absurd H (by simp)
      · rw [if_neg c11] at H
        have c11b0 : decide (x12_1 < (l0_1.length : Int)) = false := decide_eq_false c11
        clear c11
        simp only [Option.some.injEq, Prod.mk.injEq] at H
        obtain ⟨rfl, rfl⟩ := H
        have hnb22 := NB341_339.out
        have hnc22 := NB339_341.out
        have hnb23 := NB341_340.out
        have hnc23 := NB340_341.out
        have hcz24_0 : wr.cell? ⟨gb341, 0, none⟩ = some (.string a0_0) := (blk_cell BK341.out 0).trans rfl
        have hcz24_1 : wr.cell? ⟨gb341, 1, none⟩ = some (u342001) := (blk_cell BK341.out 1).trans rfl
        have hfz24_0 := blk_frozen BK341.out 0
        have hfz24_1 := blk_frozen BK341.out 1
        have hnb25 := NB340_339.out
        have hnc25 := NB339_340.out
        have hcz26_0 : wr.cell? ⟨gb340, 0, none⟩ = some (.string (⟨#[]⟩ : ByteArray)) := (blk_cell BK340.out 0).trans rfl
        have hcz26_1 : wr.cell? ⟨gb340, 1, none⟩ = some (.slice none 0 0) := (blk_cell BK340.out 1).trans rfl
        have hfz26_0 := blk_frozen BK340.out 0
        have hfz26_1 := blk_frozen BK340.out 1
        obtain ⟨Ao27, co27, eo27⟩ := Kd.R_slice HO_342001.out
        subst eo27
        go_wp2
        refine bodyPost_ret (results_cell_row rfl _ _ gb340 60 #[.string a0_0, .slice Ao27 x342001_1.length co27] (0, 0) _ rfl (by (with_reducible repeat (first | refine blk_drewN ?_ _ | refine blk_drew ?_ | refine blk_alloc ?_ _)); refine blk_put (cs := #[.string a0_0, .slice none 0 0]) ?_ 1 _ rfl; (with_reducible repeat (first | refine blk_drewN ?_ _ | refine blk_drew ?_ | refine blk_alloc ?_ _)); refine blk_put (cs := #[.string (⟨#[]⟩ : ByteArray), .slice none 0 0]) ?_ 0 _ rfl; (with_reducible repeat (first | refine blk_drewN ?_ _ | refine blk_drew ?_ | refine blk_alloc ?_ _)); exact BK340.out) Tryz.underlying60 rfl (by kernel_rfl)) rfl ?_
        exact ⟨_, by first | rfl | (simp [errW_none, errW_some] <;> rfl) | (simp [*, errW_none, errW_some] <;> rfl), by (with_reducible repeat (first | apply Kd.R_alloc | apply Kd.R_drewN | apply Kd.R_drew)); exact Kd.R_mono (Kd.R_far (p := ⟨gb340, 1, none⟩) (Kd.R_far (p := ⟨gb340, 0, none⟩) (Kd.R_types HO_342001.out BK340.out (by decide)) (fun _ hk => hk.2) (.string a0_0)) (fun _ hk => hk.2) (.slice Ao27 x342001_1.length co27)) (fun _ hk => trivial), by repeat (first | (with_reducible first | exact HB.out | apply below_alloc | apply pw_below_drewN | apply below_drew1 | refine below_set ?_ GE339.out | refine below_set ?_ GE340.out | refine below_set ?_ GE341.out) | exact HB.out)⟩

end Go.Proofs.YteockihoefbmdaaGreatDoor.PFnEncode
namespace Go.Proofs.YteockihoefbmdaaGreatDoor.PFnEncode
open Go.RowKit Go.Proofs.YteockihoefbmdaaGreatDoorW.PrintWords Go.Proofs.YteockihoefbmdaaGreatDoorW.PrintLast Go.Proofs.YteockihoefbmdaaGreatDoorW.PrintMore
attribute [local go_sem] max2_int min2_int max_two min_two max_three min_three max_four min_four   -- for this text's walks alone
set_option linter.unusedVariables false
set_option linter.unusedSimpArgs false

/-! ### laws_attributes: function 19 -/
def laws_attributes.l0 : Nat → List (S58) → List (S60) → List (S58) → Int → Int → Option ((List (S60)) × Bool)
  | 0, _, _, _, _, _ => none
  | k + 1, x0, x4, x8, x9, x10 => if x10 < x9 then (if 0 ≤ x10 then (if x10 < (x8.length : Int) then ((laws_attribute.f k ((rd_T58 x8 x10).f0) ((rd_T58 x8 x10).f1)).bind fun bt348 => ((some (([bt348.1] : List ByteArray) : List ByteArray)).bind fun y353 => (if y353.length + bt348.2.length < 8796093022208 then ((laws_short.f k (y353 ++ bt348.2)).bind fun t359 => (if t359 = true then (if x4.length < 3518437208883 then (laws_attributes.l0 k x0 (x4 ++ [(⟨bt348.1, bt348.2⟩ : S60)]) x8 x9 (wrap64 (x10 + 1))) else (none)) else (some (([] : List (S60)), false)))) else (none)))) else (none)) else (none)) else (some (x4, decide ((x0.length : Int) ≤ 10)))
def laws_attributes.f (k : Nat) (l0 : List (S58)) : Option ((List (S60)) × Bool) := laws_attributes.l0 k l0 ([] : List (S60)) l0 (l0.length : Int) 0
set_option maxHeartbeats 8000000 in
set_option maxRecDepth 100000 in
theorem laws_attributes.calls (k : Nat) (A0 : Option Addr) (c0 : Nat) (l0 : List (S58)) (r1 : List (S60)) (r2 : Bool) (w : World) (hr0 : Kd.C k58 w A0 l0.length l0) (hc0 : l0.length ≤ c0) (h : laws_attributes.f k l0 = some (r1, r2)) :
    Calls Tryz.prog 19 #[.slice A0 l0.length c0] w fun e w' => ∃ v0_ : Value, e = .returned (.tuple #[v0_, .bool r2]) ∧ Kd.S k60 60 w' w.heap.size (fun _ => True) v0_ r1 ∧ Below w.heap.size w w' := by
  have hu58 := Tryz.underlying58
  have hu60 := Tryz.underlying60
  have HR0 := Aside0.mk hr0
  have HC0 := Aside0.mk hc0
  clear hr0 hc0
  have HB := Aside0.mk (Below.refl w.heap.size w)
  have H : (laws_attributes.l0 k l0 ([] : List (S60)) l0 (l0.length : Int) 0) = some (r1, r2) := h
  clear h
  have H' := Aside0.mk H
  clear H
  go_enter Tryz.func19, Tryz.ntmps19
  go_wp2
  go_loopg [4, 10] k (fun kq v4 v10 w' => ∃ (x4_1 : List (S60)) (x10_1 : Int), v10 = .int .i64 x10_1 ∧ Aside0 (laws_attributes.l0 kq l0 x4_1 l0 (l0.length : Int) x10_1 = some (r1, r2)) ∧ Aside0 (kq ≤ k) ∧ Aside0 (Kd.S k60 60 w' w.heap.size (fun _ => True) v4 x4_1) ∧ Aside0 (Below w.heap.size w w'))
  case atStart => exact ⟨(([] : List (S60))), (0), (by first | rfl | (simp; done) | (simp [*]; done)), H', ⟨Nat.le_refl _⟩, ⟨by first | exact Kd.S_nil _ _ _ _ _ | exact Kd.N_nil _ _ _ _ _ | exact Kd.V_nil _ _ _ _ _ | exact Kd.Q_nil _ _ _ _ _ | exact Kd.R_nil _ _ _ _ _⟩, ⟨by repeat (first | (with_reducible first | exact HB.out | apply below_alloc | apply pw_below_drewN | apply below_drew1) | exact HB.out)⟩⟩
  case round =>
    clear H'
    try clear c1
    obtain ⟨x4_1, x10_1, rfl, HA, HK1, HO_4, HB⟩ := hrel
    cases gk with
    | zero => exact absurd HA.out (by simp [laws_attributes.l0])
    | succ k1 =>
      have H := HA.out
      clear HA
      simp only [laws_attributes.l0] at H
      by_cases c2 : x10_1 < (l0.length : Int)
      · rw [if_pos c2] at H
        have c2b0 : decide (x10_1 < (l0.length : Int)) = true := decide_eq_true c2
        clear c2
        by_cases c3 : 0 ≤ x10_1
        · rw [if_pos c3] at H
          have c3b0 : decide (0 ≤ x10_1) = true := decide_eq_true c3
          clear c3
          by_cases c4 : x10_1 < (l0.length : Int)
          · rw [if_pos c4] at H
            have c4b0 : decide (x10_1 < (l0.length : Int)) = true := decide_eq_true c4
            clear c4
            replace H := Option.bind_eq_some_iff.mp H
            obtain ⟨⟨t348, t349⟩, A50, H⟩ := H
            replace H : ((some (([t348] : List ByteArray) : List ByteArray)).bind fun y353 => (if y353.length + t349.length < 8796093022208 then ((laws_short.f k1 (y353 ++ t349)).bind fun t359 => (if t359 = true then (if x4_1.length < 3518437208883 then (laws_attributes.l0 k1 l0 (x4_1 ++ [(⟨t348, t349⟩ : S60)]) l0 (l0.length : Int) (wrap64 (x10_1 + 1))) else (none)) else (some (([] : List (S60)), false)))) else (none))) = some (r1, r2) := H
            have A5 := Aside0.mk A50
            clear A50
            obtain ⟨y353, hy353⟩ : ∃ y_ : List ByteArray, y_ = (([t348] : List ByteArray)) := ⟨_, rfl⟩
            replace H : (if y353.length + t349.length < 8796093022208 then ((laws_short.f k1 (y353 ++ t349)).bind fun t359 => (if t359 = true then (if x4_1.length < 3518437208883 then (laws_attributes.l0 k1 l0 (x4_1 ++ [(⟨t348, t349⟩ : S60)]) l0 (l0.length : Int) (wrap64 (x10_1 + 1))) else (none)) else (some (([] : List (S60)), false)))) else (none)) = some (r1, r2) := by first | (rw [hy353]; with_reducible exact H) | (have H2_ := (Option.bind_some _ _).symm.trans H; rw [hy353]; with_reducible exact H2_) | (have H2_ := (Option.bind_some _ _).symm.trans H; with_reducible exact H2_) | with_reducible exact H | (rw [hy353]; exact H) | exact H
            have Ny353 := Aside0.mk hy353
            clear hy353
            by_cases c6 : y353.length + t349.length < 8796093022208
            · rw [if_pos c6] at H
              have LMc6 := Aside0.mk c6
              clear c6
              obtain ⟨y356, hy356⟩ : ∃ y_ : List ByteArray, y_ = (y353 ++ t349) := ⟨_, rfl⟩
              replace H : ((laws_short.f k1 y356).bind fun t359 => (if t359 = true then (if x4_1.length < 3518437208883 then (laws_attributes.l0 k1 l0 (x4_1 ++ [(⟨t348, t349⟩ : S60)]) l0 (l0.length : Int) (wrap64 (x10_1 + 1))) else (none)) else (some (([] : List (S60)), false)))) = some (r1, r2) := by first | (rw [hy356]; with_reducible exact H) | (have H2_ := (Option.bind_some _ _).symm.trans H; rw [hy356]; with_reducible exact H2_) | (have H2_ := (Option.bind_some _ _).symm.trans H; with_reducible exact H2_) | with_reducible exact H | (rw [hy356]; exact H) | exact H
              have Ny356 := Aside0.mk hy356
              clear hy356
              replace H := Option.bind_eq_some_iff.mp H
              obtain ⟨t359, A70, H⟩ := H
              replace H : (if t359 = true then (if x4_1.length < 3518437208883 then (laws_attributes.l0 k1 l0 (x4_1 ++ [(⟨t348, t349⟩ : S60)]) l0 (l0.length : Int) (wrap64 (x10_1 + 1))) else (none)) else (some (([] : List (S60)), false))) = some (r1, r2) := H
              have A7 := Aside0.mk A70
              clear A70
              by_cases c8 : t359 = true
              · subst c8
                have H1 : (if x4_1.length < 3518437208883 then (laws_attributes.l0 k1 l0 (x4_1 ++ [(⟨t348, t349⟩ : S60)]) l0 (l0.length : Int) (wrap64 (x10_1 + 1))) else (none)) = some (r1, r2) := by rw [if_pos rfl] at H; exact H
                clear H
                have H := H1
                clear H1
                by_cases c9 : x4_1.length < 3518437208883
                · rw [if_pos c9] at H
                  have LMc9 := Aside0.mk c9
                  clear c9
                  obtain ⟨y360, hy360⟩ : ∃ y_ : List (S60), y_ = (x4_1 ++ [(⟨t348, t349⟩ : S60)]) := ⟨_, rfl⟩
                  replace H : (laws_attributes.l0 k1 l0 y360 l0 (l0.length : Int) (wrap64 (x10_1 + 1))) = some (r1, r2) := by first | (rw [hy360]; with_reducible exact H) | (have H2_ := (Option.bind_some _ _).symm.trans H; rw [hy360]; with_reducible exact H2_) | (have H2_ := (Option.bind_some _ _).symm.trans H; with_reducible exact H2_) | with_reducible exact H | (rw [hy360]; exact H) | exact H
                  have Ny360 := Aside0.mk hy360
                  clear hy360
                  have H' := Aside0.mk H
                  clear H
                  have p346 : 0 ≤ (x10_1 : Int) := of_decide_eq_true (by first | (with_reducible assumption) | assumption)
                  have q346 : x10_1 < (l0.length : Int) := of_decide_eq_true (by first | (with_reducible assumption) | assumption)
                  obtain ⟨ad346, A346_1, c346_1, e346, hx346_0, hx346_1, hl346_1, hi346_1⟩ := at_T58 HR0.out x10_1 p346 q346
                  cases e346
                  replace hx346_0 := (HB.out.cell (World.block_lt_of_cell? w _ hx346_0)).trans hx346_0
                  replace hx346_1 := (HB.out.cell (World.block_lt_of_cell? w _ hx346_1)).trans hx346_1
                  have HR346_1 := Aside0.mk hi346_1
                  have HC346_1 := Aside0.mk hl346_1
                  clear hi346_1 hl346_1
                  replace p346 := eq_true p346
                  replace q346 := eq_true q346
                  go_wp2_with (first | ((with_reducible refine gate_dst (N := 6) rfl ?_); refine box_event ?hg (N := 6) ?hd (cs := #[.string (⟨#[]⟩ : ByteArray), .slice none 0 0]) (t := 58) ?hr ?_; (case hd => rfl); (case hg => rfl); (case hr => first | (go_simp; done) | (go_simp; rfl)); intro gb347 hg w10 hbox hb; have n0_ := Aside0.mk (Kd.S_below (by (with_reducible repeat (first | apply Kd.S_alloc | apply Kd.S_drewN | apply Kd.S_drew)); exact HO_4.out) hb); have n1_ := Aside0.mk (below_step (by repeat (first | (with_reducible first | exact HB.out | apply below_alloc | apply pw_below_drewN | apply below_drew1) | exact HB.out)) hb); have n2_ := Aside0.mk (hbox); have n3_ := Aside0.mk ((by rw [hg]; exact (below_size (by repeat (first | (with_reducible first | exact HB.out | apply below_alloc | apply pw_below_drewN | apply below_drew1) | exact HB.out))) : w.heap.size ≤ gb347)); have n4_ := Aside0.mk ((by rw [hg]; exact (below_size (by repeat (first | (with_reducible first | exact HB.out | apply below_alloc | apply pw_below_drewN | apply below_drew1) | exact HB.out))) : w.heap.size ≤ gb347)); clear HO_4; clear HB; have HO_4 := n0_; have HB := n1_; have BK347 := n2_; have GW347 := n3_; have GE347 := n4_; clear n0_ n1_ n2_ n3_ n4_; clear hb hbox hg; have hcz11_0 : w10.cell? ⟨gb347, 0, none⟩ = some (.string (⟨#[]⟩ : ByteArray)) := (blk_cell BK347.out 0).trans rfl; have hcz11_1 : w10.cell? ⟨gb347, 1, none⟩ = some (.slice none 0 0) := (blk_cell BK347.out 1).trans rfl; have hfz11_0 := blk_frozen BK347.out 0; have hfz11_1 := blk_frozen BK347.out 1) | ((with_reducible refine gate_callee (f := 22) rfl ?_); refine goesL_ (some 15) rfl rfl Tryz.func22 (by kernel_rfl) rfl #[.agg #[.string ((rd_T58 l0 x10_1).f0), .slice A346_1 ((rd_T58 l0 x10_1).f1).length c346_1]] rfl (by (try simp only [List.map_toArray, List.map_cons, List.map_nil]); first | done | rfl | (simp only [List.length_drop, List.length_take]; rfl)) ?_; (with_reducible refine (laws_attribute.calls k1 ((rd_T58 l0 x10_1).f0) _ _ ((rd_T58 l0 x10_1).f1) t348 t349 _ ?side1 ?side2 A5.out).mono ?_); (case side1 => exact Kd.C_below HR346_1.out (by repeat (first | (with_reducible first | exact HB.out | apply below_alloc | apply pw_below_drewN | apply below_drew1 | refine below_set ?_ GE347.out) | exact HB.out))); (case side2 => exact HC346_1.out); rintro e w12 ⟨v350, rfl, ho0, hb⟩; refine ⟨_, rfl, ?_⟩; have n0_ := Aside0.mk (Kd.S_elder' (by (with_reducible repeat (first | apply Kd.S_alloc | apply Kd.S_drewN | apply Kd.S_drew)); exact (Kd.S_mono (Kd.S_far (p := ⟨gb347, 1, none⟩) (Kd.S_far (p := ⟨gb347, 0, none⟩) (Kd.S_types HO_4.out BK347.out (by decide)) (fun _ hk => hk.2) (.string ((rd_T58 l0 x10_1).f0))) (fun _ hk => hk.2) (.slice A346_1 ((rd_T58 l0 x10_1).f1).length c346_1)) (fun _ h_ => h_.1))) (Kd.R_base ho0) hb); have n1_ := Aside0.mk (Kd.R_lower ho0 (below_size (by repeat (first | (with_reducible first | exact HB.out | apply below_alloc | apply pw_below_drewN | apply below_drew1 | refine below_set ?_ GE347.out) | exact HB.out)))); have n2_ := Aside0.mk (blk_below (g := gb347) (o := .cells #[.string ((rd_T58 l0 x10_1).f0), .slice A346_1 ((rd_T58 l0 x10_1).f1).length c346_1] 58 (0, 0)) (by (with_reducible repeat (first | refine blk_drewN ?_ _ | refine blk_drew ?_ | refine blk_alloc ?_ _)); refine blk_put (cs := #[.string ((rd_T58 l0 x10_1).f0), .slice none 0 0]) ?_ 1 _ rfl; (with_reducible repeat (first | refine blk_drewN ?_ _ | refine blk_drew ?_ | refine blk_alloc ?_ _)); refine blk_put (cs := #[.string (⟨#[]⟩ : ByteArray), .slice none 0 0]) ?_ 0 _ rfl; (with_reducible repeat (first | refine blk_drewN ?_ _ | refine blk_drew ?_ | refine blk_alloc ?_ _)); exact BK347.out) hb); have n3_ := Aside0.mk (below_step (by repeat (first | (with_reducible first | exact HB.out | apply below_alloc | apply pw_below_drewN | apply below_drew1 | refine below_set ?_ GE347.out) | exact HB.out)) hb); clear HO_4; clear BK347; clear HB; have HO_4 := n0_; have HO351 := n1_; have BK347 := n2_; have HB := n3_; clear n0_ n1_ n2_ n3_; (try clear hb); (try clear hb2); (try clear hk); (try clear hi); (try clear ho0)) | ((with_reducible refine gate_dst (N := 7) rfl ?_); refine box_event ?hg (N := 7) ?hd (cs := #[.string (⟨#[]⟩ : ByteArray), .slice none 0 0]) (t := 60) ?hr ?_; (case hd => rfl); (case hg => rfl); (case hr => first | (go_simp; done) | (go_simp; rfl)); intro gb352 hg w13 hbox hb; have n0_ := Aside0.mk (Kd.S_below (Kd.S_elderB (by (with_reducible repeat (first | apply Kd.S_alloc | apply Kd.S_drewN | apply Kd.S_drew)); exact HO_4.out) gb352 (Nat.le_of_eq hg.symm)) hb); have n1_ := Aside0.mk (Kd.R_below (by (with_reducible repeat (first | apply Kd.R_alloc | apply Kd.R_drewN | apply Kd.R_drew)); exact HO351.out) hb); have n2_ := Aside0.mk (blk_below (g := gb347) (o := .cells #[.string ((rd_T58 l0 x10_1).f0), .slice A346_1 ((rd_T58 l0 x10_1).f1).length c346_1] 58 (0, 0)) (by (with_reducible repeat (first | refine blk_drewN ?_ _ | refine blk_drew ?_ | refine blk_alloc ?_ _)); exact BK347.out) hb); have n3_ := Aside0.mk (below_step (by repeat (first | (with_reducible first | exact HB.out | apply below_alloc | apply pw_below_drewN | apply below_drew1 | refine below_set ?_ GE347.out) | exact HB.out)) hb); have n4_ := Aside0.mk (hbox); have n5_ := Aside0.mk ((by rw [hg]; exact (below_size (by repeat (first | (with_reducible first | exact HB.out | apply below_alloc | apply pw_below_drewN | apply below_drew1 | refine below_set ?_ GE347.out) | exact HB.out))) : w.heap.size ≤ gb352)); have n6_ := Aside0.mk ((by rw [hg]; exact (below_size (by repeat (first | (with_reducible first | exact HB.out | apply below_alloc | apply pw_below_drewN | apply below_drew1 | refine below_set ?_ GE347.out) | exact HB.out))) : w.heap.size ≤ gb352)); have n7_ := Aside0.mk ((by rw [hg]; exact Nat.ne_of_lt (blk_lt (g := gb347) (o := .cells #[.string ((rd_T58 l0 x10_1).f0), .slice A346_1 ((rd_T58 l0 x10_1).f1).length c346_1] 58 (0, 0)) (by (with_reducible repeat (first | refine blk_drewN ?_ _ | refine blk_drew ?_ | refine blk_alloc ?_ _)); exact BK347.out)) : gb347 ≠ gb352)); have n8_ := Aside0.mk ((by rw [hg]; exact Nat.ne_of_gt (blk_lt (g := gb347) (o := .cells #[.string ((rd_T58 l0 x10_1).f0), .slice A346_1 ((rd_T58 l0 x10_1).f1).length c346_1] 58 (0, 0)) (by (with_reducible repeat (first | refine blk_drewN ?_ _ | refine blk_drew ?_ | refine blk_alloc ?_ _)); exact BK347.out)) : gb352 ≠ gb347)); clear HO_4; clear HO351; clear BK347; clear HB; have HO_4 := n0_; have HO351 := n1_; have BK347 := n2_; have HB := n3_; have BK352 := n4_; have GW352 := n5_; have GE352 := n6_; have NB347_352 := n7_; have NB352_347 := n8_; clear n0_ n1_ n2_ n3_ n4_ n5_ n6_ n7_ n8_; clear hb hbox hg; have hnb14 := NB352_347.out; have hnc14 := NB347_352.out; have hcz15_0 : w13.cell? ⟨gb352, 0, none⟩ = some (.string (⟨#[]⟩ : ByteArray)) := (blk_cell BK352.out 0).trans rfl; have hcz15_1 : w13.cell? ⟨gb352, 1, none⟩ = some (.slice none 0 0) := (blk_cell BK352.out 1).trans rfl; have hfz15_0 := blk_frozen BK352.out 0; have hfz15_1 := blk_frozen BK352.out 1; obtain ⟨Ao16, co16, eo16⟩ := Kd.R_slice HO351.out; subst eo16) | ((with_reducible refine gate_dst (N := 18) rfl ?_); refine Kd.R_lit Kd.string _ 9 ?hg (N := 18) ?hd (xs := ([t348] : List ByteArray)) (inner := [.string t348]) (ok := fun _ => True) (okp := fun _ => True) ?hr ?hp (fun _ hk => hk) trivial (Below.refl _ _) (Nat.le_refl _) (by simp) ?_; (case hd => rfl); (case hg => rfl); (case hr => first | (go_simp; done) | (go_simp; rfl)); (case hp => exact (Reps.one (show Kd.M Kd.string _ _ _ t348 [.string t348] from rfl) (Reps.none _ _))); intro v354 w17 ho18 hb hg_ hnew_; clear hg_ hnew_; (first | rw [← Ny353.out] at ho18 | (simp only [Int.reduceToNat] at ho18; rw [← Ny353.out] at ho18)); have n0_ := Aside0.mk (Kd.S_elder' (by (with_reducible repeat (first | apply Kd.S_alloc | apply Kd.S_drewN | apply Kd.S_drew)); exact (Kd.S_mono (Kd.S_far (p := ⟨gb352, 1, none⟩) (Kd.S_far (p := ⟨gb352, 0, none⟩) (Kd.S_mono HO_4.out (fun k_ hk => (⟨hk, hk.2⟩ : _ ∧ k_ ≠ gb352))) (fun _ hk => hk.2) (.string t348)) (fun _ hk => hk.2) (.slice Ao16 t349.length co16)) (fun _ h_ => h_.1))) (Kd.R_base ho18) hb); have n1_ := Aside0.mk (Kd.R_elder' (by (with_reducible repeat (first | apply Kd.R_alloc | apply Kd.R_drewN | apply Kd.R_drew)); exact (Kd.R_mono (Kd.R_far (p := ⟨gb352, 1, none⟩) (Kd.R_far (p := ⟨gb352, 0, none⟩) (Kd.R_types HO351.out BK352.out (by decide)) (fun _ hk => hk.2) (.string t348)) (fun _ hk => hk.2) (.slice Ao16 t349.length co16)) (fun _ h_ => h_.1))) (Kd.R_base ho18) hb); have n2_ := Aside0.mk (Kd.R_lower (Kd.R_new' ho18 (Kd.R_lt (by (with_reducible repeat (first | apply Kd.R_alloc | apply Kd.R_drewN | apply Kd.R_drew)); exact (Kd.R_mono (Kd.R_far (p := ⟨gb352, 1, none⟩) (Kd.R_far (p := ⟨gb352, 0, none⟩) (Kd.R_types HO351.out BK352.out (by decide)) (fun _ hk => hk.2) (.string t348)) (fun _ hk => hk.2) (.slice Ao16 t349.length co16)) (fun _ h_ => h_.1))))) (below_size (by repeat (first | (with_reducible first | exact HB.out | apply below_alloc | apply pw_below_drewN | apply below_drew1 | refine below_set ?_ GE347.out | refine below_set ?_ GE352.out) | exact HB.out)))); have n3_ := Aside0.mk (blk_below (g := gb347) (o := .cells #[.string ((rd_T58 l0 x10_1).f0), .slice A346_1 ((rd_T58 l0 x10_1).f1).length c346_1] 58 (0, 0)) (by (with_reducible repeat (first | refine blk_drewN ?_ _ | refine blk_drew ?_ | refine blk_alloc ?_ _)); refine blk_far ?_ NB347_352.out _; (with_reducible repeat (first | refine blk_drewN ?_ _ | refine blk_drew ?_ | refine blk_alloc ?_ _)); refine blk_far ?_ NB347_352.out _; (with_reducible repeat (first | refine blk_drewN ?_ _ | refine blk_drew ?_ | refine blk_alloc ?_ _)); exact BK347.out) hb); have n4_ := Aside0.mk (blk_below (g := gb352) (o := .cells #[.string t348, .slice Ao16 t349.length co16] 60 (0, 0)) (by (with_reducible repeat (first | refine blk_drewN ?_ _ | refine blk_drew ?_ | refine blk_alloc ?_ _)); refine blk_put (cs := #[.string t348, .slice none 0 0]) ?_ 1 _ rfl; (with_reducible repeat (first | refine blk_drewN ?_ _ | refine blk_drew ?_ | refine blk_alloc ?_ _)); refine blk_put (cs := #[.string (⟨#[]⟩ : ByteArray), .slice none 0 0]) ?_ 0 _ rfl; (with_reducible repeat (first | refine blk_drewN ?_ _ | refine blk_drew ?_ | refine blk_alloc ?_ _)); exact BK352.out) hb); have n5_ := Aside0.mk (below_step (by repeat (first | (with_reducible first | exact HB.out | apply below_alloc | apply pw_below_drewN | apply below_drew1 | refine below_set ?_ GE347.out | refine below_set ?_ GE352.out) | exact HB.out)) hb); clear HO_4; clear HO351; clear BK347; clear BK352; clear HB; have HO_4 := n0_; have HO351 := n1_; have HO355 := n2_; have BK347 := n3_; have BK352 := n4_; have HB := n5_; clear n0_ n1_ n2_ n3_ n4_ n5_; clear hb ho18; have hcz19_0 : w17.cell? ⟨gb352, 0, none⟩ = some (.string t348) := (blk_cell BK352.out 0).trans rfl; have hcz19_1 : w17.cell? ⟨gb352, 1, none⟩ = some (.slice Ao16 t349.length co16) := (blk_cell BK352.out 1).trans rfl; have hfz19_0 := blk_frozen BK352.out 0; have hfz19_1 := blk_frozen BK352.out 1) | ((with_reducible refine gate_builtin (b := .append) (xs := #[.tmp 18, .tmp 20]) rfl ?_); at_builtin; refine Kd.R_append_rows Kd.string (w0 := w) w.heap.size rfl (.tmp 18) (.tmp 20) 25 9 (.string ⟨#[]⟩) 16 rfl Tryz.underlying25 info9 rfl (by decide) (by omega) v354 y353 t349 _ _ _ (fun k_ => some k_ ≠ (.slice Ao16 t349.length co16 : Value).ownBlock) (fun _ => False) rfl rfl ?aO ?aR (fun _ _ h => h) (fun _ h => h.elim) ?aF ?aB ?aS ?aL ?_; (case aR => repeat (first | exact (Kd.R_reads' HO351.out).2.2 | (with_reducible refine Kd.C_alloc ?_ _) | (with_reducible refine Kd.C_drewN ?_ _) | (with_reducible refine Kd.C_drew ?_))); (case aB => exact (by repeat (first | (with_reducible first | exact HB.out | apply below_alloc | apply pw_below_drewN | apply below_drew1 | refine below_set ?_ GE347.out | refine below_set ?_ GE352.out) | exact HB.out))); (case aF => exact (fun k_ hk => Kd.fresh' (Kd.R_lt (by (with_reducible repeat (first | apply Kd.R_alloc | apply Kd.R_drewN | apply Kd.R_drew)); exact HO351.out)) k_ hk)); (case aO => exact (by (with_reducible repeat (first | apply Kd.R_alloc | apply Kd.R_drewN | apply Kd.R_drew)); exact Kd.R_mono HO355.out (fun _ hk => hk.2))); (case aS => exact (below_size (by repeat (first | (with_reducible first | exact HB.out | apply below_alloc | apply pw_below_drewN | apply below_drew1 | refine below_set ?_ GE347.out | refine below_set ?_ GE352.out) | exact HB.out)))); (case aL => have := LMc6.out; omega); intro v357 w20 ho hb hg hat; rw [← Ny356.out] at ho; have n0_ := Aside0.mk (Kd.S_after (ok := (fun k_ => some k_ ≠ (.slice Ao16 t349.length co16 : Value).ownBlock ∧ k_ ≠ gb352)) (by (with_reducible repeat (first | apply Kd.S_alloc | apply Kd.S_drewN | apply Kd.S_drew)); exact Kd.S_mono HO_4.out (fun _ hk => ⟨⟨hk.1.1.2, hk.1.2⟩, hk.2⟩)) hg hat); have n1_ := Aside0.mk (blk_grown (g := gb347) (o := .cells #[.string ((rd_T58 l0 x10_1).f0), .slice A346_1 ((rd_T58 l0 x10_1).f1).length c346_1] 58 (0, 0)) (by (with_reducible repeat (first | refine blk_drewN ?_ _ | refine blk_drew ?_ | refine blk_alloc ?_ _)); exact BK347.out) hg (Kd.R_ne HO355.out BK347.out (by decide))); have n2_ := Aside0.mk (Kd.R_after (ok := (fun _ => True)) (by (with_reducible repeat (first | apply Kd.R_alloc | apply Kd.R_drewN | apply Kd.R_drew)); exact HO351.out) hg hat); have n3_ := Aside0.mk (blk_grown (g := gb352) (o := .cells #[.string t348, .slice Ao16 t349.length co16] 60 (0, 0)) (by (with_reducible repeat (first | refine blk_drewN ?_ _ | refine blk_drew ?_ | refine blk_alloc ?_ _)); exact BK352.out) hg (Kd.R_ne HO355.out BK352.out (by decide))); have n4_ := Aside0.mk (hb); have n5_ := Aside0.mk (ho); clear HO_4; clear BK347; clear HO351; clear BK352; clear HB; clear HO355; have HO_4 := n0_; have BK347 := n1_; have HO351 := n2_; have BK352 := n3_; have HB := n4_; have HO358 := n5_; clear n0_ n1_ n2_ n3_ n4_ n5_; clear ho hb hg hat; obtain ⟨Ao21, co21, eo21⟩ := Kd.R_slice HO358.out; subst eo21) | ((with_reducible refine gate_callee (f := 7) rfl ?_); refine goesL_ (some 22) rfl rfl Tryz.func7 (by kernel_rfl) rfl #[.slice Ao21 y356.length co21] rfl (by (try simp only [List.map_toArray, List.map_cons, List.map_nil]); first | done | rfl | (simp only [List.length_drop, List.length_take]; rfl)) ?_; (with_reducible refine (laws_short.calls k1 _ _ y356 true _ ?side1 ?side2 A7.out).mono ?_); (case side1 => repeat (first | exact (Kd.R_reads' HO358.out).2.2 | (with_reducible refine Kd.C_alloc ?_ _) | (with_reducible refine Kd.C_drewN ?_ _) | (with_reducible refine Kd.C_drew ?_))); (case side2 => exact (Kd.R_reads' HO358.out).2.1); rintro e w' ⟨rfl, ⟨nd, rfl⟩⟩; refine ⟨_, rfl, ?_⟩; have hcz22_0 : w20.cell? ⟨gb352, 0, none⟩ = some (.string t348) := (blk_cell BK352.out 0).trans rfl; have hcz22_1 : w20.cell? ⟨gb352, 1, none⟩ = some (.slice Ao16 t349.length co16) := (blk_cell BK352.out 1).trans rfl; have hfz22_0 := blk_frozen BK352.out 0; have hfz22_1 := blk_frozen BK352.out 1) | ((with_reducible refine gate_builtin (b := .append) (xs := #[.tmp 24, .tmp 26]) rfl ?_); at_builtin; refine Kd.S_append k60 (w0 := w) w.heap.size rfl (.tmp 24) (.tmp 26) 50 60 (.agg #[(.string ⟨#[]⟩), (.slice none 0 0)]) 40 rfl Tryz.underlying50 info60 rfl (by decide) (by omega) u4 x4_1 (⟨t348, t349⟩ : S60) [.string t348, .slice Ao16 t349.length co16] (fun k_ => some k_ ≠ (.slice Ao21 y356.length co21 : Value).ownBlock ∧ k_ ≠ gb352) (fun k_ => some k_ = (.slice Ao16 t349.length co16 : Value).ownBlock) rfl rfl ?aP (fun k_ hk_ => ((Kd.R_mono (ok' := fun k_ => ((fun k_ => some k_ ≠ (.slice Ao21 y356.length co21 : Value).ownBlock ∧ k_ ≠ gb352)) k_ ∧ some k_ ≠ (u4 : Value).ownBlock) (Kd.R_types (Kd.R_apart' (HO351.out) (Kd.S_typed HO_4.out) (by decide)) BK352.out (by decide)) (fun k_ hk => ⟨⟨hk.1.1.2, hk.2⟩, hk.1.2⟩))).1 k_ hk_.symm) ?aF ?aO ?aB ?aS ?aL ?_; (case aP => exact k60_mkM _ _ _ (⟨t348, t349⟩ : S60) (Kd.R_mono (Kd.R_tight rfl (Kd.R_mono (ok' := fun k_ => ((fun k_ => some k_ ≠ (.slice Ao21 y356.length co21 : Value).ownBlock ∧ k_ ≠ gb352)) k_ ∧ some k_ ≠ (u4 : Value).ownBlock) (Kd.R_types (Kd.R_apart' (HO351.out) (Kd.S_typed HO_4.out) (by decide)) BK352.out (by decide)) (fun k_ hk => ⟨⟨hk.1.1.2, hk.2⟩, hk.1.2⟩))) (fun _ h_ => h_))); (case aB => exact (by repeat (first | (with_reducible first | exact HB.out | apply below_alloc | apply pw_below_drewN | apply below_drew1 | refine below_set ?_ GE347.out | refine below_set ?_ GE352.out) | exact HB.out))); (case aF => exact (fun k_ hk => ⟨Kd.fresh' (Kd.R_lt (by (with_reducible repeat (first | apply Kd.R_alloc | apply Kd.R_drewN | apply Kd.R_drew)); exact HO358.out)) k_ hk, Kd.freshB (g := gb352) (o := .cells #[.string t348, .slice Ao16 t349.length co16] 60 (0, 0)) (by (with_reducible repeat (first | refine blk_drewN ?_ _ | refine blk_drew ?_ | refine blk_alloc ?_ _)); exact BK352.out) k_ hk⟩)); (case aO => exact (by (with_reducible repeat (first | apply Kd.S_alloc | apply Kd.S_drewN | apply Kd.S_drew)); exact Kd.S_mono HO_4.out (fun k_ hk => ⟨⟨hk.2, hk.1.2⟩, fun e_ => hk.1.1 e_⟩))); (case aS => exact (below_size (by repeat (first | (with_reducible first | exact HB.out | apply below_alloc | apply pw_below_drewN | apply below_drew1 | refine below_set ?_ GE347.out | refine below_set ?_ GE352.out) | exact HB.out)))); (case aL => have := LMc9.out; omega); intro v361 w23 ho hb hg hat; rw [← Ny360.out] at ho; have n0_ := Aside0.mk (blk_grown (g := gb347) (o := .cells #[.string ((rd_T58 l0 x10_1).f0), .slice A346_1 ((rd_T58 l0 x10_1).f1).length c346_1] 58 (0, 0)) (by (with_reducible repeat (first | refine blk_drewN ?_ _ | refine blk_drew ?_ | refine blk_alloc ?_ _)); exact BK347.out) hg (Kd.S_ne HO_4.out BK347.out (by decide))); have n1_ := Aside0.mk (blk_grown (g := gb352) (o := .cells #[.string t348, .slice Ao16 t349.length co16] 60 (0, 0)) (by (with_reducible repeat (first | refine blk_drewN ?_ _ | refine blk_drew ?_ | refine blk_alloc ?_ _)); exact BK352.out) hg (Kd.S_away HO_4.out (fun _ hk => hk.1.2))); have n2_ := Aside0.mk (Kd.R_over' (by (with_reducible repeat (first | apply Kd.R_alloc | apply Kd.R_drewN | apply Kd.R_drew)); exact HO358.out) (Kd.S_typed (by (with_reducible repeat (first | apply Kd.S_alloc | apply Kd.S_drewN | apply Kd.S_drew)); exact HO_4.out)) (by decide) hg); have n3_ := Aside0.mk (hb); have n4_ := Aside0.mk (ho); clear BK347; clear BK352; clear HO358; clear HB; clear HO_4; clear HO351; have BK347 := n0_; have BK352 := n1_; have HO358 := n2_; have HB := n3_; have HO362 := n4_; clear n0_ n1_ n2_ n3_ n4_; clear ho hb hg hat))
                  go_roundg k1
                  case measure => have := HK1.out; omega
                  case rel => exact ⟨(y360), (wrap64 (x10_1 + 1)), (by first | rfl | (simp; done) | (simp [*]; done)), H', ⟨by have := HK1.out; omega⟩, ⟨by (with_reducible repeat (first | apply Kd.S_alloc | apply Kd.S_drewN | apply Kd.S_drew)); exact Kd.S_mono HO362.out (fun _ hk => trivial)⟩, ⟨by repeat (first | (with_reducible first | exact HB.out | apply below_alloc | apply pw_below_drewN | apply below_drew1 | refine below_set ?_ GE347.out | refine below_set ?_ GE352.out) | exact HB.out)⟩⟩
                · rw [if_neg c9] at H
                  exact absurd H (by simp)
              · replace c8 := Bool.eq_false_iff.mpr c8
                subst c8
                have H1 : (some (([] : List (S60)), false)) = some (r1, r2) := by rw [if_neg (show ¬ (false = true) by decide)] at H; exact H
                clear H
                have H := H1
                clear H1
                simp only [Option.some.injEq, Prod.mk.injEq] at H
                obtain ⟨rfl, rfl⟩ := H
                have p346 : 0 ≤ (x10_1 : Int) := of_decide_eq_true (by first | (with_reducible assumption) | assumption)
                have q346 : x10_1 < (l0.length : Int) := of_decide_eq_true (by first | (with_reducible assumption) | assumption)
                obtain ⟨ad346, A346_1, c346_1, e346, hx346_0, hx346_1, hl346_1, hi346_1⟩ := at_T58 HR0.out x10_1 p346 q346
                cases e346
                replace hx346_0 := (HB.out.cell (World.block_lt_of_cell? w _ hx346_0)).trans hx346_0
                replace hx346_1 := (HB.out.cell (World.block_lt_of_cell? w _ hx346_1)).trans hx346_1
                have HR346_1 := Aside0.mk hi346_1
                have HC346_1 := Aside0.mk hl346_1
                clear hi346_1 hl346_1
                replace p346 := eq_true p346
                replace q346 := eq_true q346
                go_wp2_with (first | ((with_reducible refine gate_dst (N := 6) rfl ?_); refine box_event ?hg (N := 6) ?hd (cs := #[.string (⟨#[]⟩ : ByteArray), .slice none 0 0]) (t := 58) ?hr ?_; (case hd => rfl); (case hg => rfl); (case hr => first | (go_simp; done) | (go_simp; rfl)); intro gb347 hg w24 hbox hb; have n0_ := Aside0.mk (Kd.S_below (by (with_reducible repeat (first | apply Kd.S_alloc | apply Kd.S_drewN | apply Kd.S_drew)); exact HO_4.out) hb); have n1_ := Aside0.mk (below_step (by repeat (first | (with_reducible first | exact HB.out | apply below_alloc | apply pw_below_drewN | apply below_drew1) | exact HB.out)) hb); have n2_ := Aside0.mk (hbox); have n3_ := Aside0.mk ((by rw [hg]; exact (below_size (by repeat (first | (with_reducible first | exact HB.out | apply below_alloc | apply pw_below_drewN | apply below_drew1) | exact HB.out))) : w.heap.size ≤ gb347)); have n4_ := Aside0.mk ((by rw [hg]; exact (below_size (by repeat (first | (with_reducible first | exact HB.out | apply below_alloc | apply pw_below_drewN | apply below_drew1) | exact HB.out))) : w.heap.size ≤ gb347)); clear HO_4; clear HB; have HO_4 := n0_; have HB := n1_; have BK347 := n2_; have GW347 := n3_; have GE347 := n4_; clear n0_ n1_ n2_ n3_ n4_; clear hb hbox hg; have hcz25_0 : w24.cell? ⟨gb347, 0, none⟩ = some (.string (⟨#[]⟩ : ByteArray)) := (blk_cell BK347.out 0).trans rfl; have hcz25_1 : w24.cell? ⟨gb347, 1, none⟩ = some (.slice none 0 0) := (blk_cell BK347.out 1).trans rfl; have hfz25_0 := blk_frozen BK347.out 0; have hfz25_1 := blk_frozen BK347.out 1) | ((with_reducible refine gate_callee (f := 22) rfl ?_); refine goesL_ (some 15) rfl rfl Tryz.func22 (by kernel_rfl) rfl #[.agg #[.string ((rd_T58 l0 x10_1).f0), .slice A346_1 ((rd_T58 l0 x10_1).f1).length c346_1]] rfl (by (try simp only [List.map_toArray, List.map_cons, List.map_nil]); first | done | rfl | (simp only [List.length_drop, List.length_take]; rfl)) ?_; (with_reducible refine (laws_attribute.calls k1 ((rd_T58 l0 x10_1).f0) _ _ ((rd_T58 l0 x10_1).f1) t348 t349 _ ?side1 ?side2 A5.out).mono ?_); (case side1 => exact Kd.C_below HR346_1.out (by repeat (first | (with_reducible first | exact HB.out | apply below_alloc | apply pw_below_drewN | apply below_drew1 | refine below_set ?_ GE347.out) | exact HB.out))); (case side2 => exact HC346_1.out); rintro e w26 ⟨v350, rfl, ho0, hb⟩; refine ⟨_, rfl, ?_⟩; have n0_ := Aside0.mk (Kd.S_elder' (by (with_reducible repeat (first | apply Kd.S_alloc | apply Kd.S_drewN | apply Kd.S_drew)); exact (Kd.S_mono (Kd.S_far (p := ⟨gb347, 1, none⟩) (Kd.S_far (p := ⟨gb347, 0, none⟩) (Kd.S_types HO_4.out BK347.out (by decide)) (fun _ hk => hk.2) (.string ((rd_T58 l0 x10_1).f0))) (fun _ hk => hk.2) (.slice A346_1 ((rd_T58 l0 x10_1).f1).length c346_1)) (fun _ h_ => h_.1))) (Kd.R_base ho0) hb); have n1_ := Aside0.mk (Kd.R_lower ho0 (below_size (by repeat (first | (with_reducible first | exact HB.out | apply below_alloc | apply pw_below_drewN | apply below_drew1 | refine below_set ?_ GE347.out) | exact HB.out)))); have n2_ := Aside0.mk (blk_below (g := gb347) (o := .cells #[.string ((rd_T58 l0 x10_1).f0), .slice A346_1 ((rd_T58 l0 x10_1).f1).length c346_1] 58 (0, 0)) (by (with_reducible repeat (first | refine blk_drewN ?_ _ | refine blk_drew ?_ | refine blk_alloc ?_ _)); refine blk_put (cs := #[.string ((rd_T58 l0 x10_1).f0), .slice none 0 0]) ?_ 1 _ rfl; (with_reducible repeat (first | refine blk_drewN ?_ _ | refine blk_drew ?_ | refine blk_alloc ?_ _)); refine blk_put (cs := #[.string (⟨#[]⟩ : ByteArray), .slice none 0 0]) ?_ 0 _ rfl; (with_reducible repeat (first | refine blk_drewN ?_ _ | refine blk_drew ?_ | refine blk_alloc ?_ _)); exact BK347.out) hb); have n3_ := Aside0.mk (below_step (by repeat (first | (with_reducible first | exact HB.out | apply below_alloc | apply pw_below_drewN | apply below_drew1 | refine below_set ?_ GE347.out) | exact HB.out)) hb); clear HO_4; clear BK347; clear HB; have HO_4 := n0_; have HO351 := n1_; have BK347 := n2_; have HB := n3_; clear n0_ n1_ n2_ n3_; (try clear hb); (try clear hb2); (try clear hk); (try clear hi); (try clear ho0)) | ((with_reducible refine gate_dst (N := 7) rfl ?_); refine box_event ?hg (N := 7) ?hd (cs := #[.string (⟨#[]⟩ : ByteArray), .slice none 0 0]) (t := 60) ?hr ?_; (case hd => rfl); (case hg => rfl); (case hr => first | (go_simp; done) | (go_simp; rfl)); intro gb352 hg w27 hbox hb; have n0_ := Aside0.mk (Kd.S_below (Kd.S_elderB (by (with_reducible repeat (first | apply Kd.S_alloc | apply Kd.S_drewN | apply Kd.S_drew)); exact HO_4.out) gb352 (Nat.le_of_eq hg.symm)) hb); have n1_ := Aside0.mk (Kd.R_below (by (with_reducible repeat (first | apply Kd.R_alloc | apply Kd.R_drewN | apply Kd.R_drew)); exact HO351.out) hb); have n2_ := Aside0.mk (blk_below (g := gb347) (o := .cells #[.string ((rd_T58 l0 x10_1).f0), .slice A346_1 ((rd_T58 l0 x10_1).f1).length c346_1] 58 (0, 0)) (by (with_reducible repeat (first | refine blk_drewN ?_ _ | refine blk_drew ?_ | refine blk_alloc ?_ _)); exact BK347.out) hb); have n3_ := Aside0.mk (below_step (by repeat (first | (with_reducible first | exact HB.out | apply below_alloc | apply pw_below_drewN | apply below_drew1 | refine below_set ?_ GE347.out) | exact HB.out)) hb); have n4_ := Aside0.mk (hbox); have n5_ := Aside0.mk ((by rw [hg]; exact (below_size (by repeat (first | (with_reducible first | exact HB.out | apply below_alloc | apply pw_below_drewN | apply below_drew1 | refine below_set ?_ GE347.out) | exact HB.out))) : w.heap.size ≤ gb352)); have n6_ := Aside0.mk ((by rw [hg]; exact (below_size (by repeat (first | (with_reducible first | exact HB.out | apply below_alloc | apply pw_below_drewN | apply below_drew1 | refine below_set ?_ GE347.out) | exact HB.out))) : w.heap.size ≤ gb352)); have n7_ := Aside0.mk ((by rw [hg]; exact Nat.ne_of_lt (blk_lt (g := gb347) (o := .cells #[.string ((rd_T58 l0 x10_1).f0), .slice A346_1 ((rd_T58 l0 x10_1).f1).length c346_1] 58 (0, 0)) (by (with_reducible repeat (first | refine blk_drewN ?_ _ | refine blk_drew ?_ | refine blk_alloc ?_ _)); exact BK347.out)) : gb347 ≠ gb352)); have n8_ := Aside0.mk ((by rw [hg]; exact Nat.ne_of_gt (blk_lt (g := gb347) (o := .cells #[.string ((rd_T58 l0 x10_1).f0), .slice A346_1 ((rd_T58 l0 x10_1).f1).length c346_1] 58 (0, 0)) (by (with_reducible repeat (first | refine blk_drewN ?_ _ | refine blk_drew ?_ | refine blk_alloc ?_ _)); exact BK347.out)) : gb352 ≠ gb347)); clear HO_4; clear HO351; clear BK347; clear HB; have HO_4 := n0_; have HO351 := n1_; have BK347 := n2_; have HB := n3_; have BK352 := n4_; have GW352 := n5_; have GE352 := n6_; have NB347_352 := n7_; have NB352_347 := n8_; clear n0_ n1_ n2_ n3_ n4_ n5_ n6_ n7_ n8_; clear hb hbox hg; have hnb28 := NB352_347.out; have hnc28 := NB347_352.out; have hcz29_0 : w27.cell? ⟨gb352, 0, none⟩ = some (.string (⟨#[]⟩ : ByteArray)) := (blk_cell BK352.out 0).trans rfl; have hcz29_1 : w27.cell? ⟨gb352, 1, none⟩ = some (.slice none 0 0) := (blk_cell BK352.out 1).trans rfl; have hfz29_0 := blk_frozen BK352.out 0; have hfz29_1 := blk_frozen BK352.out 1; obtain ⟨Ao30, co30, eo30⟩ := Kd.R_slice HO351.out; subst eo30) | ((with_reducible refine gate_dst (N := 18) rfl ?_); refine Kd.R_lit Kd.string _ 9 ?hg (N := 18) ?hd (xs := ([t348] : List ByteArray)) (inner := [.string t348]) (ok := fun _ => True) (okp := fun _ => True) ?hr ?hp (fun _ hk => hk) trivial (Below.refl _ _) (Nat.le_refl _) (by simp) ?_; (case hd => rfl); (case hg => rfl); (case hr => first | (go_simp; done) | (go_simp; rfl)); (case hp => exact (Reps.one (show Kd.M Kd.string _ _ _ t348 [.string t348] from rfl) (Reps.none _ _))); intro v354 w31 ho32 hb hg_ hnew_; clear hg_ hnew_; (first | rw [← Ny353.out] at ho32 | (simp only [Int.reduceToNat] at ho32; rw [← Ny353.out] at ho32)); have n0_ := Aside0.mk (Kd.S_elder' (by (with_reducible repeat (first | apply Kd.S_alloc | apply Kd.S_drewN | apply Kd.S_drew)); exact (Kd.S_mono (Kd.S_far (p := ⟨gb352, 1, none⟩) (Kd.S_far (p := ⟨gb352, 0, none⟩) (Kd.S_mono HO_4.out (fun k_ hk => (⟨hk, hk.2⟩ : _ ∧ k_ ≠ gb352))) (fun _ hk => hk.2) (.string t348)) (fun _ hk => hk.2) (.slice Ao30 t349.length co30)) (fun _ h_ => h_.1))) (Kd.R_base ho32) hb); have n1_ := Aside0.mk (Kd.R_elder' (by (with_reducible repeat (first | apply Kd.R_alloc | apply Kd.R_drewN | apply Kd.R_drew)); exact (Kd.R_mono (Kd.R_far (p := ⟨gb352, 1, none⟩) (Kd.R_far (p := ⟨gb352, 0, none⟩) (Kd.R_types HO351.out BK352.out (by decide)) (fun _ hk => hk.2) (.string t348)) (fun _ hk => hk.2) (.slice Ao30 t349.length co30)) (fun _ h_ => h_.1))) (Kd.R_base ho32) hb); have n2_ := Aside0.mk (Kd.R_lower (Kd.R_new' ho32 (Kd.R_lt (by (with_reducible repeat (first | apply Kd.R_alloc | apply Kd.R_drewN | apply Kd.R_drew)); exact (Kd.R_mono (Kd.R_far (p := ⟨gb352, 1, none⟩) (Kd.R_far (p := ⟨gb352, 0, none⟩) (Kd.R_types HO351.out BK352.out (by decide)) (fun _ hk => hk.2) (.string t348)) (fun _ hk => hk.2) (.slice Ao30 t349.length co30)) (fun _ h_ => h_.1))))) (below_size (by repeat (first | (with_reducible first | exact HB.out | apply below_alloc | apply pw_below_drewN | apply below_drew1 | refine below_set ?_ GE347.out | refine below_set ?_ GE352.out) | exact HB.out)))); have n3_ := Aside0.mk (blk_below (g := gb347) (o := .cells #[.string ((rd_T58 l0 x10_1).f0), .slice A346_1 ((rd_T58 l0 x10_1).f1).length c346_1] 58 (0, 0)) (by (with_reducible repeat (first | refine blk_drewN ?_ _ | refine blk_drew ?_ | refine blk_alloc ?_ _)); refine blk_far ?_ NB347_352.out _; (with_reducible repeat (first | refine blk_drewN ?_ _ | refine blk_drew ?_ | refine blk_alloc ?_ _)); refine blk_far ?_ NB347_352.out _; (with_reducible repeat (first | refine blk_drewN ?_ _ | refine blk_drew ?_ | refine blk_alloc ?_ _)); exact BK347.out) hb); have n4_ := Aside0.mk (blk_below (g := gb352) (o := .cells #[.string t348, .slice Ao30 t349.length co30] 60 (0, 0)) (by (with_reducible repeat (first | refine blk_drewN ?_ _ | refine blk_drew ?_ | refine blk_alloc ?_ _)); refine blk_put (cs := #[.string t348, .slice none 0 0]) ?_ 1 _ rfl; (with_reducible repeat (first | refine blk_drewN ?_ _ | refine blk_drew ?_ | refine blk_alloc ?_ _)); refine blk_put (cs := #[.string (⟨#[]⟩ : ByteArray), .slice none 0 0]) ?_ 0 _ rfl; (with_reducible repeat (first | refine blk_drewN ?_ _ | refine blk_drew ?_ | refine blk_alloc ?_ _)); exact BK352.out) hb); have n5_ := Aside0.mk (below_step (by repeat (first | (with_reducible first | exact HB.out | apply below_alloc | apply pw_below_drewN | apply below_drew1 | refine below_set ?_ GE347.out | refine below_set ?_ GE352.out) | exact HB.out)) hb); clear HO_4; clear HO351; clear BK347; clear BK352; clear HB; have HO_4 := n0_; have HO351 := n1_; have HO355 := n2_; have BK347 := n3_; have BK352 := n4_; have HB := n5_; clear n0_ n1_ n2_ n3_ n4_ n5_; clear hb ho32; have hcz33_0 : w31.cell? ⟨gb352, 0, none⟩ = some (.string t348) := (blk_cell BK352.out 0).trans rfl; have hcz33_1 : w31.cell? ⟨gb352, 1, none⟩ = some (.slice Ao30 t349.length co30) := (blk_cell BK352.out 1).trans rfl; have hfz33_0 := blk_frozen BK352.out 0; have hfz33_1 := blk_frozen BK352.out 1) | ((with_reducible refine gate_builtin (b := .append) (xs := #[.tmp 18, .tmp 20]) rfl ?_); at_builtin; refine Kd.R_append_rows Kd.string (w0 := w) w.heap.size rfl (.tmp 18) (.tmp 20) 25 9 (.string ⟨#[]⟩) 16 rfl Tryz.underlying25 info9 rfl (by decide) (by omega) v354 y353 t349 _ _ _ (fun k_ => some k_ ≠ (.slice Ao30 t349.length co30 : Value).ownBlock) (fun _ => False) rfl rfl ?aO ?aR (fun _ _ h => h) (fun _ h => h.elim) ?aF ?aB ?aS ?aL ?_; (case aR => repeat (first | exact (Kd.R_reads' HO351.out).2.2 | (with_reducible refine Kd.C_alloc ?_ _) | (with_reducible refine Kd.C_drewN ?_ _) | (with_reducible refine Kd.C_drew ?_))); (case aB => exact (by repeat (first | (with_reducible first | exact HB.out | apply below_alloc | apply pw_below_drewN | apply below_drew1 | refine below_set ?_ GE347.out | refine below_set ?_ GE352.out) | exact HB.out))); (case aF => exact (fun k_ hk => Kd.fresh' (Kd.R_lt (by (with_reducible repeat (first | apply Kd.R_alloc | apply Kd.R_drewN | apply Kd.R_drew)); exact HO351.out)) k_ hk)); (case aO => exact (by (with_reducible repeat (first | apply Kd.R_alloc | apply Kd.R_drewN | apply Kd.R_drew)); exact Kd.R_mono HO355.out (fun _ hk => hk.2))); (case aS => exact (below_size (by repeat (first | (with_reducible first | exact HB.out | apply below_alloc | apply pw_below_drewN | apply below_drew1 | refine below_set ?_ GE347.out | refine below_set ?_ GE352.out) | exact HB.out)))); (case aL => have := LMc6.out; omega); intro v357 w34 ho hb hg hat; rw [← Ny356.out] at ho; have n0_ := Aside0.mk (Kd.S_after (ok := (fun k_ => some k_ ≠ (.slice Ao30 t349.length co30 : Value).ownBlock ∧ k_ ≠ gb352)) (by (with_reducible repeat (first | apply Kd.S_alloc | apply Kd.S_drewN | apply Kd.S_drew)); exact Kd.S_mono HO_4.out (fun _ hk => ⟨⟨hk.1.1.2, hk.1.2⟩, hk.2⟩)) hg hat); have n1_ := Aside0.mk (blk_grown (g := gb347) (o := .cells #[.string ((rd_T58 l0 x10_1).f0), .slice A346_1 ((rd_T58 l0 x10_1).f1).length c346_1] 58 (0, 0)) (by (with_reducible repeat (first | refine blk_drewN ?_ _ | refine blk_drew ?_ | refine blk_alloc ?_ _)); exact BK347.out) hg (Kd.R_ne HO355.out BK347.out (by decide))); have n2_ := Aside0.mk (Kd.R_after (ok := (fun _ => True)) (by (with_reducible repeat (first | apply Kd.R_alloc | apply Kd.R_drewN | apply Kd.R_drew)); exact HO351.out) hg hat); have n3_ := Aside0.mk (blk_grown (g := gb352) (o := .cells #[.string t348, .slice Ao30 t349.length co30] 60 (0, 0)) (by (with_reducible repeat (first | refine blk_drewN ?_ _ | refine blk_drew ?_ | refine blk_alloc ?_ _)); exact BK352.out) hg (Kd.R_ne HO355.out BK352.out (by decide))); have n4_ := Aside0.mk (hb); have n5_ := Aside0.mk (ho); clear HO_4; clear BK347; clear HO351; clear BK352; clear HB; clear HO355; have HO_4 := n0_; have BK347 := n1_; have HO351 := n2_; have BK352 := n3_; have HB := n4_; have HO358 := n5_; clear n0_ n1_ n2_ n3_ n4_ n5_; clear ho hb hg hat; obtain ⟨Ao35, co35, eo35⟩ := Kd.R_slice HO358.out; subst eo35) | ((with_reducible refine gate_callee (f := 7) rfl ?_); refine goesL_ (some 22) rfl rfl Tryz.func7 (by kernel_rfl) rfl #[.slice Ao35 y356.length co35] rfl (by (try simp only [List.map_toArray, List.map_cons, List.map_nil]); first | done | rfl | (simp only [List.length_drop, List.length_take]; rfl)) ?_; (with_reducible refine (laws_short.calls k1 _ _ y356 false _ ?side1 ?side2 A7.out).mono ?_); (case side1 => repeat (first | exact (Kd.R_reads' HO358.out).2.2 | (with_reducible refine Kd.C_alloc ?_ _) | (with_reducible refine Kd.C_drewN ?_ _) | (with_reducible refine Kd.C_drew ?_))); (case side2 => exact (Kd.R_reads' HO358.out).2.1); rintro e w' ⟨rfl, ⟨nd, rfl⟩⟩; refine ⟨_, rfl, ?_⟩))
                go_ret2
                exact ⟨_, by first | rfl | (simp [errW_none, errW_some] <;> rfl) | (simp [*, errW_none, errW_some] <;> rfl), by first | exact Kd.S_nil _ _ _ _ _ | exact Kd.N_nil _ _ _ _ _ | exact Kd.V_nil _ _ _ _ _ | exact Kd.Q_nil _ _ _ _ _ | exact Kd.R_nil _ _ _ _ _, by repeat (first | (with_reducible first | exact HB.out | apply below_alloc | apply pw_below_drewN | apply below_drew1 | refine below_set ?_ GE347.out | refine below_set ?_ GE352.out) | exact HB.out)⟩
            · rw [if_neg c6] at H
              exact absurd H (by simp)
          · rw [if_neg c4] at H
            exact absurd H (by simp)
        · rw [if_neg c3] at H
          exact absurd H (by simp)
      · rw [if_neg c2] at H
        have c2b0 : decide (x10_1 < (l0.length : Int)) = false := decide_eq_false c2
        clear c2
        simp only [Option.some.injEq, Prod.mk.injEq] at H
        obtain ⟨rfl, rfl⟩ := H
        go_wp2
        go_ret2
        exact ⟨_, by first | rfl | (simp [errW_none, errW_some] <;> rfl) | (simp [*, errW_none, errW_some] <;> rfl), by (with_reducible repeat (first | apply Kd.S_alloc | apply Kd.S_drewN | apply Kd.S_drew)); exact HO_4.out, by repeat (first | (with_reducible first | exact HB.out | apply below_alloc | apply pw_below_drewN | apply below_drew1) | exact HB.out)⟩

-- NOT PRINTED: function 20 (impl_Entry)

/-! ### spec_Group: function 119 -/
-- NOT PRINTED: function 98 (spec_listed)

-- NOT PRINTED: function 52 (spec_Add)

-- NOT PRINTED: function 21 (spec_Entry)

-- NOT PRINTED: function 5 (laws_FnEntry)

/-! ### spec_Response: function 23 -/
-- NOT PRINTED: function 25 (impl_Result)

-- NOT PRINTED: function 26 (impl_Failure)

-- NOT PRINTED: function 6 (laws_FnResult)

end Go.Proofs.YteockihoefbmdaaGreatDoor.PFnEncode
namespace Go.Proofs.YteockihoefbmdaaGreatDoor.Ber
open Go.RowKit Go.Proofs.YteockihoefbmdaaGreatDoorW.PrintWords Go.Proofs.YteockihoefbmdaaGreatDoor.PFnEncode Go.Proofs.YteockihoefbmdaaGreatDoor.Tree Go.Proofs.YteockihoefbmdaaGreatDoor.Buf Go.Proofs.YteockihoefbmdaaGreatDoor.Pk Go.Proofs.YteockihoefbmdaaGreatDoor.Within Go.Proofs.YteockihoefbmdaaGreatDoor.Num
set_option linter.unusedVariables false
set_option linter.unusedSimpArgs false

theorem rd_L4_at {l : List (List Int)} {j : Nat} (h : j < l.length) : rd_L4 l (j : Int) = l[j] := by
  rw [rd_L4, Int.toNat_natCast, List.getD_eq_getElem?_getD, List.getElem?_eq_getElem h]
  rfl
theorem attribute_l0 (nm : ByteArray) (l : List (List Int)) (hl : l.length < 8796093022208) : ∀ (n j k : Nat), j + n = l.length → n < k → laws_attribute.l0 k l (l.length : Int) (j : Int) nm ((l.take j).map strOfNums) = some (nm, l.map strOfNums) := by
  intro n
  induction n with
  | zero =>
    intro j k hj hk
    obtain ⟨k, rfl⟩ : ∃ m, k = m + 1 := ⟨k - 1, by omega⟩
    rw [laws_attribute.l0, if_neg (by omega), List.take_of_length_le (by omega)]
  | succ n ih =>
    intro j k hj hk
    obtain ⟨k, rfl⟩ : ∃ m, k = m + 1 := ⟨k - 1, by omega⟩
    have e : wrap64 ((j : Int) + 1) = ((j + 1 : Nat) : Int) := by unfold wrap64; omega
    rw [laws_attribute.l0, if_pos (by omega), if_pos (by omega), if_pos (by omega), if_pos (by rw [List.length_map, List.length_take]; omega), e, rd_L4_at (show j < l.length by omega)]
    have := ih (j + 1) k (by omega) (by omega)
    rw [List.take_succ_eq_append_getElem (show j < l.length by omega), List.map_append] at this
    exact this
theorem attribute_k (nm : ByteArray) (l : List (List Int)) (hl : l.length < 8796093022208) {k : Nat} (hk : l.length < k) : laws_attribute.f k nm l = some (nm, l.map strOfNums) := attribute_l0 nm l hl l.length 0 _ (by omega) hk

/-- the attribute as the package's and the reference's -/
def attrOf (a : S58) : S60 := ⟨a.f0, a.f1.map strOfNums⟩
theorem rd_T_at {l : List S58} {j : Nat} (h : j < l.length) : rd_T58 l (j : Int) = l[j] := by
  rw [rd_T58, Int.toNat_natCast, List.getD_eq_getElem?_getD, List.getElem?_eq_getElem h]
  rfl

/-- what 'attributes' answers: all are short, or it is refused -/
theorem attributes_l0 (l : List S58) (hl : l.length < 3518437208883) (hv : ∀ a, a ∈ l → a.f1.length ≤ 2147483647) (K : Nat) (hK : ∀ a, a ∈ l → a.f1.length + 2 < K)
    (hs : ∀ (L : List ByteArray), L.length ≤ 2147483648 → ∃ b, ∀ k, L.length + 1 < k → laws_short.f k L = some b) : ∀ (n j k : Nat), j + n = l.length → n + K < k →
    ∃ r b, laws_attributes.l0 k l ((l.take j).map attrOf) l (l.length : Int) (j : Int) = some (r, b) ∧ (b = true → r = l.map attrOf ∧ l.length ≤ 10 ∧ ∀ a, a ∈ l.drop j → ∀ k, (a.f1.length + 1) + 1 < k → laws_short.f k (a.f0 :: a.f1.map strOfNums) = some true) := by
  intro n
  induction n with
  | zero =>
    intro j k hj hk
    obtain ⟨k, rfl⟩ : ∃ m, k = m + 1 := ⟨k - 1, by omega⟩
    refine ⟨l.map attrOf, decide ((l.length : Int) ≤ 10), ?_, fun hb => ⟨rfl, by have := of_decide_eq_true hb; omega, ?_⟩⟩
    · rw [laws_attributes.l0, if_neg (by omega), List.take_of_length_le (by omega)]
    · intro a ha
      rw [List.drop_eq_nil_of_le (by omega)] at ha
      exact absurd ha (by simp)
  | succ n ih =>
    intro j k hj hk
    obtain ⟨k, rfl⟩ : ∃ m, k = m + 1 := ⟨k - 1, by omega⟩
    have hlt : j < l.length := by omega
    have e : wrap64 ((j : Int) + 1) = ((j + 1 : Nat) : Int) := by unfold wrap64; omega
    have hm : l[j] ∈ l := List.getElem_mem hlt
    have h1 := hv _ hm
    have h2 := hK _ hm
    obtain ⟨b, hb⟩ := hs (l[j].f0 :: l[j].f1.map strOfNums) (by simp; omega)
    have hbk := hb k (by simp; omega)
    have hat := attribute_k l[j].f0 l[j].f1 (by omega) (k := k) (by omega)
    rw [laws_attributes.l0, if_pos (by omega), if_pos (by omega), if_pos (by omega), rd_T_at hlt, hat]
    simp only [Option.bind_some]
    rw [if_pos (by simp; omega)]
    have happ : [l[j].f0] ++ List.map strOfNums l[j].f1 = l[j].f0 :: l[j].f1.map strOfNums := rfl
    rw [happ, hbk]
    simp only [Option.bind_some]
    cases b with
    | false => exact ⟨[], false, by rw [if_neg (by decide)], fun h => absurd h (by decide)⟩
    | true =>
      rw [if_pos rfl, if_pos (by rw [List.length_map, List.length_take]; omega), e]
      obtain ⟨r, b, h3, h4⟩ := ih (j + 1) k (by omega) (by omega)
      rw [List.take_succ_eq_append_getElem hlt, List.map_append] at h3
      refine ⟨r, b, h3, fun hbt => ?_⟩
      obtain ⟨h5, h6, h7⟩ := h4 hbt
      refine ⟨h5, h6, fun a ha => ?_⟩
      rw [List.drop_eq_getElem_cons hlt] at ha
      rcases List.mem_cons.1 ha with rfl | ha
      · intro k' hk'
        exact hb k' (by simpa using hk')
      · exact h7 a ha
end Go.Proofs.YteockihoefbmdaaGreatDoor.Ber
