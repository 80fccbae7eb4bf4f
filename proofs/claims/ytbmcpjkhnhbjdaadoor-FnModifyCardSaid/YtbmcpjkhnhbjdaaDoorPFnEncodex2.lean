-- printed by a program out of the translation (wip/print_all.sh)
import Derived.Test.YtbmcpjkhnhbjdaaDoorPFnEncodex0
import Derived.Test.YtbmcpjkhnhbjdaaDoorPFnEncodex1
namespace Go.Proofs.YtbmcpjkhnhbjdaaDoor.PFnEncode
open Go.RowKit Go.Proofs.YtbmcpjkhnhbjdaaDoorW.PrintWords Go.Proofs.YtbmcpjkhnhbjdaaDoorW.PrintLast Go.Proofs.YtbmcpjkhnhbjdaaDoorW.PrintMore
attribute [local go_sem] max2_int min2_int max_two min_two max_three min_three max_four min_four   -- for this text's walks alone
set_option linter.unusedVariables false
set_option linter.unusedSimpArgs false

/-! ### laws_zzFits12: function 91 -/
def laws_zzFits12.l0 : Nat → List (List Int) → Int → Int → Option (Bool)
  | 0, _, _, _ => none
  | k + 1, x8, x9, x10 => if x10 < x9 then (if 0 ≤ x10 then (if x10 < (x8.length : Int) then (if ((rd_L4 x8 x10).length : Int) > 2147483647 then (some false) else (laws_zzFits12.l0 k x8 x9 (wrap64 (x10 + 1)))) else (none)) else (none)) else (some true)
def laws_zzFits12.f (k : Nat) (l0 : List (List Int)) : Option (Bool) := if (l0.length : Int) > 2147483647 then (some false) else (laws_zzFits12.l0 k l0 (l0.length : Int) 0)
theorem laws_zzFits12.mono_l : ∀ k, (∀ y0 y1 y2, LeO (laws_zzFits12.l0 k y0 y1 y2) (laws_zzFits12.l0 (k + 1) y0 y1 y2))
  | 0 => fun _ _ _ r h => by simp [laws_zzFits12.l0] at h
  | k + 1 => by
    have ih0 := laws_zzFits12.mono_l k
    · intro y0 y1 y2
      unfold laws_zzFits12.l0
      repeat' first
      | (with_reducible exact ih0 _ _ _)
      | (with_reducible exact LeO.refl _)
      | (with_reducible exact LeO.none _)
      | (with_reducible refine LeO.ite ?_ ?_)
      | (with_reducible refine LeO.bind ?_ (fun _ => ?_))
      | exact ih0 _ _ _
      | exact LeO.none _
      | refine LeO.ite ?_ ?_
      | refine LeO.bind ?_ (fun _ => ?_)
theorem laws_zzFits12.mono : ∀ a0 k, LeO (laws_zzFits12.f k a0) (laws_zzFits12.f (k + 1) a0) := by
  intro a0 k
  have ih0 := laws_zzFits12.mono_l k
  unfold laws_zzFits12.f
  repeat' first
      | (with_reducible exact ih0 _ _ _)
      | (with_reducible exact LeO.refl _)
      | (with_reducible exact LeO.none _)
      | (with_reducible refine LeO.ite ?_ ?_)
      | (with_reducible refine LeO.bind ?_ (fun _ => ?_))
      | exact ih0 _ _ _
      | exact LeO.none _
      | refine LeO.ite ?_ ?_
      | refine LeO.bind ?_ (fun _ => ?_)
set_option maxHeartbeats 8000000 in
set_option maxRecDepth 100000 in
theorem laws_zzFits12.calls (k : Nat) (A0 : Option Addr) (c0 : Nat) (l0 : List (List Int)) (r : Bool) (w : World) (hr0 : Kd.C (Kd.slice 5 (Kd.int .u8)) w A0 l0.length l0) (hc0 : l0.length ≤ c0) (h : laws_zzFits12.f k l0 = some r) :
    Calls Tryd.prog 91 #[.slice A0 l0.length c0] w fun e w' => e = .returned (.bool r) ∧ Drawn0 w w' := by
  have HR0 := Aside0.mk hr0
  have HC0 := Aside0.mk hc0
  clear hr0 hc0
  have H : (if (l0.length : Int) > 2147483647 then (some false) else (laws_zzFits12.l0 k l0 (l0.length : Int) 0)) = some r := h
  clear h
  by_cases c2 : (l0.length : Int) > 2147483647
  · rw [if_pos c2] at H
    have c2b0 : decide (2147483647 < (l0.length : Int)) = true := decide_eq_true c2
    have c2b1 : decide (2147483647 < l0.length) = true := decide_eq_true (by omega)
    clear c2
    obtain rfl := Option.some.inj H
    go_enter Tryd.func91, Tryd.ntmps91
    go_wp2
    go_ret
    exact ⟨by first | rfl | (simp; done) | (simp [*]; done), by repeat (first | exact Drawn0.refl _ | apply Drawn0.step)⟩
  · rw [if_neg c2] at H
    have c2b0 : decide (2147483647 < (l0.length : Int)) = false := decide_eq_false c2
    have c2b1 : decide (2147483647 < l0.length) = false := decide_eq_false (by omega)
    clear c2
    have H' := Aside0.mk H
    clear H
    go_enter Tryd.func91, Tryd.ntmps91
    go_wp2
    go_loopg [10] k (fun kq v10 w' => ∃ (x10_1 : Int), v10 = .int .i64 x10_1 ∧ Aside0 (laws_zzFits12.l0 kq l0 (l0.length : Int) x10_1 = some r) ∧ Aside0 (kq ≤ k) ∧ Drawn0 w w')
    case atStart => exact ⟨(0), (by first | rfl | (simp; done) | (simp [*]; done)), H', ⟨Nat.le_refl _⟩, by repeat (first | exact Drawn0.refl _ | apply Drawn0.step)⟩
    case round =>
      clear H'
      try clear c2
      try clear c2b0
      try clear c2b1
      try clear p2
      obtain ⟨x10_1, rfl, HA, HK1, ⟨m1, rfl⟩⟩ := hrel
      cases gk with
      | zero => exact absurd HA.out (by simp [laws_zzFits12.l0])
      | succ k1 =>
        have H := HA.out
        clear HA
        simp only [laws_zzFits12.l0] at H
        by_cases c3 : x10_1 < (l0.length : Int)
        · rw [if_pos c3] at H
          have c3b0 : decide (x10_1 < (l0.length : Int)) = true := decide_eq_true c3
          clear c3
          by_cases c4 : 0 ≤ x10_1
          · rw [if_pos c4] at H
            have c4b0 : decide (0 ≤ x10_1) = true := decide_eq_true c4
            clear c4
            by_cases c5 : x10_1 < (l0.length : Int)
            · rw [if_pos c5] at H
              have c5b0 : decide (x10_1 < (l0.length : Int)) = true := decide_eq_true c5
              clear c5
              by_cases c6 : ((rd_L4 l0 x10_1).length : Int) > 2147483647
              · rw [if_pos c6] at H
                have c6b0 : decide (2147483647 < ((rd_L4 l0 x10_1).length : Int)) = true := decide_eq_true c6
                have c6b1 : decide (2147483647 < (rd_L4 l0 x10_1).length) = true := decide_eq_true (by omega)
                clear c6
                obtain rfl := Option.some.inj H
                have p225 : 0 ≤ (x10_1 : Int) := of_decide_eq_true (by first | (with_reducible assumption) | assumption)
                have q225 : x10_1 < (l0.length : Int) := of_decide_eq_true (by first | (with_reducible assumption) | assumption)
                obtain ⟨ad225, A225_0, c225_0, e225, hx225_0, hl225_0, hi225_0⟩ := at_L4 HR0.out x10_1 p225 q225
                cases e225
                have HR225_0 := Aside0.mk hi225_0
                have HC225_0 := Aside0.mk hl225_0
                clear hi225_0 hl225_0
                replace p225 := eq_true p225
                replace q225 := eq_true q225
                go_wp2
                go_ret
                exact ⟨by first | rfl | (simp; done) | (simp [*]; done), by repeat (first | exact Drawn0.refl _ | apply Drawn0.step)⟩
              · rw [if_neg c6] at H
                have c6b0 : decide (2147483647 < ((rd_L4 l0 x10_1).length : Int)) = false := decide_eq_false c6
                have c6b1 : decide (2147483647 < (rd_L4 l0 x10_1).length) = false := decide_eq_false (by omega)
                clear c6
                have H' := Aside0.mk H
                clear H
                have p225 : 0 ≤ (x10_1 : Int) := of_decide_eq_true (by first | (with_reducible assumption) | assumption)
                have q225 : x10_1 < (l0.length : Int) := of_decide_eq_true (by first | (with_reducible assumption) | assumption)
                obtain ⟨ad225, A225_0, c225_0, e225, hx225_0, hl225_0, hi225_0⟩ := at_L4 HR0.out x10_1 p225 q225
                cases e225
                have HR225_0 := Aside0.mk hi225_0
                have HC225_0 := Aside0.mk hl225_0
                clear hi225_0 hl225_0
                replace p225 := eq_true p225
                replace q225 := eq_true q225
                go_wp2
                go_roundg k1
                case measure => have := HK1.out; omega
                case rel => exact ⟨(wrap64 (x10_1 + 1)), (by first | rfl | (simp; done) | (simp [*]; done)), H', ⟨by have := HK1.out; omega⟩, by repeat (first | exact Drawn0.refl _ | apply Drawn0.step)⟩
            · rw [if_neg c5] at H
              exact absurd H (by simp)
          · rw [if_neg c4] at H
            exact absurd H (by simp)
        · rw [if_neg c3] at H
          have c3b0 : decide (x10_1 < (l0.length : Int)) = false := decide_eq_false c3
          clear c3
          obtain rfl := Option.some.inj H
          go_wp2
          go_ret
          exact ⟨by first | rfl | (simp; done) | (simp [*]; done), by repeat (first | exact Drawn0.refl _ | apply Drawn0.step)⟩

/-! ### laws_zzFits11: function 65 -/
def laws_zzFits11.f (k : Nat) (a0_0 : ByteArray) (l0_1 : List (List Int)) : Option (Bool) := if (a0_0.size : Int) > 2147483647 then (some false) else ((laws_zzFits12.f k l0_1).bind fun t227 => (if t227 = true then (some true) else (some false)))
theorem laws_zzFits11.mono : ∀ a0 a1 k, LeO (laws_zzFits11.f k a0 a1) (laws_zzFits11.f (k + 1) a0 a1) := by
  intro a0 a1 k
  unfold laws_zzFits11.f
  repeat' first
      | (with_reducible exact laws_zzFits12.mono _ _)
      | (with_reducible exact LeO.refl _)
      | (with_reducible exact LeO.none _)
      | (with_reducible refine LeO.ite ?_ ?_)
      | (with_reducible refine LeO.bind ?_ (fun _ => ?_))
      | exact laws_zzFits12.mono _ _
      | exact LeO.none _
      | refine LeO.ite ?_ ?_
      | refine LeO.bind ?_ (fun _ => ?_)
set_option maxHeartbeats 8000000 in
set_option maxRecDepth 100000 in
theorem laws_zzFits11.calls (k : Nat) (a0_0 : ByteArray) (A0_1 : Option Addr) (c0_1 : Nat) (l0_1 : List (List Int)) (r : Bool) (w : World) (hr0_1 : Kd.C (Kd.slice 5 (Kd.int .u8)) w A0_1 l0_1.length l0_1) (hc0_1 : l0_1.length ≤ c0_1) (h : laws_zzFits11.f k a0_0 l0_1 = some r) :
    Calls Tryd.prog 65 #[.agg #[.string a0_0, .slice A0_1 l0_1.length c0_1]] w fun e w' => e = .returned (.bool r) ∧ Below w.heap.size w w' := by
  have hu49 := Tryd.underlying49
  have HR0_1 := Aside0.mk hr0_1
  have HC0_1 := Aside0.mk hc0_1
  clear hr0_1 hc0_1
  have HB := Aside0.mk (Below.refl w.heap.size w)
  have H : (if (a0_0.size : Int) > 2147483647 then (some false) else ((laws_zzFits12.f k l0_1).bind fun t227 => (if t227 = true then (some true) else (some false)))) = some r := h
  clear h
  by_cases c2 : (a0_0.size : Int) > 2147483647
  · rw [if_pos c2] at H
    have c2b0 : decide (2147483647 < (a0_0.size : Int)) = true := decide_eq_true c2
    have c2b1 : decide (2147483647 < a0_0.size) = true := decide_eq_true (by omega)
    clear c2
    obtain rfl := Option.some.inj H
    go_enter Tryd.func65, Tryd.ntmps65
    go_wp2_with (first | ((with_reducible refine gate_dst (N := 1) rfl ?_); refine box_event ?hg (N := 1) ?hd (cs := #[.string a0_0, .slice A0_1 l0_1.length c0_1]) (t := 49) ?hr ?_; (case hd => rfl); (case hg => rfl); (case hr => first | (go_simp; done) | (go_simp; rfl)); intro gb226 hg w3 hbox hb; have n0_ := Aside0.mk (below_step (by repeat (first | (with_reducible first | exact HB.out | apply below_alloc | apply pw_below_drewN | apply below_drew1) | exact HB.out)) hb); have n1_ := Aside0.mk (hbox); have n2_ := Aside0.mk ((by rw [hg]; exact (below_size (by repeat (first | (with_reducible first | exact HB.out | apply below_alloc | apply pw_below_drewN | apply below_drew1) | exact HB.out))) : w.heap.size ≤ gb226)); have n3_ := Aside0.mk ((by rw [hg]; exact (below_size (by repeat (first | (with_reducible first | exact HB.out | apply below_alloc | apply pw_below_drewN | apply below_drew1) | exact HB.out))) : w.heap.size ≤ gb226)); clear HB; have HB := n0_; have BK226 := n1_; have GW226 := n2_; have GE226 := n3_; clear n0_ n1_ n2_ n3_; clear hb hbox hg; have hcz4_0 : w3.cell? ⟨gb226, 0, none⟩ = some (.string a0_0) := (blk_cell BK226.out 0).trans rfl; have hcz4_1 : w3.cell? ⟨gb226, 1, none⟩ = some (.slice A0_1 l0_1.length c0_1) := (blk_cell BK226.out 1).trans rfl; have hfz4_0 := blk_frozen BK226.out 0; have hfz4_1 := blk_frozen BK226.out 1))
    go_ret
    exact ⟨by first | rfl | (simp [errW_none, errW_some] <;> rfl) | (simp [*, errW_none, errW_some] <;> rfl), by repeat (first | (with_reducible first | exact HB.out | apply below_alloc | apply pw_below_drewN | apply below_drew1 | refine below_set ?_ GE226.out) | exact HB.out)⟩
  · rw [if_neg c2] at H
    have c2b0 : decide (2147483647 < (a0_0.size : Int)) = false := decide_eq_false c2
    have c2b1 : decide (2147483647 < a0_0.size) = false := decide_eq_false (by omega)
    clear c2
    replace H := Option.bind_eq_some_iff.mp H
    obtain ⟨t227, A50, H⟩ := H
    replace H : (if t227 = true then (some true) else (some false)) = some r := H
    have A5 := Aside0.mk A50
    clear A50
    by_cases c6 : t227 = true
    · subst c6
      have H1 : (some true) = some r := by rw [if_pos rfl] at H; exact H
      clear H
      have H := H1
      clear H1
      obtain rfl := Option.some.inj H
      go_enter Tryd.func65, Tryd.ntmps65
      go_wp2_with (first | ((with_reducible refine gate_dst (N := 1) rfl ?_); refine box_event ?hg (N := 1) ?hd (cs := #[.string a0_0, .slice A0_1 l0_1.length c0_1]) (t := 49) ?hr ?_; (case hd => rfl); (case hg => rfl); (case hr => first | (go_simp; done) | (go_simp; rfl)); intro gb226 hg w7 hbox hb; have n0_ := Aside0.mk (below_step (by repeat (first | (with_reducible first | exact HB.out | apply below_alloc | apply pw_below_drewN | apply below_drew1) | exact HB.out)) hb); have n1_ := Aside0.mk (hbox); have n2_ := Aside0.mk ((by rw [hg]; exact (below_size (by repeat (first | (with_reducible first | exact HB.out | apply below_alloc | apply pw_below_drewN | apply below_drew1) | exact HB.out))) : w.heap.size ≤ gb226)); have n3_ := Aside0.mk ((by rw [hg]; exact (below_size (by repeat (first | (with_reducible first | exact HB.out | apply below_alloc | apply pw_below_drewN | apply below_drew1) | exact HB.out))) : w.heap.size ≤ gb226)); clear HB; have HB := n0_; have BK226 := n1_; have GW226 := n2_; have GE226 := n3_; clear n0_ n1_ n2_ n3_; clear hb hbox hg; have hcz8_0 : w7.cell? ⟨gb226, 0, none⟩ = some (.string a0_0) := (blk_cell BK226.out 0).trans rfl; have hcz8_1 : w7.cell? ⟨gb226, 1, none⟩ = some (.slice A0_1 l0_1.length c0_1) := (blk_cell BK226.out 1).trans rfl; have hfz8_0 := blk_frozen BK226.out 0; have hfz8_1 := blk_frozen BK226.out 1) | ((with_reducible refine gate_callee (f := 91) rfl ?_); refine goesL_ (some 9) rfl rfl Tryd.func91 (by kernel_rfl) rfl #[.slice A0_1 l0_1.length c0_1] rfl (by (try simp only [List.map_toArray, List.map_cons, List.map_nil]); first | done | rfl | (simp only [List.length_drop, List.length_take]; rfl)) ?_; (with_reducible refine (laws_zzFits12.calls k _ _ l0_1 true _ ?side1 ?side2 A5.out).mono ?_); (case side1 => repeat (first | exact (Kd.C_below HR0_1.out HB.out) | (with_reducible refine Kd.C_alloc ?_ _) | (with_reducible refine Kd.C_drewN ?_ _) | (with_reducible refine Kd.C_drew ?_))); (case side2 => exact HC0_1.out); rintro e w' ⟨rfl, ⟨nd, rfl⟩⟩; refine ⟨_, rfl, ?_⟩))
      go_ret
      exact ⟨by first | rfl | (simp [errW_none, errW_some] <;> rfl) | (simp [*, errW_none, errW_some] <;> rfl), by repeat (first | (with_reducible first | exact HB.out | apply below_alloc | apply pw_below_drewN | apply below_drew1 | refine below_set ?_ GE226.out) | exact HB.out)⟩
    · replace c6 := Bool.eq_false_iff.mpr c6
      subst c6
      have H1 : (some false) = some r := by rw [if_neg (show ¬ (false = true) by decide)] at H; exact H
      clear H
      have H := H1
      clear H1
      obtain rfl := Option.some.inj H
      go_enter Tryd.func65, Tryd.ntmps65
      go_wp2_with (first | ((with_reducible refine gate_dst (N := 1) rfl ?_); refine box_event ?hg (N := 1) ?hd (cs := #[.string a0_0, .slice A0_1 l0_1.length c0_1]) (t := 49) ?hr ?_; (case hd => rfl); (case hg => rfl); (case hr => first | (go_simp; done) | (go_simp; rfl)); intro gb226 hg w9 hbox hb; have n0_ := Aside0.mk (below_step (by repeat (first | (with_reducible first | exact HB.out | apply below_alloc | apply pw_below_drewN | apply below_drew1) | exact HB.out)) hb); have n1_ := Aside0.mk (hbox); have n2_ := Aside0.mk ((by rw [hg]; exact (below_size (by repeat (first | (with_reducible first | exact HB.out | apply below_alloc | apply pw_below_drewN | apply below_drew1) | exact HB.out))) : w.heap.size ≤ gb226)); have n3_ := Aside0.mk ((by rw [hg]; exact (below_size (by repeat (first | (with_reducible first | exact HB.out | apply below_alloc | apply pw_below_drewN | apply below_drew1) | exact HB.out))) : w.heap.size ≤ gb226)); clear HB; have HB := n0_; have BK226 := n1_; have GW226 := n2_; have GE226 := n3_; clear n0_ n1_ n2_ n3_; clear hb hbox hg; have hcz10_0 : w9.cell? ⟨gb226, 0, none⟩ = some (.string a0_0) := (blk_cell BK226.out 0).trans rfl; have hcz10_1 : w9.cell? ⟨gb226, 1, none⟩ = some (.slice A0_1 l0_1.length c0_1) := (blk_cell BK226.out 1).trans rfl; have hfz10_0 := blk_frozen BK226.out 0; have hfz10_1 := blk_frozen BK226.out 1) | ((with_reducible refine gate_callee (f := 91) rfl ?_); refine goesL_ (some 9) rfl rfl Tryd.func91 (by kernel_rfl) rfl #[.slice A0_1 l0_1.length c0_1] rfl (by (try simp only [List.map_toArray, List.map_cons, List.map_nil]); first | done | rfl | (simp only [List.length_drop, List.length_take]; rfl)) ?_; (with_reducible refine (laws_zzFits12.calls k _ _ l0_1 false _ ?side1 ?side2 A5.out).mono ?_); (case side1 => repeat (first | exact (Kd.C_below HR0_1.out HB.out) | (with_reducible refine Kd.C_alloc ?_ _) | (with_reducible refine Kd.C_drewN ?_ _) | (with_reducible refine Kd.C_drew ?_))); (case side2 => exact HC0_1.out); rintro e w' ⟨rfl, ⟨nd, rfl⟩⟩; refine ⟨_, rfl, ?_⟩))
      go_ret
      exact ⟨by first | rfl | (simp [errW_none, errW_some] <;> rfl) | (simp [*, errW_none, errW_some] <;> rfl), by repeat (first | (with_reducible first | exact HB.out | apply below_alloc | apply pw_below_drewN | apply below_drew1 | refine below_set ?_ GE226.out) | exact HB.out)⟩

/-! ### laws_zzFits10: function 55 -/
def laws_zzFits10.f (k : Nat) (a0_0 : Int) (a0_1 : ByteArray) (l0_2 : List (List Int)) : Option (Bool) := (laws_zzFits11.f k a0_1 l0_2).bind fun t229 => (if t229 = true then (some true) else (some false))
theorem laws_zzFits10.mono : ∀ a0 a1 a2 k, LeO (laws_zzFits10.f k a0 a1 a2) (laws_zzFits10.f (k + 1) a0 a1 a2) := by
  intro a0 a1 a2 k
  unfold laws_zzFits10.f
  repeat' first
      | (with_reducible exact laws_zzFits11.mono _ _ _)
      | (with_reducible exact LeO.refl _)
      | (with_reducible exact LeO.none _)
      | (with_reducible refine LeO.ite ?_ ?_)
      | (with_reducible refine LeO.bind ?_ (fun _ => ?_))
      | exact laws_zzFits11.mono _ _ _
      | exact LeO.none _
      | refine LeO.ite ?_ ?_
      | refine LeO.bind ?_ (fun _ => ?_)
set_option maxHeartbeats 8000000 in
set_option maxRecDepth 100000 in
theorem laws_zzFits10.calls (k : Nat) (a0_0 : Int) (a0_1 : ByteArray) (A0_2 : Option Addr) (c0_2 : Nat) (l0_2 : List (List Int)) (r : Bool) (w : World) (hr0_2 : Kd.C (Kd.slice 5 (Kd.int .u8)) w A0_2 l0_2.length l0_2) (hc0_2 : l0_2.length ≤ c0_2) (h : laws_zzFits10.f k a0_0 a0_1 l0_2 = some r) :
    Calls Tryd.prog 55 #[.agg #[.int .i64 a0_0, .string a0_1, .slice A0_2 l0_2.length c0_2]] w fun e w' => e = .returned (.bool r) ∧ Below w.heap.size w w' := by
  have hu51 := Tryd.underlying51
  have hu49 := Tryd.underlying49
  have HR0_2 := Aside0.mk hr0_2
  have HC0_2 := Aside0.mk hc0_2
  clear hr0_2 hc0_2
  have HB := Aside0.mk (Below.refl w.heap.size w)
  have H : ((laws_zzFits11.f k a0_1 l0_2).bind fun t229 => (if t229 = true then (some true) else (some false))) = some r := h
  clear h
  replace H := Option.bind_eq_some_iff.mp H
  obtain ⟨t229, A20, H⟩ := H
  replace H : (if t229 = true then (some true) else (some false)) = some r := H
  have A2 := Aside0.mk A20
  clear A20
  by_cases c3 : t229 = true
  · subst c3
    have H1 : (some true) = some r := by rw [if_pos rfl] at H; exact H
    clear H
    have H := H1
    clear H1
    obtain rfl := Option.some.inj H
    go_enter Tryd.func55, Tryd.ntmps55
    go_wp2_with (first | ((with_reducible refine gate_dst (N := 1) rfl ?_); refine box_event ?hg (N := 1) ?hd (cs := #[.int .i64 a0_0, .string a0_1, .slice A0_2 l0_2.length c0_2]) (t := 51) ?hr ?_; (case hd => rfl); (case hg => rfl); (case hr => first | (go_simp; done) | (go_simp; rfl)); intro gb228 hg w4 hbox hb; have n0_ := Aside0.mk (below_step (by repeat (first | (with_reducible first | exact HB.out | apply below_alloc | apply pw_below_drewN | apply below_drew1) | exact HB.out)) hb); have n1_ := Aside0.mk (hbox); have n2_ := Aside0.mk ((by rw [hg]; exact (below_size (by repeat (first | (with_reducible first | exact HB.out | apply below_alloc | apply pw_below_drewN | apply below_drew1) | exact HB.out))) : w.heap.size ≤ gb228)); have n3_ := Aside0.mk ((by rw [hg]; exact (below_size (by repeat (first | (with_reducible first | exact HB.out | apply below_alloc | apply pw_below_drewN | apply below_drew1) | exact HB.out))) : w.heap.size ≤ gb228)); clear HB; have HB := n0_; have BK228 := n1_; have GW228 := n2_; have GE228 := n3_; clear n0_ n1_ n2_ n3_; clear hb hbox hg; have hcz5_0 : w4.cell? ⟨gb228, 0, none⟩ = some (.int .i64 a0_0) := (blk_cell BK228.out 0).trans rfl; have hcz5_1 : w4.cell? ⟨gb228, 1, none⟩ = some (.string a0_1) := (blk_cell BK228.out 1).trans rfl; have hcz5_2 : w4.cell? ⟨gb228, 2, none⟩ = some (.slice A0_2 l0_2.length c0_2) := (blk_cell BK228.out 2).trans rfl; have hfz5_0 := blk_frozen BK228.out 0; have hfz5_1 := blk_frozen BK228.out 1; have hfz5_2 := blk_frozen BK228.out 2) | ((with_reducible refine gate_callee (f := 65) rfl ?_); refine goesL_ (some 5) rfl rfl Tryd.func65 (by kernel_rfl) rfl #[.agg #[.string a0_1, .slice A0_2 l0_2.length c0_2]] rfl (by (try simp only [List.map_toArray, List.map_cons, List.map_nil]); first | done | rfl | (simp only [List.length_drop, List.length_take]; rfl)) ?_; (with_reducible refine (laws_zzFits11.calls k a0_1 _ _ l0_2 true _ ?side1 ?side2 A2.out).mono ?_); (case side1 => repeat (first | exact (Kd.C_below HR0_2.out HB.out) | (with_reducible refine Kd.C_alloc ?_ _) | (with_reducible refine Kd.C_drewN ?_ _) | (with_reducible refine Kd.C_drew ?_))); (case side2 => exact HC0_2.out); rintro e w6 ⟨rfl, hb⟩; refine ⟨_, rfl, ?_⟩; have n0_ := Aside0.mk (blk_below (g := gb228) (o := .cells #[.int .i64 a0_0, .string a0_1, .slice A0_2 l0_2.length c0_2] 51 (0, 0)) (by (with_reducible repeat (first | refine blk_drewN ?_ _ | refine blk_drew ?_ | refine blk_alloc ?_ _)); exact BK228.out) hb); have n1_ := Aside0.mk (below_step (by repeat (first | (with_reducible first | exact HB.out | apply below_alloc | apply pw_below_drewN | apply below_drew1 | refine below_set ?_ GE228.out) | exact HB.out)) hb); clear BK228; clear HB; have BK228 := n0_; have HB := n1_; clear n0_ n1_; (try clear hb); (try clear hb2); (try clear hk); (try clear hi)))
    go_ret
    exact ⟨by first | rfl | (simp [errW_none, errW_some] <;> rfl) | (simp [*, errW_none, errW_some] <;> rfl), by repeat (first | (with_reducible first | exact HB.out | apply below_alloc | apply pw_below_drewN | apply below_drew1 | refine below_set ?_ GE228.out) | exact HB.out)⟩
  · replace c3 := Bool.eq_false_iff.mpr c3
    subst c3
    have H1 : (some false) = some r := by rw [if_neg (show ¬ (false = true) by decide)] at H; exact H
    clear H
    have H := H1
    clear H1
    obtain rfl := Option.some.inj H
    go_enter Tryd.func55, Tryd.ntmps55
    go_wp2_with (first | ((with_reducible refine gate_dst (N := 1) rfl ?_); refine box_event ?hg (N := 1) ?hd (cs := #[.int .i64 a0_0, .string a0_1, .slice A0_2 l0_2.length c0_2]) (t := 51) ?hr ?_; (case hd => rfl); (case hg => rfl); (case hr => first | (go_simp; done) | (go_simp; rfl)); intro gb228 hg w7 hbox hb; have n0_ := Aside0.mk (below_step (by repeat (first | (with_reducible first | exact HB.out | apply below_alloc | apply pw_below_drewN | apply below_drew1) | exact HB.out)) hb); have n1_ := Aside0.mk (hbox); have n2_ := Aside0.mk ((by rw [hg]; exact (below_size (by repeat (first | (with_reducible first | exact HB.out | apply below_alloc | apply pw_below_drewN | apply below_drew1) | exact HB.out))) : w.heap.size ≤ gb228)); have n3_ := Aside0.mk ((by rw [hg]; exact (below_size (by repeat (first | (with_reducible first | exact HB.out | apply below_alloc | apply pw_below_drewN | apply below_drew1) | exact HB.out))) : w.heap.size ≤ gb228)); clear HB; have HB := n0_; have BK228 := n1_; have GW228 := n2_; have GE228 := n3_; clear n0_ n1_ n2_ n3_; clear hb hbox hg; have hcz8_0 : w7.cell? ⟨gb228, 0, none⟩ = some (.int .i64 a0_0) := (blk_cell BK228.out 0).trans rfl; have hcz8_1 : w7.cell? ⟨gb228, 1, none⟩ = some (.string a0_1) := (blk_cell BK228.out 1).trans rfl; have hcz8_2 : w7.cell? ⟨gb228, 2, none⟩ = some (.slice A0_2 l0_2.length c0_2) := (blk_cell BK228.out 2).trans rfl; have hfz8_0 := blk_frozen BK228.out 0; have hfz8_1 := blk_frozen BK228.out 1; have hfz8_2 := blk_frozen BK228.out 2) | ((with_reducible refine gate_callee (f := 65) rfl ?_); refine goesL_ (some 5) rfl rfl Tryd.func65 (by kernel_rfl) rfl #[.agg #[.string a0_1, .slice A0_2 l0_2.length c0_2]] rfl (by (try simp only [List.map_toArray, List.map_cons, List.map_nil]); first | done | rfl | (simp only [List.length_drop, List.length_take]; rfl)) ?_; (with_reducible refine (laws_zzFits11.calls k a0_1 _ _ l0_2 false _ ?side1 ?side2 A2.out).mono ?_); (case side1 => repeat (first | exact (Kd.C_below HR0_2.out HB.out) | (with_reducible refine Kd.C_alloc ?_ _) | (with_reducible refine Kd.C_drewN ?_ _) | (with_reducible refine Kd.C_drew ?_))); (case side2 => exact HC0_2.out); rintro e w9 ⟨rfl, hb⟩; refine ⟨_, rfl, ?_⟩; have n0_ := Aside0.mk (blk_below (g := gb228) (o := .cells #[.int .i64 a0_0, .string a0_1, .slice A0_2 l0_2.length c0_2] 51 (0, 0)) (by (with_reducible repeat (first | refine blk_drewN ?_ _ | refine blk_drew ?_ | refine blk_alloc ?_ _)); exact BK228.out) hb); have n1_ := Aside0.mk (below_step (by repeat (first | (with_reducible first | exact HB.out | apply below_alloc | apply pw_below_drewN | apply below_drew1 | refine below_set ?_ GE228.out) | exact HB.out)) hb); clear BK228; clear HB; have BK228 := n0_; have HB := n1_; clear n0_ n1_; (try clear hb); (try clear hb2); (try clear hk); (try clear hi)))
    go_ret
    exact ⟨by first | rfl | (simp [errW_none, errW_some] <;> rfl) | (simp [*, errW_none, errW_some] <;> rfl), by repeat (first | (with_reducible first | exact HB.out | apply below_alloc | apply pw_below_drewN | apply below_drew1 | refine below_set ?_ GE228.out) | exact HB.out)⟩

/-! ### laws_zzFits9: function 21 -/
def laws_zzFits9.l0 : Nat → List (S51) → Int → Int → Option (Bool)
  | 0, _, _, _ => none
  | k + 1, x8, x9, x10 => if x10 < x9 then (if 0 ≤ x10 then (if x10 < (x8.length : Int) then ((laws_zzFits10.f k ((rd_T51 x8 x10).f0) ((rd_T51 x8 x10).f1.f0) ((rd_T51 x8 x10).f1.f1)).bind fun t232 => (if t232 = true then (laws_zzFits9.l0 k x8 x9 (wrap64 (x10 + 1))) else (some false))) else (none)) else (none)) else (some true)
def laws_zzFits9.f (k : Nat) (l0 : List (S51)) : Option (Bool) := if (l0.length : Int) > 2147483647 then (some false) else (laws_zzFits9.l0 k l0 (l0.length : Int) 0)
theorem laws_zzFits9.mono_l : ∀ k, (∀ y0 y1 y2, LeO (laws_zzFits9.l0 k y0 y1 y2) (laws_zzFits9.l0 (k + 1) y0 y1 y2))
  | 0 => fun _ _ _ r h => by simp [laws_zzFits9.l0] at h
  | k + 1 => by
    have ih0 := laws_zzFits9.mono_l k
    · intro y0 y1 y2
      unfold laws_zzFits9.l0
      repeat' first
      | (with_reducible exact ih0 _ _ _)
      | (with_reducible exact laws_zzFits10.mono _ _ _ _)
      | (with_reducible exact LeO.refl _)
      | (with_reducible exact LeO.none _)
      | (with_reducible refine LeO.ite ?_ ?_)
      | (with_reducible refine LeO.bind ?_ (fun _ => ?_))
      | exact ih0 _ _ _
      | exact laws_zzFits10.mono _ _ _ _
      | exact LeO.none _
      | refine LeO.ite ?_ ?_
      | refine LeO.bind ?_ (fun _ => ?_)
theorem laws_zzFits9.mono : ∀ a0 k, LeO (laws_zzFits9.f k a0) (laws_zzFits9.f (k + 1) a0) := by
  intro a0 k
  have ih0 := laws_zzFits9.mono_l k
  unfold laws_zzFits9.f
  repeat' first
      | (with_reducible exact ih0 _ _ _)
      | (with_reducible exact laws_zzFits10.mono _ _ _ _)
      | (with_reducible exact LeO.refl _)
      | (with_reducible exact LeO.none _)
      | (with_reducible refine LeO.ite ?_ ?_)
      | (with_reducible refine LeO.bind ?_ (fun _ => ?_))
      | exact ih0 _ _ _
      | exact laws_zzFits10.mono _ _ _ _
      | exact LeO.none _
      | refine LeO.ite ?_ ?_
      | refine LeO.bind ?_ (fun _ => ?_)
set_option maxHeartbeats 8000000 in
set_option maxRecDepth 100000 in
theorem laws_zzFits9.calls (k : Nat) (A0 : Option Addr) (c0 : Nat) (l0 : List (S51)) (r : Bool) (w : World) (hr0 : Kd.C k51 w A0 l0.length l0) (hc0 : l0.length ≤ c0) (h : laws_zzFits9.f k l0 = some r) :
    Calls Tryd.prog 21 #[.slice A0 l0.length c0] w fun e w' => e = .returned (.bool r) ∧ Below w.heap.size w w' := by
  have hu51 := Tryd.underlying51
  have HR0 := Aside0.mk hr0
  have HC0 := Aside0.mk hc0
  clear hr0 hc0
  have HB := Aside0.mk (Below.refl w.heap.size w)
  have H : (if (l0.length : Int) > 2147483647 then (some false) else (laws_zzFits9.l0 k l0 (l0.length : Int) 0)) = some r := h
  clear h
  by_cases c2 : (l0.length : Int) > 2147483647
  · rw [if_pos c2] at H
    have c2b0 : decide (2147483647 < (l0.length : Int)) = true := decide_eq_true c2
    have c2b1 : decide (2147483647 < l0.length) = true := decide_eq_true (by omega)
    clear c2
    obtain rfl := Option.some.inj H
    go_enter Tryd.func21, Tryd.ntmps21
    go_wp2
    go_ret
    exact ⟨by first | rfl | (simp [errW_none, errW_some] <;> rfl) | (simp [*, errW_none, errW_some] <;> rfl), by repeat (first | (with_reducible first | exact HB.out | apply below_alloc | apply pw_below_drewN | apply below_drew1) | exact HB.out)⟩
  · rw [if_neg c2] at H
    have c2b0 : decide (2147483647 < (l0.length : Int)) = false := decide_eq_false c2
    have c2b1 : decide (2147483647 < l0.length) = false := decide_eq_false (by omega)
    clear c2
    have H' := Aside0.mk H
    clear H
    go_enter Tryd.func21, Tryd.ntmps21
    go_wp2
    go_loopg [10] k (fun kq v10 w' => ∃ (x10_1 : Int), v10 = .int .i64 x10_1 ∧ Aside0 (laws_zzFits9.l0 kq l0 (l0.length : Int) x10_1 = some r) ∧ Aside0 (kq ≤ k) ∧ Aside0 (Below w.heap.size w w'))
    case atStart => exact ⟨(0), (by first | rfl | (simp; done) | (simp [*]; done)), H', ⟨Nat.le_refl _⟩, ⟨by repeat (first | (with_reducible first | exact HB.out | apply below_alloc | apply pw_below_drewN | apply below_drew1) | exact HB.out)⟩⟩
    case round =>
      clear H'
      try clear c2
      try clear c2b0
      try clear c2b1
      try clear p2
      obtain ⟨x10_1, rfl, HA, HK1, HB⟩ := hrel
      cases gk with
      | zero => exact absurd HA.out (by simp [laws_zzFits9.l0])
      | succ k1 =>
        have H := HA.out
        clear HA
        simp only [laws_zzFits9.l0] at H
        by_cases c3 : x10_1 < (l0.length : Int)
        · rw [if_pos c3] at H
          have c3b0 : decide (x10_1 < (l0.length : Int)) = true := decide_eq_true c3
          clear c3
          by_cases c4 : 0 ≤ x10_1
          · rw [if_pos c4] at H
            have c4b0 : decide (0 ≤ x10_1) = true := decide_eq_true c4
            clear c4
            by_cases c5 : x10_1 < (l0.length : Int)
            · rw [if_pos c5] at H
              have c5b0 : decide (x10_1 < (l0.length : Int)) = true := decide_eq_true c5
              clear c5
              replace H := Option.bind_eq_some_iff.mp H
              obtain ⟨t232, A60, H⟩ := H
              replace H : (if t232 = true then (laws_zzFits9.l0 k1 l0 (l0.length : Int) (wrap64 (x10_1 + 1))) else (some false)) = some r := H
              have A6 := Aside0.mk A60
              clear A60
              by_cases c7 : t232 = true
              · subst c7
                have H1 : (laws_zzFits9.l0 k1 l0 (l0.length : Int) (wrap64 (x10_1 + 1))) = some r := by rw [if_pos rfl] at H; exact H
                clear H
                have H := H1
                clear H1
                have H' := Aside0.mk H
                clear H
                have p230 : 0 ≤ (x10_1 : Int) := of_decide_eq_true (by first | (with_reducible assumption) | assumption)
                have q230 : x10_1 < (l0.length : Int) := of_decide_eq_true (by first | (with_reducible assumption) | assumption)
                obtain ⟨ad230, A230_2, c230_2, e230, hx230_0, hx230_1, hx230_2, hl230_2, hi230_2⟩ := at_T51 HR0.out x10_1 p230 q230
                cases e230
                replace hx230_0 := (HB.out.cell (World.block_lt_of_cell? w _ hx230_0)).trans hx230_0
                replace hx230_1 := (HB.out.cell (World.block_lt_of_cell? w _ hx230_1)).trans hx230_1
                replace hx230_2 := (HB.out.cell (World.block_lt_of_cell? w _ hx230_2)).trans hx230_2
                have HR230_2 := Aside0.mk hi230_2
                have HC230_2 := Aside0.mk hl230_2
                clear hi230_2 hl230_2
                replace p230 := eq_true p230
                replace q230 := eq_true q230
                go_wp2_with (first | ((with_reducible refine gate_dst (N := 4) rfl ?_); refine box_event ?hg (N := 4) ?hd (cs := #[.int .i64 0, .string (⟨#[]⟩ : ByteArray), .slice none 0 0]) (t := 51) ?hr ?_; (case hd => rfl); (case hg => rfl); (case hr => first | (go_simp; done) | (go_simp; rfl)); intro gb231 hg w8 hbox hb; have n0_ := Aside0.mk (below_step (by repeat (first | (with_reducible first | exact HB.out | apply below_alloc | apply pw_below_drewN | apply below_drew1) | exact HB.out)) hb); have n1_ := Aside0.mk (hbox); have n2_ := Aside0.mk ((by rw [hg]; exact (below_size (by repeat (first | (with_reducible first | exact HB.out | apply below_alloc | apply pw_below_drewN | apply below_drew1) | exact HB.out))) : w.heap.size ≤ gb231)); have n3_ := Aside0.mk ((by rw [hg]; exact (below_size (by repeat (first | (with_reducible first | exact HB.out | apply below_alloc | apply pw_below_drewN | apply below_drew1) | exact HB.out))) : w.heap.size ≤ gb231)); clear HB; have HB := n0_; have BK231 := n1_; have GW231 := n2_; have GE231 := n3_; clear n0_ n1_ n2_ n3_; clear hb hbox hg; have hcz9_0 : w8.cell? ⟨gb231, 0, none⟩ = some (.int .i64 0) := (blk_cell BK231.out 0).trans rfl; have hcz9_1 : w8.cell? ⟨gb231, 1, none⟩ = some (.string (⟨#[]⟩ : ByteArray)) := (blk_cell BK231.out 1).trans rfl; have hcz9_2 : w8.cell? ⟨gb231, 2, none⟩ = some (.slice none 0 0) := (blk_cell BK231.out 2).trans rfl; have hfz9_0 := blk_frozen BK231.out 0; have hfz9_1 := blk_frozen BK231.out 1; have hfz9_2 := blk_frozen BK231.out 2) | ((with_reducible refine gate_callee (f := 55) rfl ?_); refine goesL_ (some 15) rfl rfl Tryd.func55 (by kernel_rfl) rfl #[.agg #[.int .i64 ((rd_T51 l0 x10_1).f0), .string ((rd_T51 l0 x10_1).f1.f0), .slice A230_2 ((rd_T51 l0 x10_1).f1.f1).length c230_2]] rfl (by (try simp only [List.map_toArray, List.map_cons, List.map_nil]); first | done | rfl | (simp only [List.length_drop, List.length_take]; rfl)) ?_; (with_reducible refine (laws_zzFits10.calls k1 ((rd_T51 l0 x10_1).f0) ((rd_T51 l0 x10_1).f1.f0) _ _ ((rd_T51 l0 x10_1).f1.f1) true _ ?side1 ?side2 A6.out).mono ?_); (case side1 => exact Kd.C_below HR230_2.out (by repeat (first | (with_reducible first | exact HB.out | apply below_alloc | apply pw_below_drewN | apply below_drew1 | refine below_set ?_ GE231.out) | exact HB.out))); (case side2 => exact HC230_2.out); rintro e w10 ⟨rfl, hb⟩; refine ⟨_, rfl, ?_⟩; have n0_ := Aside0.mk (blk_below (g := gb231) (o := .cells #[.int .i64 ((rd_T51 l0 x10_1).f0), .string ((rd_T51 l0 x10_1).f1.f0), .slice A230_2 ((rd_T51 l0 x10_1).f1.f1).length c230_2] 51 (0, 0)) (by (with_reducible repeat (first | refine blk_drewN ?_ _ | refine blk_drew ?_ | refine blk_alloc ?_ _)); refine blk_put (cs := #[.int .i64 ((rd_T51 l0 x10_1).f0), .string ((rd_T51 l0 x10_1).f1.f0), .slice none 0 0]) ?_ 2 _ rfl; (with_reducible repeat (first | refine blk_drewN ?_ _ | refine blk_drew ?_ | refine blk_alloc ?_ _)); refine blk_put (cs := #[.int .i64 ((rd_T51 l0 x10_1).f0), .string (⟨#[]⟩ : ByteArray), .slice none 0 0]) ?_ 1 _ rfl; (with_reducible repeat (first | refine blk_drewN ?_ _ | refine blk_drew ?_ | refine blk_alloc ?_ _)); refine blk_put (cs := #[.int .i64 0, .string (⟨#[]⟩ : ByteArray), .slice none 0 0]) ?_ 0 _ rfl; (with_reducible repeat (first | refine blk_drewN ?_ _ | refine blk_drew ?_ | refine blk_alloc ?_ _)); exact BK231.out) hb); have n1_ := Aside0.mk (below_step (by repeat (first | (with_reducible first | exact HB.out | apply below_alloc | apply pw_below_drewN | apply below_drew1 | refine below_set ?_ GE231.out) | exact HB.out)) hb); clear BK231; clear HB; have BK231 := n0_; have HB := n1_; clear n0_ n1_; (try clear hb); (try clear hb2); (try clear hk); (try clear hi)))
                go_roundg k1
                case measure => have := HK1.out; omega
                case rel => exact ⟨(wrap64 (x10_1 + 1)), (by first | rfl | (simp; done) | (simp [*]; done)), H', ⟨by have := HK1.out; omega⟩, ⟨by repeat (first | (with_reducible first | exact HB.out | apply below_alloc | apply pw_below_drewN | apply below_drew1 | refine below_set ?_ GE231.out) | exact HB.out)⟩⟩
              · replace c7 := Bool.eq_false_iff.mpr c7
                subst c7
                have H1 : (some false) = some r := by rw [if_neg (show ¬ (false = true) by decide)] at H; exact H
                clear H
                have H := H1
                clear H1
                obtain rfl := Option.some.inj H
                have p230 : 0 ≤ (x10_1 : Int) := of_decide_eq_true (by first | (with_reducible assumption) | assumption)
                have q230 : x10_1 < (l0.length : Int) := of_decide_eq_true (by first | (with_reducible assumption) | assumption)
                obtain ⟨ad230, A230_2, c230_2, e230, hx230_0, hx230_1, hx230_2, hl230_2, hi230_2⟩ := at_T51 HR0.out x10_1 p230 q230
                cases e230
                replace hx230_0 := (HB.out.cell (World.block_lt_of_cell? w _ hx230_0)).trans hx230_0
                replace hx230_1 := (HB.out.cell (World.block_lt_of_cell? w _ hx230_1)).trans hx230_1
                replace hx230_2 := (HB.out.cell (World.block_lt_of_cell? w _ hx230_2)).trans hx230_2
                have HR230_2 := Aside0.mk hi230_2
                have HC230_2 := Aside0.mk hl230_2
                clear hi230_2 hl230_2
                replace p230 := eq_true p230
                replace q230 := eq_true q230
                go_wp2_with (first | ((with_reducible refine gate_dst (N := 4) rfl ?_); refine box_event ?hg (N := 4) ?hd (cs := #[.int .i64 0, .string (⟨#[]⟩ : ByteArray), .slice none 0 0]) (t := 51) ?hr ?_; (case hd => rfl); (case hg => rfl); (case hr => first | (go_simp; done) | (go_simp; rfl)); intro gb231 hg w11 hbox hb; have n0_ := Aside0.mk (below_step (by repeat (first | (with_reducible first | exact HB.out | apply below_alloc | apply pw_below_drewN | apply below_drew1) | exact HB.out)) hb); have n1_ := Aside0.mk (hbox); have n2_ := Aside0.mk ((by rw [hg]; exact (below_size (by repeat (first | (with_reducible first | exact HB.out | apply below_alloc | apply pw_below_drewN | apply below_drew1) | exact HB.out))) : w.heap.size ≤ gb231)); have n3_ := Aside0.mk ((by rw [hg]; exact (below_size (by repeat (first | (with_reducible first | exact HB.out | apply below_alloc | apply pw_below_drewN | apply below_drew1) | exact HB.out))) : w.heap.size ≤ gb231)); clear HB; have HB := n0_; have BK231 := n1_; have GW231 := n2_; have GE231 := n3_; clear n0_ n1_ n2_ n3_; clear hb hbox hg; have hcz12_0 : w11.cell? ⟨gb231, 0, none⟩ = some (.int .i64 0) := (blk_cell BK231.out 0).trans rfl; have hcz12_1 : w11.cell? ⟨gb231, 1, none⟩ = some (.string (⟨#[]⟩ : ByteArray)) := (blk_cell BK231.out 1).trans rfl; have hcz12_2 : w11.cell? ⟨gb231, 2, none⟩ = some (.slice none 0 0) := (blk_cell BK231.out 2).trans rfl; have hfz12_0 := blk_frozen BK231.out 0; have hfz12_1 := blk_frozen BK231.out 1; have hfz12_2 := blk_frozen BK231.out 2) | ((with_reducible refine gate_callee (f := 55) rfl ?_); refine goesL_ (some 15) rfl rfl Tryd.func55 (by kernel_rfl) rfl #[.agg #[.int .i64 ((rd_T51 l0 x10_1).f0), .string ((rd_T51 l0 x10_1).f1.f0), .slice A230_2 ((rd_T51 l0 x10_1).f1.f1).length c230_2]] rfl (by (try simp only [List.map_toArray, List.map_cons, List.map_nil]); first | done | rfl | (simp only [List.length_drop, List.length_take]; rfl)) ?_; (with_reducible refine (laws_zzFits10.calls k1 ((rd_T51 l0 x10_1).f0) ((rd_T51 l0 x10_1).f1.f0) _ _ ((rd_T51 l0 x10_1).f1.f1) false _ ?side1 ?side2 A6.out).mono ?_); (case side1 => exact Kd.C_below HR230_2.out (by repeat (first | (with_reducible first | exact HB.out | apply below_alloc | apply pw_below_drewN | apply below_drew1 | refine below_set ?_ GE231.out) | exact HB.out))); (case side2 => exact HC230_2.out); rintro e w13 ⟨rfl, hb⟩; refine ⟨_, rfl, ?_⟩; have n0_ := Aside0.mk (blk_below (g := gb231) (o := .cells #[.int .i64 ((rd_T51 l0 x10_1).f0), .string ((rd_T51 l0 x10_1).f1.f0), .slice A230_2 ((rd_T51 l0 x10_1).f1.f1).length c230_2] 51 (0, 0)) (by (with_reducible repeat (first | refine blk_drewN ?_ _ | refine blk_drew ?_ | refine blk_alloc ?_ _)); refine blk_put (cs := #[.int .i64 ((rd_T51 l0 x10_1).f0), .string ((rd_T51 l0 x10_1).f1.f0), .slice none 0 0]) ?_ 2 _ rfl; (with_reducible repeat (first | refine blk_drewN ?_ _ | refine blk_drew ?_ | refine blk_alloc ?_ _)); refine blk_put (cs := #[.int .i64 ((rd_T51 l0 x10_1).f0), .string (⟨#[]⟩ : ByteArray), .slice none 0 0]) ?_ 1 _ rfl; (with_reducible repeat (first | refine blk_drewN ?_ _ | refine blk_drew ?_ | refine blk_alloc ?_ _)); refine blk_put (cs := #[.int .i64 0, .string (⟨#[]⟩ : ByteArray), .slice none 0 0]) ?_ 0 _ rfl; (with_reducible repeat (first | refine blk_drewN ?_ _ | refine blk_drew ?_ | refine blk_alloc ?_ _)); exact BK231.out) hb); have n1_ := Aside0.mk (below_step (by repeat (first | (with_reducible first | exact HB.out | apply below_alloc | apply pw_below_drewN | apply below_drew1 | refine below_set ?_ GE231.out) | exact HB.out)) hb); clear BK231; clear HB; have BK231 := n0_; have HB := n1_; clear n0_ n1_; (try clear hb); (try clear hb2); (try clear hk); (try clear hi)))
                go_ret
                exact ⟨by first | rfl | (simp [errW_none, errW_some] <;> rfl) | (simp [*, errW_none, errW_some] <;> rfl), by repeat (first | (with_reducible first | exact HB.out | apply below_alloc | apply pw_below_drewN | apply below_drew1 | refine below_set ?_ GE231.out) | exact HB.out)⟩
            · rw [if_neg c5] at H
              exact absurd H (by simp)
          · rw [if_neg c4] at H
            exact absurd H (by simp)
        · rw [if_neg c3] at H
          have c3b0 : decide (x10_1 < (l0.length : Int)) = false := decide_eq_false c3
          clear c3
          obtain rfl := Option.some.inj H
          go_wp2
          go_ret
          exact ⟨by first | rfl | (simp [errW_none, errW_some] <;> rfl) | (simp [*, errW_none, errW_some] <;> rfl), by repeat (first | (with_reducible first | exact HB.out | apply below_alloc | apply pw_below_drewN | apply below_drew1) | exact HB.out)⟩

/-! ### laws_attribute: function 56 -/
def laws_attribute.l0 : Nat → List (List Int) → Int → Int → ByteArray → List ByteArray → Option (ByteArray × List ByteArray)
  | 0, _, _, _, _, _ => none
  | k + 1, x10, x11, x12, x236000, x236001 => if x12 < x11 then (if 0 ≤ x12 then (if x12 < (x10.length : Int) then (if x236001.length < 8796093022208 then (laws_attribute.l0 k x10 x11 (wrap64 (x12 + 1)) x236000 (x236001 ++ [strOfNums (rd_L4 x10 x12)])) else (none)) else (none)) else (none)) else (some (x236000, x236001))
def laws_attribute.f (k : Nat) (a0_0 : ByteArray) (l0_1 : List (List Int)) : Option (ByteArray × List ByteArray) := laws_attribute.l0 k l0_1 (l0_1.length : Int) 0 a0_0 ([] : List ByteArray)
theorem laws_attribute.mono_l : ∀ k, (∀ y0 y1 y2 y3 y4, LeO (laws_attribute.l0 k y0 y1 y2 y3 y4) (laws_attribute.l0 (k + 1) y0 y1 y2 y3 y4))
  | 0 => fun _ _ _ _ _ r h => by simp [laws_attribute.l0] at h
  | k + 1 => by
    have ih0 := laws_attribute.mono_l k
    · intro y0 y1 y2 y3 y4
      unfold laws_attribute.l0
      repeat' first
      | (with_reducible exact ih0 _ _ _ _ _)
      | (with_reducible exact LeO.refl _)
      | (with_reducible exact LeO.none _)
      | (with_reducible refine LeO.ite ?_ ?_)
      | (with_reducible refine LeO.bind ?_ (fun _ => ?_))
      | exact ih0 _ _ _ _ _
      | exact LeO.none _
      | refine LeO.ite ?_ ?_
      | refine LeO.bind ?_ (fun _ => ?_)
theorem laws_attribute.mono : ∀ a0 a1 k, LeO (laws_attribute.f k a0 a1) (laws_attribute.f (k + 1) a0 a1) := by
  intro a0 a1 k
  have ih0 := laws_attribute.mono_l k
  unfold laws_attribute.f
  repeat' first
      | (with_reducible exact ih0 _ _ _ _ _)
      | (with_reducible exact LeO.refl _)
      | (with_reducible exact LeO.none _)
      | (with_reducible refine LeO.ite ?_ ?_)
      | (with_reducible refine LeO.bind ?_ (fun _ => ?_))
      | exact ih0 _ _ _ _ _
      | exact LeO.none _
      | refine LeO.ite ?_ ?_
      | refine LeO.bind ?_ (fun _ => ?_)
set_option maxHeartbeats 8000000 in
set_option maxRecDepth 100000 in
theorem laws_attribute.calls (k : Nat) (a0_0 : ByteArray) (A0_1 : Option Addr) (c0_1 : Nat) (l0_1 : List (List Int)) (r1 : ByteArray) (r2 : List ByteArray) (w : World) (hr0_1 : Kd.C (Kd.slice 5 (Kd.int .u8)) w A0_1 l0_1.length l0_1) (hc0_1 : l0_1.length ≤ c0_1) (h : laws_attribute.f k a0_0 l0_1 = some (r1, r2)) :
    Calls Tryd.prog 56 #[.agg #[.string a0_0, .slice A0_1 l0_1.length c0_1]] w fun e w' => ∃ v1_ : Value, e = .returned (.agg #[.string r1, v1_]) ∧ Kd.R Kd.string 9 w' w.heap.size (fun _ => True) v1_ r2 ∧ Below w.heap.size w w' := by
  have hu49 := Tryd.underlying49
  have hu58 := Tryd.underlying58
  have HR0_1 := Aside0.mk hr0_1
  have HC0_1 := Aside0.mk hc0_1
  clear hr0_1 hc0_1
  have HB := Aside0.mk (Below.refl w.heap.size w)
  have H : (laws_attribute.l0 k l0_1 (l0_1.length : Int) 0 a0_0 ([] : List ByteArray)) = some (r1, r2) := h
  clear h
  have H' := Aside0.mk H
  clear H
  go_enter Tryd.func56, Tryd.ntmps56
  go_wp2_with (first | ((with_reducible refine gate_dst (N := 1) rfl ?_); refine box_event ?hg (N := 1) ?hd (cs := #[.string a0_0, .slice A0_1 l0_1.length c0_1]) (t := 49) ?hr ?_; (case hd => rfl); (case hg => rfl); (case hr => first | (go_simp; done) | (go_simp; rfl)); intro gb233 hg w2 hbox hb; have n0_ := Aside0.mk (below_step (by repeat (first | (with_reducible first | exact HB.out | apply below_alloc | apply pw_below_drewN | apply below_drew1) | exact HB.out)) hb); have n1_ := Aside0.mk (hbox); have n2_ := Aside0.mk ((by rw [hg]; exact (below_size (by repeat (first | (with_reducible first | exact HB.out | apply below_alloc | apply pw_below_drewN | apply below_drew1) | exact HB.out))) : w.heap.size ≤ gb233)); have n3_ := Aside0.mk ((by rw [hg]; exact (below_size (by repeat (first | (with_reducible first | exact HB.out | apply below_alloc | apply pw_below_drewN | apply below_drew1) | exact HB.out))) : w.heap.size ≤ gb233)); clear HB; have HB := n0_; have BK233 := n1_; have GW233 := n2_; have GE233 := n3_; clear n0_ n1_ n2_ n3_; clear hb hbox hg) | ((with_reducible refine gate_dst (N := 2) rfl ?_); refine box_event ?hg (N := 2) ?hd (cs := #[.string (⟨#[]⟩ : ByteArray), .slice none 0 0]) (t := 58) ?hr ?_; (case hd => rfl); (case hg => rfl); (case hr => first | (go_simp; done) | (go_simp; rfl)); intro gb234 hg w3 hbox hb; have n0_ := Aside0.mk (blk_below (g := gb233) (o := .cells #[.string a0_0, .slice A0_1 l0_1.length c0_1] 49 (0, 0)) (by (with_reducible repeat (first | refine blk_drewN ?_ _ | refine blk_drew ?_ | refine blk_alloc ?_ _)); exact BK233.out) hb); have n1_ := Aside0.mk (below_step (by repeat (first | (with_reducible first | exact HB.out | apply below_alloc | apply pw_below_drewN | apply below_drew1 | refine below_set ?_ GE233.out) | exact HB.out)) hb); have n2_ := Aside0.mk (hbox); have n3_ := Aside0.mk ((by rw [hg]; exact (below_size (by repeat (first | (with_reducible first | exact HB.out | apply below_alloc | apply pw_below_drewN | apply below_drew1 | refine below_set ?_ GE233.out) | exact HB.out))) : w.heap.size ≤ gb234)); have n4_ := Aside0.mk ((by rw [hg]; exact (below_size (by repeat (first | (with_reducible first | exact HB.out | apply below_alloc | apply pw_below_drewN | apply below_drew1 | refine below_set ?_ GE233.out) | exact HB.out))) : w.heap.size ≤ gb234)); have n5_ := Aside0.mk ((by rw [hg]; exact Nat.ne_of_lt (blk_lt (g := gb233) (o := .cells #[.string a0_0, .slice A0_1 l0_1.length c0_1] 49 (0, 0)) (by (with_reducible repeat (first | refine blk_drewN ?_ _ | refine blk_drew ?_ | refine blk_alloc ?_ _)); exact BK233.out)) : gb233 ≠ gb234)); have n6_ := Aside0.mk ((by rw [hg]; exact Nat.ne_of_gt (blk_lt (g := gb233) (o := .cells #[.string a0_0, .slice A0_1 l0_1.length c0_1] 49 (0, 0)) (by (with_reducible repeat (first | refine blk_drewN ?_ _ | refine blk_drew ?_ | refine blk_alloc ?_ _)); exact BK233.out)) : gb234 ≠ gb233)); clear BK233; clear HB; have BK233 := n0_; have HB := n1_; have BK234 := n2_; have GW234 := n3_; have GE234 := n4_; have NB233_234 := n5_; have NB234_233 := n6_; clear n0_ n1_ n2_ n3_ n4_ n5_ n6_; clear hb hbox hg; have hnb4 := NB233_234.out; have hnc4 := NB234_233.out; have hcz5_0 : w3.cell? ⟨gb233, 0, none⟩ = some (.string a0_0) := (blk_cell BK233.out 0).trans rfl; have hcz5_1 : w3.cell? ⟨gb233, 1, none⟩ = some (.slice A0_1 l0_1.length c0_1) := (blk_cell BK233.out 1).trans rfl; have hfz5_0 := blk_frozen BK233.out 0; have hfz5_1 := blk_frozen BK233.out 1) | ((with_reducible refine gate_dst (N := 3) rfl ?_); refine box_event ?hg (N := 3) ?hd (cs := #[.string (⟨#[]⟩ : ByteArray), .slice none 0 0]) (t := 58) ?hr ?_; (case hd => rfl); (case hg => rfl); (case hr => first | (go_simp; done) | (go_simp; rfl)); intro gb235 hg w6 hbox hb; have n0_ := Aside0.mk (blk_below (g := gb233) (o := .cells #[.string a0_0, .slice A0_1 l0_1.length c0_1] 49 (0, 0)) (by (with_reducible repeat (first | refine blk_drewN ?_ _ | refine blk_drew ?_ | refine blk_alloc ?_ _)); exact BK233.out) hb); have n1_ := Aside0.mk (blk_below (g := gb234) (o := .cells #[.string (⟨#[]⟩ : ByteArray), .slice none 0 0] 58 (0, 0)) (by (with_reducible repeat (first | refine blk_drewN ?_ _ | refine blk_drew ?_ | refine blk_alloc ?_ _)); exact BK234.out) hb); have n2_ := Aside0.mk (below_step (by repeat (first | (with_reducible first | exact HB.out | apply below_alloc | apply pw_below_drewN | apply below_drew1 | refine below_set ?_ GE233.out | refine below_set ?_ GE234.out) | exact HB.out)) hb); have n3_ := Aside0.mk (hbox); have n4_ := Aside0.mk ((by rw [hg]; exact (below_size (by repeat (first | (with_reducible first | exact HB.out | apply below_alloc | apply pw_below_drewN | apply below_drew1 | refine below_set ?_ GE233.out | refine below_set ?_ GE234.out) | exact HB.out))) : w.heap.size ≤ gb235)); have n5_ := Aside0.mk ((by rw [hg]; exact (below_size (by repeat (first | (with_reducible first | exact HB.out | apply below_alloc | apply pw_below_drewN | apply below_drew1 | refine below_set ?_ GE233.out | refine below_set ?_ GE234.out) | exact HB.out))) : w.heap.size ≤ gb235)); have n6_ := Aside0.mk ((by rw [hg]; exact Nat.ne_of_lt (blk_lt (g := gb233) (o := .cells #[.string a0_0, .slice A0_1 l0_1.length c0_1] 49 (0, 0)) (by (with_reducible repeat (first | refine blk_drewN ?_ _ | refine blk_drew ?_ | refine blk_alloc ?_ _)); exact BK233.out)) : gb233 ≠ gb235)); have n7_ := Aside0.mk ((by rw [hg]; exact Nat.ne_of_gt (blk_lt (g := gb233) (o := .cells #[.string a0_0, .slice A0_1 l0_1.length c0_1] 49 (0, 0)) (by (with_reducible repeat (first | refine blk_drewN ?_ _ | refine blk_drew ?_ | refine blk_alloc ?_ _)); exact BK233.out)) : gb235 ≠ gb233)); have n8_ := Aside0.mk ((by rw [hg]; exact Nat.ne_of_lt (blk_lt (g := gb234) (o := .cells #[.string (⟨#[]⟩ : ByteArray), .slice none 0 0] 58 (0, 0)) (by (with_reducible repeat (first | refine blk_drewN ?_ _ | refine blk_drew ?_ | refine blk_alloc ?_ _)); exact BK234.out)) : gb234 ≠ gb235)); have n9_ := Aside0.mk ((by rw [hg]; exact Nat.ne_of_gt (blk_lt (g := gb234) (o := .cells #[.string (⟨#[]⟩ : ByteArray), .slice none 0 0] 58 (0, 0)) (by (with_reducible repeat (first | refine blk_drewN ?_ _ | refine blk_drew ?_ | refine blk_alloc ?_ _)); exact BK234.out)) : gb235 ≠ gb234)); clear BK233; clear BK234; clear HB; have BK233 := n0_; have BK234 := n1_; have HB := n2_; have BK235 := n3_; have GW235 := n4_; have GE235 := n5_; have NB233_235 := n6_; have NB235_233 := n7_; have NB234_235 := n8_; have NB235_234 := n9_; clear n0_ n1_ n2_ n3_ n4_ n5_ n6_ n7_ n8_ n9_; clear hb hbox hg; have hnb7 := NB235_233.out; have hnc7 := NB233_235.out; have hnb8 := NB235_234.out; have hnc8 := NB234_235.out; have hcz9_0 : w6.cell? ⟨gb235, 0, none⟩ = some (.string (⟨#[]⟩ : ByteArray)) := (blk_cell BK235.out 0).trans rfl; have hcz9_1 : w6.cell? ⟨gb235, 1, none⟩ = some (.slice none 0 0) := (blk_cell BK235.out 1).trans rfl; have hfz9_0 := blk_frozen BK235.out 0; have hfz9_1 := blk_frozen BK235.out 1; have hcz10_0 : w6.cell? ⟨gb233, 0, none⟩ = some (.string a0_0) := (blk_cell BK233.out 0).trans rfl; have hcz10_1 : w6.cell? ⟨gb233, 1, none⟩ = some (.slice A0_1 l0_1.length c0_1) := (blk_cell BK233.out 1).trans rfl; have hfz10_0 := blk_frozen BK233.out 0; have hfz10_1 := blk_frozen BK233.out 1))
  go_loopg [12] k (fun kq v12 w' => ∃ (x12_1 : Int) (x236001_1 : List ByteArray) (u236001 : Value), v12 = .int .i64 x12_1 ∧ Aside0 (laws_attribute.l0 kq l0_1 (l0_1.length : Int) x12_1 a0_0 x236001_1 = some (r1, r2)) ∧ Aside0 (kq ≤ k) ∧ Aside0 (Kd.R Kd.string 9 w' w.heap.size (fun _ => True) u236001 x236001_1) ∧ Aside0 (w'.heap[gb233]? = some (.cells #[.string a0_0, (.slice A0_1 l0_1.length c0_1)] 49 (0, 0))) ∧ Aside0 (w'.heap[gb234]? = some (.cells #[.string (⟨#[]⟩ : ByteArray), (.slice none 0 0)] 58 (0, 0))) ∧ Aside0 (w'.heap[gb235]? = some (.cells #[.string a0_0, u236001] 58 (0, 0))) ∧ Aside0 (Below w.heap.size w w'))
  case atStart => exact ⟨(0), (([] : List ByteArray)), (.slice none 0 0), (by first | rfl | (simp; done) | (simp [*]; done)), H', ⟨Nat.le_refl _⟩, ⟨by first | exact Kd.R_nil _ _ _ _ _ | exact Kd.N_nil _ _ _ _ _ | exact Kd.V_nil _ _ _ _ _ | exact Kd.Q_nil _ _ _ _ _ | exact Kd.S_nil _ _ _ _ _⟩, ⟨by (with_reducible repeat (first | refine blk_drewN ?_ _ | refine blk_drew ?_ | refine blk_alloc ?_ _)); refine blk_far ?_ NB233_235.out _; (with_reducible repeat (first | refine blk_drewN ?_ _ | refine blk_drew ?_ | refine blk_alloc ?_ _)); refine blk_far ?_ NB233_235.out _; (with_reducible repeat (first | refine blk_drewN ?_ _ | refine blk_drew ?_ | refine blk_alloc ?_ _)); exact BK233.out⟩, ⟨by (with_reducible repeat (first | refine blk_drewN ?_ _ | refine blk_drew ?_ | refine blk_alloc ?_ _)); refine blk_far ?_ NB234_235.out _; (with_reducible repeat (first | refine blk_drewN ?_ _ | refine blk_drew ?_ | refine blk_alloc ?_ _)); refine blk_far ?_ NB234_235.out _; (with_reducible repeat (first | refine blk_drewN ?_ _ | refine blk_drew ?_ | refine blk_alloc ?_ _)); exact BK234.out⟩, ⟨by (with_reducible repeat (first | refine blk_drewN ?_ _ | refine blk_drew ?_ | refine blk_alloc ?_ _)); refine blk_put (cs := #[.string a0_0, .slice none 0 0]) ?_ 1 _ rfl; (with_reducible repeat (first | refine blk_drewN ?_ _ | refine blk_drew ?_ | refine blk_alloc ?_ _)); refine blk_put (cs := #[.string (⟨#[]⟩ : ByteArray), .slice none 0 0]) ?_ 0 _ rfl; (with_reducible repeat (first | refine blk_drewN ?_ _ | refine blk_drew ?_ | refine blk_alloc ?_ _)); exact BK235.out⟩, ⟨by repeat (first | (with_reducible first | exact HB.out | apply below_alloc | apply pw_below_drewN | apply below_drew1 | refine below_set ?_ GE233.out | refine below_set ?_ GE234.out | refine below_set ?_ GE235.out) | exact HB.out)⟩⟩
  case round =>
    clear H'
    try clear p2
    try clear c4
    try clear c5
    try clear c7
    try clear c8
    try clear hcz10_0
    try clear hcz10_1
    try clear hcz5_0
    try clear hcz5_1
    try clear hcz9_0
    try clear hcz9_1
    try clear hfz10_0
    try clear hfz10_1
    try clear hfz5_0
    try clear hfz5_1
    try clear hfz9_0
    try clear hfz9_1
    obtain ⟨x12_1, x236001_1, u236001, rfl, HA, HK1, HO_236001, BK233, BK234, BK235, HB⟩ := hrel
    cases gk with
    | zero => exact absurd HA.out (by simp [laws_attribute.l0])
    | succ k1 =>
      have H := HA.out
      clear HA
      simp only [laws_attribute.l0] at H
      by_cases c11 : x12_1 < (l0_1.length : Int)
      · rw [if_pos c11] at H
        have c11b0 : decide (x12_1 < (l0_1.length : Int)) = true := decide_eq_true c11
        clear c11
        by_cases c12 : 0 ≤ x12_1
        · rw [if_pos c12] at H
          have c12b0 : decide (0 ≤ x12_1) = true := decide_eq_true c12
          clear c12
          by_cases c13 : x12_1 < (l0_1.length : Int)
          · rw [if_pos c13] at H
            have c13b0 : decide (x12_1 < (l0_1.length : Int)) = true := decide_eq_true c13
            clear c13
            by_cases c14 : x236001_1.length < 8796093022208
            · rw [if_pos c14] at H
              have LMc14 := Aside0.mk c14
              clear c14
              obtain ⟨y237, hy237⟩ : ∃ y_ : List ByteArray, y_ = (x236001_1 ++ [strOfNums (rd_L4 l0_1 x12_1)]) := ⟨_, rfl⟩
              replace H : (laws_attribute.l0 k1 l0_1 (l0_1.length : Int) (wrap64 (x12_1 + 1)) a0_0 y237) = some (r1, r2) := by first | (rw [hy237]; with_reducible exact H) | (have H2_ := (Option.bind_some _ _).symm.trans H; rw [hy237]; with_reducible exact H2_) | (have H2_ := (Option.bind_some _ _).symm.trans H; with_reducible exact H2_) | with_reducible exact H | (rw [hy237]; exact H) | exact H
              have Ny237 := Aside0.mk hy237
              clear hy237
              have H' := Aside0.mk H
              clear H
              have p236 : 0 ≤ (x12_1 : Int) := of_decide_eq_true (by first | (with_reducible assumption) | assumption)
              have q236 : x12_1 < (l0_1.length : Int) := of_decide_eq_true (by first | (with_reducible assumption) | assumption)
              obtain ⟨ad236, A236_0, c236_0, e236, hx236_0, hl236_0, hi236_0⟩ := at_L4 HR0_1.out x12_1 p236 q236
              cases e236
              replace hx236_0 := (HB.out.cell (World.block_lt_of_cell? w _ hx236_0)).trans hx236_0
              have HR236_0 := Aside0.mk hi236_0
              have HC236_0 := Aside0.mk hl236_0
              clear hi236_0 hl236_0
              replace p236 := eq_true p236
              replace q236 := eq_true q236
              have hnb15 := NB235_233.out
              have hnc15 := NB233_235.out
              have hnb16 := NB235_234.out
              have hnc16 := NB234_235.out
              have hcz17_0 : wr.cell? ⟨gb235, 0, none⟩ = some (.string a0_0) := (blk_cell BK235.out 0).trans rfl
              have hcz17_1 : wr.cell? ⟨gb235, 1, none⟩ = some (u236001) := (blk_cell BK235.out 1).trans rfl
              have hfz17_0 := blk_frozen BK235.out 0
              have hfz17_1 := blk_frozen BK235.out 1
              have hcv18 := Kd.C_string (P := Tryd.prog) (A := A236_0) (c := c236_0) Tryd.underlying24 Tryd.underlying5 Tryd.underlying9 (Kd.C_below HR236_0.out HB.out)
              go_wp2_with (first | ((with_reducible refine gate_builtin (b := .append) (xs := #[.tmp 17, .tmp 20]) rfl ?_); at_builtin; refine Kd.R_append Kd.string (w0 := w) w.heap.size rfl (.tmp 17) (.tmp 20) 56 9 (.string ⟨#[]⟩) 16 rfl Tryd.underlying56 info9 rfl (by decide) (by omega) u236001 x236001_1 (strOfNums (rd_L4 l0_1 x12_1)) [.string (strOfNums (rd_L4 l0_1 x12_1))] (fun _ => True) (fun _ => False) rfl rfl ?aP (fun _ hk => hk.elim) ?aF ?aO ?aB ?aS ?aL ?_; (case aP => exact rfl); (case aB => exact (by repeat (first | (with_reducible first | exact HB.out | apply below_alloc | apply pw_below_drewN | apply below_drew1 | refine below_set ?_ GE233.out | refine below_set ?_ GE234.out | refine below_set ?_ GE235.out) | exact HB.out))); (case aF => exact (fun _ _ => trivial)); (case aO => exact (by (with_reducible repeat (first | apply Kd.R_alloc | apply Kd.R_drewN | apply Kd.R_drew)); exact HO_236001.out)); (case aS => exact (below_size (by repeat (first | (with_reducible first | exact HB.out | apply below_alloc | apply pw_below_drewN | apply below_drew1 | refine below_set ?_ GE233.out | refine below_set ?_ GE234.out | refine below_set ?_ GE235.out) | exact HB.out)))); (case aL => have := LMc14.out; omega); intro v238 w19 ho hb hg hat; rw [← Ny237.out] at ho; have n0_ := Aside0.mk (blk_grown (g := gb233) (o := .cells #[.string a0_0, .slice (some ad236) l0_1.length c0_1] 49 (0, 0)) (by (with_reducible repeat (first | refine blk_drewN ?_ _ | refine blk_drew ?_ | refine blk_alloc ?_ _)); exact BK233.out) hg (Kd.R_ne HO_236001.out BK233.out (by decide))); have n1_ := Aside0.mk (blk_grown (g := gb234) (o := .cells #[.string (⟨#[]⟩ : ByteArray), .slice none 0 0] 58 (0, 0)) (by (with_reducible repeat (first | refine blk_drewN ?_ _ | refine blk_drew ?_ | refine blk_alloc ?_ _)); exact BK234.out) hg (Kd.R_ne HO_236001.out BK234.out (by decide))); have n2_ := Aside0.mk (blk_grown (g := gb235) (o := .cells #[.string a0_0, u236001] 58 (0, 0)) (by (with_reducible repeat (first | refine blk_drewN ?_ _ | refine blk_drew ?_ | refine blk_alloc ?_ _)); exact BK235.out) hg (Kd.R_ne HO_236001.out BK235.out (by decide))); have n3_ := Aside0.mk (hb); have n4_ := Aside0.mk (ho); clear BK233; clear BK234; clear BK235; clear HB; clear HO_236001; have BK233 := n0_; have BK234 := n1_; have BK235 := n2_; have HB := n3_; have HO239 := n4_; clear n0_ n1_ n2_ n3_ n4_; clear ho hb hg hat; obtain ⟨Ao20, co20, eo20⟩ := Kd.R_slice HO239.out; subst eo20; have hcz21_0 : w19.cell? ⟨gb235, 0, none⟩ = some (.string a0_0) := (blk_cell BK235.out 0).trans rfl; have hcz21_1 : w19.cell? ⟨gb235, 1, none⟩ = some (u236001) := (blk_cell BK235.out 1).trans rfl; have hfz21_0 := blk_frozen BK235.out 0; have hfz21_1 := blk_frozen BK235.out 1))
              go_roundg k1
              case measure => have := HK1.out; omega
              case rel => exact ⟨(wrap64 (x12_1 + 1)), (y237), (.slice Ao20 y237.length co20), (by first | rfl | (simp; done) | (simp [*]; done)), H', ⟨by have := HK1.out; omega⟩, ⟨by (with_reducible repeat (first | apply Kd.R_alloc | apply Kd.R_drewN | apply Kd.R_drew)); exact Kd.R_mono (Kd.R_far (p := ⟨gb235, 1, none⟩) (Kd.R_types HO239.out BK235.out (by decide)) (fun _ hk => hk.2) (.slice Ao20 y237.length co20)) (fun _ hk => trivial)⟩, ⟨by (with_reducible repeat (first | refine blk_drewN ?_ _ | refine blk_drew ?_ | refine blk_alloc ?_ _)); refine blk_far ?_ NB233_235.out _; (with_reducible repeat (first | refine blk_drewN ?_ _ | refine blk_drew ?_ | refine blk_alloc ?_ _)); exact BK233.out⟩, ⟨by (with_reducible repeat (first | refine blk_drewN ?_ _ | refine blk_drew ?_ | refine blk_alloc ?_ _)); refine blk_far ?_ NB234_235.out _; (with_reducible repeat (first | refine blk_drewN ?_ _ | refine blk_drew ?_ | refine blk_alloc ?_ _)); exact BK234.out⟩, ⟨by (with_reducible repeat (first | refine blk_drewN ?_ _ | refine blk_drew ?_ | refine blk_alloc ?_ _)); refine blk_put (cs := #[.string a0_0, u236001]) ?_ 1 _ rfl; (with_reducible repeat (first | refine blk_drewN ?_ _ | refine blk_drew ?_ | refine blk_alloc ?_ _)); exact BK235.out⟩, ⟨by repeat (first | (with_reducible first | exact HB.out | apply below_alloc | apply pw_below_drewN | apply below_drew1 | refine below_set ?_ GE233.out | refine below_set ?_ GE234.out | refine below_set ?_ GE235.out) | exact HB.out)⟩⟩
            · rw [if_neg c14] at H
              exact absurd H (by simp)
          · rw [if_neg c13] at H
            exact absurd H (by simp)
        · rw [if_neg c12] at H
          exact absurd H (by simp)
      · rw [if_neg c11] at H
        have c11b0 : decide (x12_1 < (l0_1.length : Int)) = false := decide_eq_false c11
        clear c11
        simp only [Option.some.injEq, Prod.mk.injEq] at H
        obtain ⟨rfl, rfl⟩ := H
        have hnb22 := NB235_233.out
        have hnc22 := NB233_235.out
        have hnb23 := NB235_234.out
        have hnc23 := NB234_235.out
        have hcz24_0 : wr.cell? ⟨gb235, 0, none⟩ = some (.string a0_0) := (blk_cell BK235.out 0).trans rfl
        have hcz24_1 : wr.cell? ⟨gb235, 1, none⟩ = some (u236001) := (blk_cell BK235.out 1).trans rfl
        have hfz24_0 := blk_frozen BK235.out 0
        have hfz24_1 := blk_frozen BK235.out 1
        have hnb25 := NB234_233.out
        have hnc25 := NB233_234.out
        have hcz26_0 : wr.cell? ⟨gb234, 0, none⟩ = some (.string (⟨#[]⟩ : ByteArray)) := (blk_cell BK234.out 0).trans rfl
        have hcz26_1 : wr.cell? ⟨gb234, 1, none⟩ = some (.slice none 0 0) := (blk_cell BK234.out 1).trans rfl
        have hfz26_0 := blk_frozen BK234.out 0
        have hfz26_1 := blk_frozen BK234.out 1
        obtain ⟨Ao27, co27, eo27⟩ := Kd.R_slice HO_236001.out
        subst eo27
        go_wp2
        refine bodyPost_ret (results_cell_row rfl _ _ gb234 58 #[.string a0_0, .slice Ao27 x236001_1.length co27] (0, 0) _ rfl (by (with_reducible repeat (first | refine blk_drewN ?_ _ | refine blk_drew ?_ | refine blk_alloc ?_ _)); refine blk_put (cs := #[.string a0_0, .slice none 0 0]) ?_ 1 _ rfl; (with_reducible repeat (first | refine blk_drewN ?_ _ | refine blk_drew ?_ | refine blk_alloc ?_ _)); refine blk_put (cs := #[.string (⟨#[]⟩ : ByteArray), .slice none 0 0]) ?_ 0 _ rfl; (with_reducible repeat (first | refine blk_drewN ?_ _ | refine blk_drew ?_ | refine blk_alloc ?_ _)); exact BK234.out) Tryd.underlying58 rfl (by kernel_rfl)) rfl ?_
        exact ⟨_, by first | rfl | (simp [errW_none, errW_some] <;> rfl) | (simp [*, errW_none, errW_some] <;> rfl), by (with_reducible repeat (first | apply Kd.R_alloc | apply Kd.R_drewN | apply Kd.R_drew)); exact Kd.R_mono (Kd.R_far (p := ⟨gb234, 1, none⟩) (Kd.R_far (p := ⟨gb234, 0, none⟩) (Kd.R_types HO_236001.out BK234.out (by decide)) (fun _ hk => hk.2) (.string a0_0)) (fun _ hk => hk.2) (.slice Ao27 x236001_1.length co27)) (fun _ hk => trivial), by repeat (first | (with_reducible first | exact HB.out | apply below_alloc | apply pw_below_drewN | apply below_drew1 | refine below_set ?_ GE233.out | refine below_set ?_ GE234.out | refine below_set ?_ GE235.out) | exact HB.out)⟩

/-! ### laws_attributes: function 22 -/
def laws_attributes.l0 : Nat → List (S49) → List (S58) → List (S49) → Int → Int → Option ((List (S58)) × Bool)
  | 0, _, _, _, _, _ => none
  | k + 1, x0, x4, x8, x9, x10 => if x10 < x9 then (if 0 ≤ x10 then (if x10 < (x8.length : Int) then ((laws_attribute.f k ((rd_T49 x8 x10).f0) ((rd_T49 x8 x10).f1)).bind fun bt242 => ((some (([bt242.1] : List ByteArray) : List ByteArray)).bind fun y247 => (if y247.length + bt242.2.length < 8796093022208 then ((laws_short.f k (y247 ++ bt242.2)).bind fun t253 => (if t253 = true then (if x4.length < 3518437208883 then (laws_attributes.l0 k x0 (x4 ++ [(⟨bt242.1, bt242.2⟩ : S58)]) x8 x9 (wrap64 (x10 + 1))) else (none)) else (some (([] : List (S58)), false)))) else (none)))) else (none)) else (none)) else (some (x4, decide ((x0.length : Int) ≤ 10)))
def laws_attributes.f (k : Nat) (l0 : List (S49)) : Option ((List (S58)) × Bool) := laws_attributes.l0 k l0 ([] : List (S58)) l0 (l0.length : Int) 0
theorem laws_attributes.mono_l : ∀ k, (∀ y0 y1 y2 y3 y4, LeO (laws_attributes.l0 k y0 y1 y2 y3 y4) (laws_attributes.l0 (k + 1) y0 y1 y2 y3 y4))
  | 0 => fun _ _ _ _ _ r h => by simp [laws_attributes.l0] at h
  | k + 1 => by
    have ih0 := laws_attributes.mono_l k
    · intro y0 y1 y2 y3 y4
      unfold laws_attributes.l0
      repeat' first
      | (with_reducible exact ih0 _ _ _ _ _)
      | (with_reducible exact laws_attribute.mono _ _ _)
      | (with_reducible exact laws_short.mono _ _)
      | (with_reducible exact LeO.refl _)
      | (with_reducible exact LeO.none _)
      | (with_reducible refine LeO.ite ?_ ?_)
      | (with_reducible refine LeO.bind ?_ (fun _ => ?_))
      | exact ih0 _ _ _ _ _
      | exact laws_attribute.mono _ _ _
      | exact laws_short.mono _ _
      | exact LeO.none _
      | refine LeO.ite ?_ ?_
      | refine LeO.bind ?_ (fun _ => ?_)
theorem laws_attributes.mono : ∀ a0 k, LeO (laws_attributes.f k a0) (laws_attributes.f (k + 1) a0) := by
  intro a0 k
  have ih0 := laws_attributes.mono_l k
  unfold laws_attributes.f
  repeat' first
      | (with_reducible exact ih0 _ _ _ _ _)
      | (with_reducible exact laws_attribute.mono _ _ _)
      | (with_reducible exact laws_short.mono _ _)
      | (with_reducible exact LeO.refl _)
      | (with_reducible exact LeO.none _)
      | (with_reducible refine LeO.ite ?_ ?_)
      | (with_reducible refine LeO.bind ?_ (fun _ => ?_))
      | exact ih0 _ _ _ _ _
      | exact laws_attribute.mono _ _ _
      | exact laws_short.mono _ _
      | exact LeO.none _
      | refine LeO.ite ?_ ?_
      | refine LeO.bind ?_ (fun _ => ?_)
set_option maxHeartbeats 8000000 in
set_option maxRecDepth 100000 in
theorem laws_attributes.calls (k : Nat) (A0 : Option Addr) (c0 : Nat) (l0 : List (S49)) (r1 : List (S58)) (r2 : Bool) (w : World) (hr0 : Kd.C k49 w A0 l0.length l0) (hc0 : l0.length ≤ c0) (h : laws_attributes.f k l0 = some (r1, r2)) :
    Calls Tryd.prog 22 #[.slice A0 l0.length c0] w fun e w' => ∃ v0_ : Value, e = .returned (.tuple #[v0_, .bool r2]) ∧ Kd.S k58 58 w' w.heap.size (fun _ => True) v0_ r1 ∧ Below w.heap.size w w' := by
  have hu49 := Tryd.underlying49
  have hu58 := Tryd.underlying58
  have HR0 := Aside0.mk hr0
  have HC0 := Aside0.mk hc0
  clear hr0 hc0
  have HB := Aside0.mk (Below.refl w.heap.size w)
  have H : (laws_attributes.l0 k l0 ([] : List (S58)) l0 (l0.length : Int) 0) = some (r1, r2) := h
  clear h
  have H' := Aside0.mk H
  clear H
  go_enter Tryd.func22, Tryd.ntmps22
  go_wp2
  go_loopg [4, 10] k (fun kq v4 v10 w' => ∃ (x4_1 : List (S58)) (x10_1 : Int), v10 = .int .i64 x10_1 ∧ Aside0 (laws_attributes.l0 kq l0 x4_1 l0 (l0.length : Int) x10_1 = some (r1, r2)) ∧ Aside0 (kq ≤ k) ∧ Aside0 (Kd.S k58 58 w' w.heap.size (fun _ => True) v4 x4_1) ∧ Aside0 (Below w.heap.size w w'))
  case atStart => exact ⟨(([] : List (S58))), (0), (by first | rfl | (simp; done) | (simp [*]; done)), H', ⟨Nat.le_refl _⟩, ⟨by first | exact Kd.S_nil _ _ _ _ _ | exact Kd.N_nil _ _ _ _ _ | exact Kd.V_nil _ _ _ _ _ | exact Kd.Q_nil _ _ _ _ _ | exact Kd.R_nil _ _ _ _ _⟩, ⟨by repeat (first | (with_reducible first | exact HB.out | apply below_alloc | apply pw_below_drewN | apply below_drew1) | exact HB.out)⟩⟩
  case round =>
    clear H'
    obtain ⟨x4_1, x10_1, rfl, HA, HK1, HO_4, HB⟩ := hrel
    cases gk with
    | zero => exact absurd HA.out (by simp [laws_attributes.l0])
    | succ k1 =>
      have H := HA.out
      clear HA
      simp only [laws_attributes.l0] at H
      by_cases c2 : x10_1 < (l0.length : Int)
      · rw [if_pos c2] at H
        have c2b0 : decide (x10_1 < (l0.length : Int)) = true := decide_eq_true c2
        clear c2
        by_cases c3 : 0 ≤ x10_1
        · rw [if_pos c3] at H
          have c3b0 : decide (0 ≤ x10_1) = true := decide_eq_true c3
          clear c3
          by_cases c4 : x10_1 < (l0.length : Int)
          · rw [if_pos c4] at H
            have c4b0 : decide (x10_1 < (l0.length : Int)) = true := decide_eq_true c4
            clear c4
            replace H := Option.bind_eq_some_iff.mp H
            obtain ⟨⟨t242, t243⟩, A50, H⟩ := H
            replace H : ((some (([t242] : List ByteArray) : List ByteArray)).bind fun y247 => (if y247.length + t243.length < 8796093022208 then ((laws_short.f k1 (y247 ++ t243)).bind fun t253 => (if t253 = true then (if x4_1.length < 3518437208883 then (laws_attributes.l0 k1 l0 (x4_1 ++ [(⟨t242, t243⟩ : S58)]) l0 (l0.length : Int) (wrap64 (x10_1 + 1))) else (none)) else (some (([] : List (S58)), false)))) else (none))) = some (r1, r2) := H
            have A5 := Aside0.mk A50
            clear A50
            obtain ⟨y247, hy247⟩ : ∃ y_ : List ByteArray, y_ = (([t242] : List ByteArray)) := ⟨_, rfl⟩
            replace H : (if y247.length + t243.length < 8796093022208 then ((laws_short.f k1 (y247 ++ t243)).bind fun t253 => (if t253 = true then (if x4_1.length < 3518437208883 then (laws_attributes.l0 k1 l0 (x4_1 ++ [(⟨t242, t243⟩ : S58)]) l0 (l0.length : Int) (wrap64 (x10_1 + 1))) else (none)) else (some (([] : List (S58)), false)))) else (none)) = some (r1, r2) := by first | (rw [hy247]; with_reducible exact H) | (have H2_ := (Option.bind_some _ _).symm.trans H; rw [hy247]; with_reducible exact H2_) | (have H2_ := (Option.bind_some _ _).symm.trans H; with_reducible exact H2_) | with_reducible exact H | (rw [hy247]; exact H) | exact H
            have Ny247 := Aside0.mk hy247
            clear hy247
            by_cases c6 : y247.length + t243.length < 8796093022208
            · rw [if_pos c6] at H
              have LMc6 := Aside0.mk c6
              clear c6
              obtain ⟨y250, hy250⟩ : ∃ y_ : List ByteArray, y_ = (y247 ++ t243) := ⟨_, rfl⟩
              replace H : ((laws_short.f k1 y250).bind fun t253 => (if t253 = true then (if x4_1.length < 3518437208883 then (laws_attributes.l0 k1 l0 (x4_1 ++ [(⟨t242, t243⟩ : S58)]) l0 (l0.length : Int) (wrap64 (x10_1 + 1))) else (none)) else (some (([] : List (S58)), false)))) = some (r1, r2) := by first | (rw [hy250]; with_reducible exact H) | (have H2_ := (Option.bind_some _ _).symm.trans H; rw [hy250]; with_reducible exact H2_) | (have H2_ := (Option.bind_some _ _).symm.trans H; with_reducible exact H2_) | with_reducible exact H | (rw [hy250]; exact H) | exact H
              have Ny250 := Aside0.mk hy250
              clear hy250
              replace H := Option.bind_eq_some_iff.mp H
              obtain ⟨t253, A70, H⟩ := H
              replace H : (if t253 = true then (if x4_1.length < 3518437208883 then (laws_attributes.l0 k1 l0 (x4_1 ++ [(⟨t242, t243⟩ : S58)]) l0 (l0.length : Int) (wrap64 (x10_1 + 1))) else (none)) else (some (([] : List (S58)), false))) = some (r1, r2) := H
              have A7 := Aside0.mk A70
              clear A70
              by_cases c8 : t253 = true
              · subst c8
                have H1 : (if x4_1.length < 3518437208883 then (laws_attributes.l0 k1 l0 (x4_1 ++ [(⟨t242, t243⟩ : S58)]) l0 (l0.length : Int) (wrap64 (x10_1 + 1))) else (none)) = some (r1, r2) := by rw [if_pos rfl] at H; exact H
                clear H
                have H := H1
                clear H1
                by_cases c9 : x4_1.length < 3518437208883
                · rw [if_pos c9] at H
                  have LMc9 := Aside0.mk c9
                  clear c9
                  obtain ⟨y254, hy254⟩ : ∃ y_ : List (S58), y_ = (x4_1 ++ [(⟨t242, t243⟩ : S58)]) := ⟨_, rfl⟩
                  replace H : (laws_attributes.l0 k1 l0 y254 l0 (l0.length : Int) (wrap64 (x10_1 + 1))) = some (r1, r2) := by first | (rw [hy254]; with_reducible exact H) | (have H2_ := (Option.bind_some _ _).symm.trans H; rw [hy254]; with_reducible exact H2_) | (have H2_ := (Option.bind_some _ _).symm.trans H; with_reducible exact H2_) | with_reducible exact H | (rw [hy254]; exact H) | exact H
                  have Ny254 := Aside0.mk hy254
                  clear hy254
                  have H' := Aside0.mk H
                  clear H
                  have p240 : 0 ≤ (x10_1 : Int) := of_decide_eq_true (by first | (with_reducible assumption) | assumption)
                  have q240 : x10_1 < (l0.length : Int) := of_decide_eq_true (by first | (with_reducible assumption) | assumption)
                  obtain ⟨ad240, A240_1, c240_1, e240, hx240_0, hx240_1, hl240_1, hi240_1⟩ := at_T49 HR0.out x10_1 p240 q240
                  cases e240
                  replace hx240_0 := (HB.out.cell (World.block_lt_of_cell? w _ hx240_0)).trans hx240_0
                  replace hx240_1 := (HB.out.cell (World.block_lt_of_cell? w _ hx240_1)).trans hx240_1
                  have HR240_1 := Aside0.mk hi240_1
                  have HC240_1 := Aside0.mk hl240_1
                  clear hi240_1 hl240_1
                  replace p240 := eq_true p240
                  replace q240 := eq_true q240
                  go_wp2_with (first | ((with_reducible refine gate_dst (N := 6) rfl ?_); refine box_event ?hg (N := 6) ?hd (cs := #[.string (⟨#[]⟩ : ByteArray), .slice none 0 0]) (t := 49) ?hr ?_; (case hd => rfl); (case hg => rfl); (case hr => first | (go_simp; done) | (go_simp; rfl)); intro gb241 hg w10 hbox hb; have n0_ := Aside0.mk (Kd.S_below (by (with_reducible repeat (first | apply Kd.S_alloc | apply Kd.S_drewN | apply Kd.S_drew)); exact HO_4.out) hb); have n1_ := Aside0.mk (below_step (by repeat (first | (with_reducible first | exact HB.out | apply below_alloc | apply pw_below_drewN | apply below_drew1) | exact HB.out)) hb); have n2_ := Aside0.mk (hbox); have n3_ := Aside0.mk ((by rw [hg]; exact (below_size (by repeat (first | (with_reducible first | exact HB.out | apply below_alloc | apply pw_below_drewN | apply below_drew1) | exact HB.out))) : w.heap.size ≤ gb241)); have n4_ := Aside0.mk ((by rw [hg]; exact (below_size (by repeat (first | (with_reducible first | exact HB.out | apply below_alloc | apply pw_below_drewN | apply below_drew1) | exact HB.out))) : w.heap.size ≤ gb241)); clear HO_4; clear HB; have HO_4 := n0_; have HB := n1_; have BK241 := n2_; have GW241 := n3_; have GE241 := n4_; clear n0_ n1_ n2_ n3_ n4_; clear hb hbox hg; have hcz11_0 : w10.cell? ⟨gb241, 0, none⟩ = some (.string (⟨#[]⟩ : ByteArray)) := (blk_cell BK241.out 0).trans rfl; have hcz11_1 : w10.cell? ⟨gb241, 1, none⟩ = some (.slice none 0 0) := (blk_cell BK241.out 1).trans rfl; have hfz11_0 := blk_frozen BK241.out 0; have hfz11_1 := blk_frozen BK241.out 1) | ((with_reducible refine gate_callee (f := 56) rfl ?_); refine goesL_ (some 15) rfl rfl Tryd.func56 (by kernel_rfl) rfl #[.agg #[.string ((rd_T49 l0 x10_1).f0), .slice A240_1 ((rd_T49 l0 x10_1).f1).length c240_1]] rfl (by (try simp only [List.map_toArray, List.map_cons, List.map_nil]); first | done | rfl | (simp only [List.length_drop, List.length_take]; rfl)) ?_; (with_reducible refine (laws_attribute.calls k1 ((rd_T49 l0 x10_1).f0) _ _ ((rd_T49 l0 x10_1).f1) t242 t243 _ ?side1 ?side2 A5.out).mono ?_); (case side1 => exact Kd.C_below HR240_1.out (by repeat (first | (with_reducible first | exact HB.out | apply below_alloc | apply pw_below_drewN | apply below_drew1 | refine below_set ?_ GE241.out) | exact HB.out))); (case side2 => exact HC240_1.out); rintro e w12 ⟨v244, rfl, ho0, hb⟩; refine ⟨_, rfl, ?_⟩; have n0_ := Aside0.mk (Kd.S_elder' (by (with_reducible repeat (first | apply Kd.S_alloc | apply Kd.S_drewN | apply Kd.S_drew)); exact (Kd.S_mono (Kd.S_far (p := ⟨gb241, 1, none⟩) (Kd.S_far (p := ⟨gb241, 0, none⟩) (Kd.S_types HO_4.out BK241.out (by decide)) (fun _ hk => hk.2) (.string ((rd_T49 l0 x10_1).f0))) (fun _ hk => hk.2) (.slice A240_1 ((rd_T49 l0 x10_1).f1).length c240_1)) (fun _ h_ => h_.1))) (Kd.R_base ho0) hb); have n1_ := Aside0.mk (Kd.R_lower ho0 (below_size (by repeat (first | (with_reducible first | exact HB.out | apply below_alloc | apply pw_below_drewN | apply below_drew1 | refine below_set ?_ GE241.out) | exact HB.out)))); have n2_ := Aside0.mk (blk_below (g := gb241) (o := .cells #[.string ((rd_T49 l0 x10_1).f0), .slice A240_1 ((rd_T49 l0 x10_1).f1).length c240_1] 49 (0, 0)) (by (with_reducible repeat (first | refine blk_drewN ?_ _ | refine blk_drew ?_ | refine blk_alloc ?_ _)); refine blk_put (cs := #[.string ((rd_T49 l0 x10_1).f0), .slice none 0 0]) ?_ 1 _ rfl; (with_reducible repeat (first | refine blk_drewN ?_ _ | refine blk_drew ?_ | refine blk_alloc ?_ _)); refine blk_put (cs := #[.string (⟨#[]⟩ : ByteArray), .slice none 0 0]) ?_ 0 _ rfl; (with_reducible repeat (first | refine blk_drewN ?_ _ | refine blk_drew ?_ | refine blk_alloc ?_ _)); exact BK241.out) hb); have n3_ := Aside0.mk (below_step (by repeat (first | (with_reducible first | exact HB.out | apply below_alloc | apply pw_below_drewN | apply below_drew1 | refine below_set ?_ GE241.out) | exact HB.out)) hb); clear HO_4; clear BK241; clear HB; have HO_4 := n0_; have HO245 := n1_; have BK241 := n2_; have HB := n3_; clear n0_ n1_ n2_ n3_; (try clear hb); (try clear hb2); (try clear hk); (try clear hi); (try clear ho0)) | ((with_reducible refine gate_dst (N := 7) rfl ?_); refine box_event ?hg (N := 7) ?hd (cs := #[.string (⟨#[]⟩ : ByteArray), .slice none 0 0]) (t := 58) ?hr ?_; (case hd => rfl); (case hg => rfl); (case hr => first | (go_simp; done) | (go_simp; rfl)); intro gb246 hg w13 hbox hb; have n0_ := Aside0.mk (Kd.S_below (Kd.S_elderB (by (with_reducible repeat (first | apply Kd.S_alloc | apply Kd.S_drewN | apply Kd.S_drew)); exact HO_4.out) gb246 (Nat.le_of_eq hg.symm)) hb); have n1_ := Aside0.mk (Kd.R_below (by (with_reducible repeat (first | apply Kd.R_alloc | apply Kd.R_drewN | apply Kd.R_drew)); exact HO245.out) hb); have n2_ := Aside0.mk (blk_below (g := gb241) (o := .cells #[.string ((rd_T49 l0 x10_1).f0), .slice A240_1 ((rd_T49 l0 x10_1).f1).length c240_1] 49 (0, 0)) (by (with_reducible repeat (first | refine blk_drewN ?_ _ | refine blk_drew ?_ | refine blk_alloc ?_ _)); exact BK241.out) hb); have n3_ := Aside0.mk (below_step (by repeat (first | (with_reducible first | exact HB.out | apply below_alloc | apply pw_below_drewN | apply below_drew1 | refine below_set ?_ GE241.out) | exact HB.out)) hb); have n4_ := Aside0.mk (hbox); have n5_ := Aside0.mk ((by rw [hg]; exact (below_size (by repeat (first | (with_reducible first | exact HB.out | apply below_alloc | apply pw_below_drewN | apply below_drew1 | refine below_set ?_ GE241.out) | exact HB.out))) : w.heap.size ≤ gb246)); have n6_ := Aside0.mk ((by rw [hg]; exact (below_size (by repeat (first | (with_reducible first | exact HB.out | apply below_alloc | apply pw_below_drewN | apply below_drew1 | refine below_set ?_ GE241.out) | exact HB.out))) : w.heap.size ≤ gb246)); have n7_ := Aside0.mk ((by rw [hg]; exact Nat.ne_of_lt (blk_lt (g := gb241) (o := .cells #[.string ((rd_T49 l0 x10_1).f0), .slice A240_1 ((rd_T49 l0 x10_1).f1).length c240_1] 49 (0, 0)) (by (with_reducible repeat (first | refine blk_drewN ?_ _ | refine blk_drew ?_ | refine blk_alloc ?_ _)); exact BK241.out)) : gb241 ≠ gb246)); have n8_ := Aside0.mk ((by rw [hg]; exact Nat.ne_of_gt (blk_lt (g := gb241) (o := .cells #[.string ((rd_T49 l0 x10_1).f0), .slice A240_1 ((rd_T49 l0 x10_1).f1).length c240_1] 49 (0, 0)) (by (with_reducible repeat (first | refine blk_drewN ?_ _ | refine blk_drew ?_ | refine blk_alloc ?_ _)); exact BK241.out)) : gb246 ≠ gb241)); clear HO_4; clear HO245; clear BK241; clear HB; have HO_4 := n0_; have HO245 := n1_; have BK241 := n2_; have HB := n3_; have BK246 := n4_; have GW246 := n5_; have GE246 := n6_; have NB241_246 := n7_; have NB246_241 := n8_; clear n0_ n1_ n2_ n3_ n4_ n5_ n6_ n7_ n8_; clear hb hbox hg; have hnb14 := NB246_241.out; have hnc14 := NB241_246.out; have hcz15_0 : w13.cell? ⟨gb246, 0, none⟩ = some (.string (⟨#[]⟩ : ByteArray)) := (blk_cell BK246.out 0).trans rfl; have hcz15_1 : w13.cell? ⟨gb246, 1, none⟩ = some (.slice none 0 0) := (blk_cell BK246.out 1).trans rfl; have hfz15_0 := blk_frozen BK246.out 0; have hfz15_1 := blk_frozen BK246.out 1; obtain ⟨Ao16, co16, eo16⟩ := Kd.R_slice HO245.out; subst eo16) | ((with_reducible refine gate_dst (N := 18) rfl ?_); refine Kd.R_lit Kd.string _ 9 ?hg (N := 18) ?hd (xs := ([t242] : List ByteArray)) (inner := [.string t242]) (ok := fun _ => True) (okp := fun _ => True) ?hr ?hp (fun _ hk => hk) trivial (Below.refl _ _) (Nat.le_refl _) (by simp) ?_; (case hd => rfl); (case hg => rfl); (case hr => first | (go_simp; done) | (go_simp; rfl)); (case hp => exact (Reps.one (show Kd.M Kd.string _ _ _ t242 [.string t242] from rfl) (Reps.none _ _))); intro v248 w17 ho18 hb hg_ hnew_; clear hg_ hnew_; (first | rw [← Ny247.out] at ho18 | (simp only [Int.reduceToNat] at ho18; rw [← Ny247.out] at ho18)); have n0_ := Aside0.mk (Kd.S_elder' (by (with_reducible repeat (first | apply Kd.S_alloc | apply Kd.S_drewN | apply Kd.S_drew)); exact (Kd.S_mono (Kd.S_far (p := ⟨gb246, 1, none⟩) (Kd.S_far (p := ⟨gb246, 0, none⟩) (Kd.S_mono HO_4.out (fun k_ hk => (⟨hk, hk.2⟩ : _ ∧ k_ ≠ gb246))) (fun _ hk => hk.2) (.string t242)) (fun _ hk => hk.2) (.slice Ao16 t243.length co16)) (fun _ h_ => h_.1))) (Kd.R_base ho18) hb); have n1_ := Aside0.mk (Kd.R_elder' (by (with_reducible repeat (first | apply Kd.R_alloc | apply Kd.R_drewN | apply Kd.R_drew)); exact (Kd.R_mono (Kd.R_far (p := ⟨gb246, 1, none⟩) (Kd.R_far (p := ⟨gb246, 0, none⟩) (Kd.R_types HO245.out BK246.out (by decide)) (fun _ hk => hk.2) (.string t242)) (fun _ hk => hk.2) (.slice Ao16 t243.length co16)) (fun _ h_ => h_.1))) (Kd.R_base ho18) hb); have n2_ := Aside0.mk (Kd.R_lower (Kd.R_new' ho18 (Kd.R_lt (by (with_reducible repeat (first | apply Kd.R_alloc | apply Kd.R_drewN | apply Kd.R_drew)); exact (Kd.R_mono (Kd.R_far (p := ⟨gb246, 1, none⟩) (Kd.R_far (p := ⟨gb246, 0, none⟩) (Kd.R_types HO245.out BK246.out (by decide)) (fun _ hk => hk.2) (.string t242)) (fun _ hk => hk.2) (.slice Ao16 t243.length co16)) (fun _ h_ => h_.1))))) (below_size (by repeat (first | (with_reducible first | exact HB.out | apply below_alloc | apply pw_below_drewN | apply below_drew1 | refine below_set ?_ GE241.out | refine below_set ?_ GE246.out) | exact HB.out)))); have n3_ := Aside0.mk (blk_below (g := gb241) (o := .cells #[.string ((rd_T49 l0 x10_1).f0), .slice A240_1 ((rd_T49 l0 x10_1).f1).length c240_1] 49 (0, 0)) (by (with_reducible repeat (first | refine blk_drewN ?_ _ | refine blk_drew ?_ | refine blk_alloc ?_ _)); refine blk_far ?_ NB241_246.out _; (with_reducible repeat (first | refine blk_drewN ?_ _ | refine blk_drew ?_ | refine blk_alloc ?_ _)); refine blk_far ?_ NB241_246.out _; (with_reducible repeat (first | refine blk_drewN ?_ _ | refine blk_drew ?_ | refine blk_alloc ?_ _)); exact BK241.out) hb); have n4_ := Aside0.mk (blk_below (g := gb246) (o := .cells #[.string t242, .slice Ao16 t243.length co16] 58 (0, 0)) (by (with_reducible repeat (first | refine blk_drewN ?_ _ | refine blk_drew ?_ | refine blk_alloc ?_ _)); refine blk_put (cs := #[.string t242, .slice none 0 0]) ?_ 1 _ rfl; (with_reducible repeat (first | refine blk_drewN ?_ _ | refine blk_drew ?_ | refine blk_alloc ?_ _)); refine blk_put (cs := #[.string (⟨#[]⟩ : ByteArray), .slice none 0 0]) ?_ 0 _ rfl; (with_reducible repeat (first | refine blk_drewN ?_ _ | refine blk_drew ?_ | refine blk_alloc ?_ _)); exact BK246.out) hb); have n5_ := Aside0.mk (below_step (by repeat (first | (with_reducible first | exact HB.out | apply below_alloc | apply pw_below_drewN | apply below_drew1 | refine below_set ?_ GE241.out | refine below_set ?_ GE246.out) | exact HB.out)) hb); clear HO_4; clear HO245; clear BK241; clear BK246; clear HB; have HO_4 := n0_; have HO245 := n1_; have HO249 := n2_; have BK241 := n3_; have BK246 := n4_; have HB := n5_; clear n0_ n1_ n2_ n3_ n4_ n5_; clear hb ho18; have hcz19_0 : w17.cell? ⟨gb246, 0, none⟩ = some (.string t242) := (blk_cell BK246.out 0).trans rfl; have hcz19_1 : w17.cell? ⟨gb246, 1, none⟩ = some (.slice Ao16 t243.length co16) := (blk_cell BK246.out 1).trans rfl; have hfz19_0 := blk_frozen BK246.out 0; have hfz19_1 := blk_frozen BK246.out 1) | ((with_reducible refine gate_builtin (b := .append) (xs := #[.tmp 18, .tmp 20]) rfl ?_); at_builtin; refine Kd.R_append_rows Kd.string (w0 := w) w.heap.size rfl (.tmp 18) (.tmp 20) 56 9 (.string ⟨#[]⟩) 16 rfl Tryd.underlying56 info9 rfl (by decide) (by omega) v248 y247 t243 _ _ _ (fun k_ => some k_ ≠ (.slice Ao16 t243.length co16 : Value).ownBlock) (fun _ => False) rfl rfl ?aO ?aR (fun _ _ h => h) (fun _ h => h.elim) ?aF ?aB ?aS ?aL ?_; (case aR => repeat (first | exact (Kd.R_reads' HO245.out).2.2 | (with_reducible refine Kd.C_alloc ?_ _) | (with_reducible refine Kd.C_drewN ?_ _) | (with_reducible refine Kd.C_drew ?_))); (case aB => exact (by repeat (first | (with_reducible first | exact HB.out | apply below_alloc | apply pw_below_drewN | apply below_drew1 | refine below_set ?_ GE241.out | refine below_set ?_ GE246.out) | exact HB.out))); (case aF => exact (fun k_ hk => Kd.fresh' (Kd.R_lt (by (with_reducible repeat (first | apply Kd.R_alloc | apply Kd.R_drewN | apply Kd.R_drew)); exact HO245.out)) k_ hk)); (case aO => exact (by (with_reducible repeat (first | apply Kd.R_alloc | apply Kd.R_drewN | apply Kd.R_drew)); exact Kd.R_mono HO249.out (fun _ hk => hk.2))); (case aS => exact (below_size (by repeat (first | (with_reducible first | exact HB.out | apply below_alloc | apply pw_below_drewN | apply below_drew1 | refine below_set ?_ GE241.out | refine below_set ?_ GE246.out) | exact HB.out)))); (case aL => have := LMc6.out; omega); intro v251 w20 ho hb hg hat; rw [← Ny250.out] at ho; have n0_ := Aside0.mk (Kd.S_after (ok := (fun k_ => some k_ ≠ (.slice Ao16 t243.length co16 : Value).ownBlock ∧ k_ ≠ gb246)) (by (with_reducible repeat (first | apply Kd.S_alloc | apply Kd.S_drewN | apply Kd.S_drew)); exact Kd.S_mono HO_4.out (fun _ hk => ⟨⟨hk.1.1.2, hk.1.2⟩, hk.2⟩)) hg hat); have n1_ := Aside0.mk (blk_grown (g := gb241) (o := .cells #[.string ((rd_T49 l0 x10_1).f0), .slice A240_1 ((rd_T49 l0 x10_1).f1).length c240_1] 49 (0, 0)) (by (with_reducible repeat (first | refine blk_drewN ?_ _ | refine blk_drew ?_ | refine blk_alloc ?_ _)); exact BK241.out) hg (Kd.R_ne HO249.out BK241.out (by decide))); have n2_ := Aside0.mk (Kd.R_after (ok := (fun _ => True)) (by (with_reducible repeat (first | apply Kd.R_alloc | apply Kd.R_drewN | apply Kd.R_drew)); exact HO245.out) hg hat); have n3_ := Aside0.mk (blk_grown (g := gb246) (o := .cells #[.string t242, .slice Ao16 t243.length co16] 58 (0, 0)) (by (with_reducible repeat (first | refine blk_drewN ?_ _ | refine blk_drew ?_ | refine blk_alloc ?_ _)); exact BK246.out) hg (Kd.R_ne HO249.out BK246.out (by decide))); have n4_ := Aside0.mk (hb); have n5_ := Aside0.mk (ho); clear HO_4; clear BK241; clear HO245; clear BK246; clear HB; clear HO249; have HO_4 := n0_; have BK241 := n1_; have HO245 := n2_; have BK246 := n3_; have HB := n4_; have HO252 := n5_; clear n0_ n1_ n2_ n3_ n4_ n5_; clear ho hb hg hat; obtain ⟨Ao21, co21, eo21⟩ := Kd.R_slice HO252.out; subst eo21) | ((with_reducible refine gate_callee (f := 10) rfl ?_); refine goesL_ (some 22) rfl rfl Tryd.func10 (by kernel_rfl) rfl #[.slice Ao21 y250.length co21] rfl (by (try simp only [List.map_toArray, List.map_cons, List.map_nil]); first | done | rfl | (simp only [List.length_drop, List.length_take]; rfl)) ?_; (with_reducible refine (laws_short.calls k1 _ _ y250 true _ ?side1 ?side2 A7.out).mono ?_); (case side1 => repeat (first | exact (Kd.R_reads' HO252.out).2.2 | (with_reducible refine Kd.C_alloc ?_ _) | (with_reducible refine Kd.C_drewN ?_ _) | (with_reducible refine Kd.C_drew ?_))); (case side2 => exact (Kd.R_reads' HO252.out).2.1); rintro e w' ⟨rfl, ⟨nd, rfl⟩⟩; refine ⟨_, rfl, ?_⟩; have hcz22_0 : w20.cell? ⟨gb246, 0, none⟩ = some (.string t242) := (blk_cell BK246.out 0).trans rfl; have hcz22_1 : w20.cell? ⟨gb246, 1, none⟩ = some (.slice Ao16 t243.length co16) := (blk_cell BK246.out 1).trans rfl; have hfz22_0 := blk_frozen BK246.out 0; have hfz22_1 := blk_frozen BK246.out 1) | ((with_reducible refine gate_builtin (b := .append) (xs := #[.tmp 24, .tmp 26]) rfl ?_); at_builtin; refine Kd.S_append k58 (w0 := w) w.heap.size rfl (.tmp 24) (.tmp 26) 52 58 (.agg #[(.string ⟨#[]⟩), (.slice none 0 0)]) 40 rfl Tryd.underlying52 info58 rfl (by decide) (by omega) u4 x4_1 (⟨t242, t243⟩ : S58) [.string t242, .slice Ao16 t243.length co16] (fun k_ => some k_ ≠ (.slice Ao21 y250.length co21 : Value).ownBlock ∧ k_ ≠ gb246) (fun k_ => some k_ = (.slice Ao16 t243.length co16 : Value).ownBlock) rfl rfl ?aP (fun k_ hk_ => ((Kd.R_mono (ok' := fun k_ => ((fun k_ => some k_ ≠ (.slice Ao21 y250.length co21 : Value).ownBlock ∧ k_ ≠ gb246)) k_ ∧ some k_ ≠ (u4 : Value).ownBlock) (Kd.R_types (Kd.R_apart' (HO245.out) (Kd.S_typed HO_4.out) (by decide)) BK246.out (by decide)) (fun k_ hk => ⟨⟨hk.1.1.2, hk.2⟩, hk.1.2⟩))).1 k_ hk_.symm) ?aF ?aO ?aB ?aS ?aL ?_; (case aP => exact k58_mkM _ _ _ (⟨t242, t243⟩ : S58) (Kd.R_mono (Kd.R_tight rfl (Kd.R_mono (ok' := fun k_ => ((fun k_ => some k_ ≠ (.slice Ao21 y250.length co21 : Value).ownBlock ∧ k_ ≠ gb246)) k_ ∧ some k_ ≠ (u4 : Value).ownBlock) (Kd.R_types (Kd.R_apart' (HO245.out) (Kd.S_typed HO_4.out) (by decide)) BK246.out (by decide)) (fun k_ hk => ⟨⟨hk.1.1.2, hk.2⟩, hk.1.2⟩))) (fun _ h_ => h_))); (case aB => exact (by repeat (first | (with_reducible first | exact HB.out | apply below_alloc | apply pw_below_drewN | apply below_drew1 | refine below_set ?_ GE241.out | refine below_set ?_ GE246.out) | exact HB.out))); (case aF => exact (fun k_ hk => ⟨Kd.fresh' (Kd.R_lt (by (with_reducible repeat (first | apply Kd.R_alloc | apply Kd.R_drewN | apply Kd.R_drew)); exact HO252.out)) k_ hk, Kd.freshB (g := gb246) (o := .cells #[.string t242, .slice Ao16 t243.length co16] 58 (0, 0)) (by (with_reducible repeat (first | refine blk_drewN ?_ _ | refine blk_drew ?_ | refine blk_alloc ?_ _)); exact BK246.out) k_ hk⟩)); (case aO => exact (by (with_reducible repeat (first | apply Kd.S_alloc | apply Kd.S_drewN | apply Kd.S_drew)); exact Kd.S_mono HO_4.out (fun k_ hk => ⟨⟨hk.2, hk.1.2⟩, fun e_ => hk.1.1 e_⟩))); (case aS => exact (below_size (by repeat (first | (with_reducible first | exact HB.out | apply below_alloc | apply pw_below_drewN | apply below_drew1 | refine below_set ?_ GE241.out | refine below_set ?_ GE246.out) | exact HB.out)))); (case aL => have := LMc9.out; omega); intro v255 w23 ho hb hg hat; rw [← Ny254.out] at ho; have n0_ := Aside0.mk (blk_grown (g := gb241) (o := .cells #[.string ((rd_T49 l0 x10_1).f0), .slice A240_1 ((rd_T49 l0 x10_1).f1).length c240_1] 49 (0, 0)) (by (with_reducible repeat (first | refine blk_drewN ?_ _ | refine blk_drew ?_ | refine blk_alloc ?_ _)); exact BK241.out) hg (Kd.S_ne HO_4.out BK241.out (by decide))); have n1_ := Aside0.mk (blk_grown (g := gb246) (o := .cells #[.string t242, .slice Ao16 t243.length co16] 58 (0, 0)) (by (with_reducible repeat (first | refine blk_drewN ?_ _ | refine blk_drew ?_ | refine blk_alloc ?_ _)); exact BK246.out) hg (Kd.S_away HO_4.out (fun _ hk => hk.1.2))); have n2_ := Aside0.mk (Kd.R_over' (by (with_reducible repeat (first | apply Kd.R_alloc | apply Kd.R_drewN | apply Kd.R_drew)); exact HO252.out) (Kd.S_typed (by (with_reducible repeat (first | apply Kd.S_alloc | apply Kd.S_drewN | apply Kd.S_drew)); exact HO_4.out)) (by decide) hg); have n3_ := Aside0.mk (hb); have n4_ := Aside0.mk (ho); clear BK241; clear BK246; clear HO252; clear HB; clear HO_4; clear HO245; have BK241 := n0_; have BK246 := n1_; have HO252 := n2_; have HB := n3_; have HO256 := n4_; clear n0_ n1_ n2_ n3_ n4_; clear ho hb hg hat))
                  go_roundg k1
                  case measure => have := HK1.out; omega
                  case rel => exact ⟨(y254), (wrap64 (x10_1 + 1)), (by first | rfl | (simp; done) | (simp [*]; done)), H', ⟨by have := HK1.out; omega⟩, ⟨by (with_reducible repeat (first | apply Kd.S_alloc | apply Kd.S_drewN | apply Kd.S_drew)); exact Kd.S_mono HO256.out (fun _ hk => trivial)⟩, ⟨by repeat (first | (with_reducible first | exact HB.out | apply below_alloc | apply pw_below_drewN | apply below_drew1 | refine below_set ?_ GE241.out | refine below_set ?_ GE246.out) | exact HB.out)⟩⟩
                · rw [if_neg c9] at H
                  exact absurd H (by simp)
              · replace c8 := Bool.eq_false_iff.mpr c8
                subst c8
                have H1 : (some (([] : List (S58)), false)) = some (r1, r2) := by rw [if_neg (show ¬ (false = true) by decide)] at H; exact H
                clear H
                have H := H1
                clear H1
                simp only [Option.some.injEq, Prod.mk.injEq] at H
                obtain ⟨rfl, rfl⟩ := H
                have p240 : 0 ≤ (x10_1 : Int) := of_decide_eq_true (by first | (with_reducible assumption) | assumption)
                have q240 : x10_1 < (l0.length : Int) := of_decide_eq_true (by first | (with_reducible assumption) | assumption)
                obtain ⟨ad240, A240_1, c240_1, e240, hx240_0, hx240_1, hl240_1, hi240_1⟩ := at_T49 HR0.out x10_1 p240 q240
                cases e240
                replace hx240_0 := (HB.out.cell (World.block_lt_of_cell? w _ hx240_0)).trans hx240_0
                replace hx240_1 := (HB.out.cell (World.block_lt_of_cell? w _ hx240_1)).trans hx240_1
                have HR240_1 := Aside0.mk hi240_1
                have HC240_1 := Aside0.mk hl240_1
                clear hi240_1 hl240_1
                replace p240 := eq_true p240
                replace q240 := eq_true q240
                go_wp2_with (first | ((with_reducible refine gate_dst (N := 6) rfl ?_); refine box_event ?hg (N := 6) ?hd (cs := #[.string (⟨#[]⟩ : ByteArray), .slice none 0 0]) (t := 49) ?hr ?_; (case hd => rfl); (case hg => rfl); (case hr => first | (go_simp; done) | (go_simp; rfl)); intro gb241 hg w24 hbox hb; have n0_ := Aside0.mk (Kd.S_below (by (with_reducible repeat (first | apply Kd.S_alloc | apply Kd.S_drewN | apply Kd.S_drew)); exact HO_4.out) hb); have n1_ := Aside0.mk (below_step (by repeat (first | (with_reducible first | exact HB.out | apply below_alloc | apply pw_below_drewN | apply below_drew1) | exact HB.out)) hb); have n2_ := Aside0.mk (hbox); have n3_ := Aside0.mk ((by rw [hg]; exact (below_size (by repeat (first | (with_reducible first | exact HB.out | apply below_alloc | apply pw_below_drewN | apply below_drew1) | exact HB.out))) : w.heap.size ≤ gb241)); have n4_ := Aside0.mk ((by rw [hg]; exact (below_size (by repeat (first | (with_reducible first | exact HB.out | apply below_alloc | apply pw_below_drewN | apply below_drew1) | exact HB.out))) : w.heap.size ≤ gb241)); clear HO_4; clear HB; have HO_4 := n0_; have HB := n1_; have BK241 := n2_; have GW241 := n3_; have GE241 := n4_; clear n0_ n1_ n2_ n3_ n4_; clear hb hbox hg; have hcz25_0 : w24.cell? ⟨gb241, 0, none⟩ = some (.string (⟨#[]⟩ : ByteArray)) := (blk_cell BK241.out 0).trans rfl; have hcz25_1 : w24.cell? ⟨gb241, 1, none⟩ = some (.slice none 0 0) := (blk_cell BK241.out 1).trans rfl; have hfz25_0 := blk_frozen BK241.out 0; have hfz25_1 := blk_frozen BK241.out 1) | ((with_reducible refine gate_callee (f := 56) rfl ?_); refine goesL_ (some 15) rfl rfl Tryd.func56 (by kernel_rfl) rfl #[.agg #[.string ((rd_T49 l0 x10_1).f0), .slice A240_1 ((rd_T49 l0 x10_1).f1).length c240_1]] rfl (by (try simp only [List.map_toArray, List.map_cons, List.map_nil]); first | done | rfl | (simp only [List.length_drop, List.length_take]; rfl)) ?_; (with_reducible refine (laws_attribute.calls k1 ((rd_T49 l0 x10_1).f0) _ _ ((rd_T49 l0 x10_1).f1) t242 t243 _ ?side1 ?side2 A5.out).mono ?_); (case side1 => exact Kd.C_below HR240_1.out (by repeat (first | (with_reducible first | exact HB.out | apply below_alloc | apply pw_below_drewN | apply below_drew1 | refine below_set ?_ GE241.out) | exact HB.out))); (case side2 => exact HC240_1.out); rintro e w26 ⟨v244, rfl, ho0, hb⟩; refine ⟨_, rfl, ?_⟩; have n0_ := Aside0.mk (Kd.S_elder' (by (with_reducible repeat (first | apply Kd.S_alloc | apply Kd.S_drewN | apply Kd.S_drew)); exact (Kd.S_mono (Kd.S_far (p := ⟨gb241, 1, none⟩) (Kd.S_far (p := ⟨gb241, 0, none⟩) (Kd.S_types HO_4.out BK241.out (by decide)) (fun _ hk => hk.2) (.string ((rd_T49 l0 x10_1).f0))) (fun _ hk => hk.2) (.slice A240_1 ((rd_T49 l0 x10_1).f1).length c240_1)) (fun _ h_ => h_.1))) (Kd.R_base ho0) hb); have n1_ := Aside0.mk (Kd.R_lower ho0 (below_size (by repeat (first | (with_reducible first | exact HB.out | apply below_alloc | apply pw_below_drewN | apply below_drew1 | refine below_set ?_ GE241.out) | exact HB.out)))); have n2_ := Aside0.mk (blk_below (g := gb241) (o := .cells #[.string ((rd_T49 l0 x10_1).f0), .slice A240_1 ((rd_T49 l0 x10_1).f1).length c240_1] 49 (0, 0)) (by (with_reducible repeat (first | refine blk_drewN ?_ _ | refine blk_drew ?_ | refine blk_alloc ?_ _)); refine blk_put (cs := #[.string ((rd_T49 l0 x10_1).f0), .slice none 0 0]) ?_ 1 _ rfl; (with_reducible repeat (first | refine blk_drewN ?_ _ | refine blk_drew ?_ | refine blk_alloc ?_ _)); refine blk_put (cs := #[.string (⟨#[]⟩ : ByteArray), .slice none 0 0]) ?_ 0 _ rfl; (with_reducible repeat (first | refine blk_drewN ?_ _ | refine blk_drew ?_ | refine blk_alloc ?_ _)); exact BK241.out) hb); have n3_ := Aside0.mk (below_step (by repeat (first | (with_reducible first | exact HB.out | apply below_alloc | apply pw_below_drewN | apply below_drew1 | refine below_set ?_ GE241.out) | exact HB.out)) hb); clear HO_4; clear BK241; clear HB; have HO_4 := n0_; have HO245 := n1_; have BK241 := n2_; have HB := n3_; clear n0_ n1_ n2_ n3_; (try clear hb); (try clear hb2); (try clear hk); (try clear hi); (try clear ho0)) | ((with_reducible refine gate_dst (N := 7) rfl ?_); refine box_event ?hg (N := 7) ?hd (cs := #[.string (⟨#[]⟩ : ByteArray), .slice none 0 0]) (t := 58) ?hr ?_; (case hd => rfl); (case hg => rfl); (case hr => first | (go_simp; done) | (go_simp; rfl)); intro gb246 hg w27 hbox hb; have n0_ := Aside0.mk (Kd.S_below (Kd.S_elderB (by (with_reducible repeat (first | apply Kd.S_alloc | apply Kd.S_drewN | apply Kd.S_drew)); exact HO_4.out) gb246 (Nat.le_of_eq hg.symm)) hb); have n1_ := Aside0.mk (Kd.R_below (by (with_reducible repeat (first | apply Kd.R_alloc | apply Kd.R_drewN | apply Kd.R_drew)); exact HO245.out) hb); have n2_ := Aside0.mk (blk_below (g := gb241) (o := .cells #[.string ((rd_T49 l0 x10_1).f0), .slice A240_1 ((rd_T49 l0 x10_1).f1).length c240_1] 49 (0, 0)) (by (with_reducible repeat (first | refine blk_drewN ?_ _ | refine blk_drew ?_ | refine blk_alloc ?_ _)); exact BK241.out) hb); have n3_ := Aside0.mk (below_step (by repeat (first | (with_reducible first | exact HB.out | apply below_alloc | apply pw_below_drewN | apply below_drew1 | refine below_set ?_ GE241.out) | exact HB.out)) hb); have n4_ := Aside0.mk (hbox); have n5_ := Aside0.mk ((by rw [hg]; exact (below_size (by repeat (first | (with_reducible first | exact HB.out | apply below_alloc | apply pw_below_drewN | apply below_drew1 | refine below_set ?_ GE241.out) | exact HB.out))) : w.heap.size ≤ gb246)); have n6_ := Aside0.mk ((by rw [hg]; exact (below_size (by repeat (first | (with_reducible first | exact HB.out | apply below_alloc | apply pw_below_drewN | apply below_drew1 | refine below_set ?_ GE241.out) | exact HB.out))) : w.heap.size ≤ gb246)); have n7_ := Aside0.mk ((by rw [hg]; exact Nat.ne_of_lt (blk_lt (g := gb241) (o := .cells #[.string ((rd_T49 l0 x10_1).f0), .slice A240_1 ((rd_T49 l0 x10_1).f1).length c240_1] 49 (0, 0)) (by (with_reducible repeat (first | refine blk_drewN ?_ _ | refine blk_drew ?_ | refine blk_alloc ?_ _)); exact BK241.out)) : gb241 ≠ gb246)); have n8_ := Aside0.mk ((by rw [hg]; exact Nat.ne_of_gt (blk_lt (g := gb241) (o := .cells #[.string ((rd_T49 l0 x10_1).f0), .slice A240_1 ((rd_T49 l0 x10_1).f1).length c240_1] 49 (0, 0)) (by (with_reducible repeat (first | refine blk_drewN ?_ _ | refine blk_drew ?_ | refine blk_alloc ?_ _)); exact BK241.out)) : gb246 ≠ gb241)); clear HO_4; clear HO245; clear BK241; clear HB; have HO_4 := n0_; have HO245 := n1_; have BK241 := n2_; have HB := n3_; have BK246 := n4_; have GW246 := n5_; have GE246 := n6_; have NB241_246 := n7_; have NB246_241 := n8_; clear n0_ n1_ n2_ n3_ n4_ n5_ n6_ n7_ n8_; clear hb hbox hg; have hnb28 := NB246_241.out; have hnc28 := NB241_246.out; have hcz29_0 : w27.cell? ⟨gb246, 0, none⟩ = some (.string (⟨#[]⟩ : ByteArray)) := (blk_cell BK246.out 0).trans rfl; have hcz29_1 : w27.cell? ⟨gb246, 1, none⟩ = some (.slice none 0 0) := (blk_cell BK246.out 1).trans rfl; have hfz29_0 := blk_frozen BK246.out 0; have hfz29_1 := blk_frozen BK246.out 1; obtain ⟨Ao30, co30, eo30⟩ := Kd.R_slice HO245.out; subst eo30) | ((with_reducible refine gate_dst (N := 18) rfl ?_); refine Kd.R_lit Kd.string _ 9 ?hg (N := 18) ?hd (xs := ([t242] : List ByteArray)) (inner := [.string t242]) (ok := fun _ => True) (okp := fun _ => True) ?hr ?hp (fun _ hk => hk) trivial (Below.refl _ _) (Nat.le_refl _) (by simp) ?_; (case hd => rfl); (case hg => rfl); (case hr => first | (go_simp; done) | (go_simp; rfl)); (case hp => exact (Reps.one (show Kd.M Kd.string _ _ _ t242 [.string t242] from rfl) (Reps.none _ _))); intro v248 w31 ho32 hb hg_ hnew_; clear hg_ hnew_; (first | rw [← Ny247.out] at ho32 | (simp only [Int.reduceToNat] at ho32; rw [← Ny247.out] at ho32)); have n0_ := Aside0.mk (Kd.S_elder' (by (with_reducible repeat (first | apply Kd.S_alloc | apply Kd.S_drewN | apply Kd.S_drew)); exact (Kd.S_mono (Kd.S_far (p := ⟨gb246, 1, none⟩) (Kd.S_far (p := ⟨gb246, 0, none⟩) (Kd.S_mono HO_4.out (fun k_ hk => (⟨hk, hk.2⟩ : _ ∧ k_ ≠ gb246))) (fun _ hk => hk.2) (.string t242)) (fun _ hk => hk.2) (.slice Ao30 t243.length co30)) (fun _ h_ => h_.1))) (Kd.R_base ho32) hb); have n1_ := Aside0.mk (Kd.R_elder' (by (with_reducible repeat (first | apply Kd.R_alloc | apply Kd.R_drewN | apply Kd.R_drew)); exact (Kd.R_mono (Kd.R_far (p := ⟨gb246, 1, none⟩) (Kd.R_far (p := ⟨gb246, 0, none⟩) (Kd.R_types HO245.out BK246.out (by decide)) (fun _ hk => hk.2) (.string t242)) (fun _ hk => hk.2) (.slice Ao30 t243.length co30)) (fun _ h_ => h_.1))) (Kd.R_base ho32) hb); have n2_ := Aside0.mk (Kd.R_lower (Kd.R_new' ho32 (Kd.R_lt (by (with_reducible repeat (first | apply Kd.R_alloc | apply Kd.R_drewN | apply Kd.R_drew)); exact (Kd.R_mono (Kd.R_far (p := ⟨gb246, 1, none⟩) (Kd.R_far (p := ⟨gb246, 0, none⟩) (Kd.R_types HO245.out BK246.out (by decide)) (fun _ hk => hk.2) (.string t242)) (fun _ hk => hk.2) (.slice Ao30 t243.length co30)) (fun _ h_ => h_.1))))) (below_size (by repeat (first | (with_reducible first | exact HB.out | apply below_alloc | apply pw_below_drewN | apply below_drew1 | refine below_set ?_ GE241.out | refine below_set ?_ GE246.out) | exact HB.out)))); have n3_ := Aside0.mk (blk_below (g := gb241) (o := .cells #[.string ((rd_T49 l0 x10_1).f0), .slice A240_1 ((rd_T49 l0 x10_1).f1).length c240_1] 49 (0, 0)) (by (with_reducible repeat (first | refine blk_drewN ?_ _ | refine blk_drew ?_ | refine blk_alloc ?_ _)); refine blk_far ?_ NB241_246.out _; (with_reducible repeat (first | refine blk_drewN ?_ _ | refine blk_drew ?_ | refine blk_alloc ?_ _)); refine blk_far ?_ NB241_246.out _; (with_reducible repeat (first | refine blk_drewN ?_ _ | refine blk_drew ?_ | refine blk_alloc ?_ _)); exact BK241.out) hb); have n4_ := Aside0.mk (blk_below (g := gb246) (o := .cells #[.string t242, .slice Ao30 t243.length co30] 58 (0, 0)) (by (with_reducible repeat (first | refine blk_drewN ?_ _ | refine blk_drew ?_ | refine blk_alloc ?_ _)); refine blk_put (cs := #[.string t242, .slice none 0 0]) ?_ 1 _ rfl; (with_reducible repeat (first | refine blk_drewN ?_ _ | refine blk_drew ?_ | refine blk_alloc ?_ _)); refine blk_put (cs := #[.string (⟨#[]⟩ : ByteArray), .slice none 0 0]) ?_ 0 _ rfl; (with_reducible repeat (first | refine blk_drewN ?_ _ | refine blk_drew ?_ | refine blk_alloc ?_ _)); exact BK246.out) hb); have n5_ := Aside0.mk (below_step (by repeat (first | (with_reducible first | exact HB.out | apply below_alloc | apply pw_below_drewN | apply below_drew1 | refine below_set ?_ GE241.out | refine below_set ?_ GE246.out) | exact HB.out)) hb); clear HO_4; clear HO245; clear BK241; clear BK246; clear HB; have HO_4 := n0_; have HO245 := n1_; have HO249 := n2_; have BK241 := n3_; have BK246 := n4_; have HB := n5_; clear n0_ n1_ n2_ n3_ n4_ n5_; clear hb ho32; have hcz33_0 : w31.cell? ⟨gb246, 0, none⟩ = some (.string t242) := (blk_cell BK246.out 0).trans rfl; have hcz33_1 : w31.cell? ⟨gb246, 1, none⟩ = some (.slice Ao30 t243.length co30) := (blk_cell BK246.out 1).trans rfl; have hfz33_0 := blk_frozen BK246.out 0; have hfz33_1 := blk_frozen BK246.out 1) | ((with_reducible refine gate_builtin (b := .append) (xs := #[.tmp 18, .tmp 20]) rfl ?_); at_builtin; refine Kd.R_append_rows Kd.string (w0 := w) w.heap.size rfl (.tmp 18) (.tmp 20) 56 9 (.string ⟨#[]⟩) 16 rfl Tryd.underlying56 info9 rfl (by decide) (by omega) v248 y247 t243 _ _ _ (fun k_ => some k_ ≠ (.slice Ao30 t243.length co30 : Value).ownBlock) (fun _ => False) rfl rfl ?aO ?aR (fun _ _ h => h) (fun _ h => h.elim) ?aF ?aB ?aS ?aL ?_; (case aR => repeat (first | exact (Kd.R_reads' HO245.out).2.2 | (with_reducible refine Kd.C_alloc ?_ _) | (with_reducible refine Kd.C_drewN ?_ _) | (with_reducible refine Kd.C_drew ?_))); (case aB => exact (by repeat (first | (with_reducible first | exact HB.out | apply below_alloc | apply pw_below_drewN | apply below_drew1 | refine below_set ?_ GE241.out | refine below_set ?_ GE246.out) | exact HB.out))); (case aF => exact (fun k_ hk => Kd.fresh' (Kd.R_lt (by (with_reducible repeat (first | apply Kd.R_alloc | apply Kd.R_drewN | apply Kd.R_drew)); exact HO245.out)) k_ hk)); (case aO => exact (by (with_reducible repeat (first | apply Kd.R_alloc | apply Kd.R_drewN | apply Kd.R_drew)); exact Kd.R_mono HO249.out (fun _ hk => hk.2))); (case aS => exact (below_size (by repeat (first | (with_reducible first | exact HB.out | apply below_alloc | apply pw_below_drewN | apply below_drew1 | refine below_set ?_ GE241.out | refine below_set ?_ GE246.out) | exact HB.out)))); (case aL => have := LMc6.out; omega); intro v251 w34 ho hb hg hat; rw [← Ny250.out] at ho; have n0_ := Aside0.mk (Kd.S_after (ok := (fun k_ => some k_ ≠ (.slice Ao30 t243.length co30 : Value).ownBlock ∧ k_ ≠ gb246)) (by (with_reducible repeat (first | apply Kd.S_alloc | apply Kd.S_drewN | apply Kd.S_drew)); exact Kd.S_mono HO_4.out (fun _ hk => ⟨⟨hk.1.1.2, hk.1.2⟩, hk.2⟩)) hg hat); have n1_ := Aside0.mk (blk_grown (g := gb241) (o := .cells #[.string ((rd_T49 l0 x10_1).f0), .slice A240_1 ((rd_T49 l0 x10_1).f1).length c240_1] 49 (0, 0)) (by (with_reducible repeat (first | refine blk_drewN ?_ _ | refine blk_drew ?_ | refine blk_alloc ?_ _)); exact BK241.out) hg (Kd.R_ne HO249.out BK241.out (by decide))); have n2_ := Aside0.mk (Kd.R_after (ok := (fun _ => True)) (by (with_reducible repeat (first | apply Kd.R_alloc | apply Kd.R_drewN | apply Kd.R_drew)); exact HO245.out) hg hat); have n3_ := Aside0.mk (blk_grown (g := gb246) (o := .cells #[.string t242, .slice Ao30 t243.length co30] 58 (0, 0)) (by (with_reducible repeat (first | refine blk_drewN ?_ _ | refine blk_drew ?_ | refine blk_alloc ?_ _)); exact BK246.out) hg (Kd.R_ne HO249.out BK246.out (by decide))); have n4_ := Aside0.mk (hb); have n5_ := Aside0.mk (ho); clear HO_4; clear BK241; clear HO245; clear BK246; clear HB; clear HO249; have HO_4 := n0_; have BK241 := n1_; have HO245 := n2_; have BK246 := n3_; have HB := n4_; have HO252 := n5_; clear n0_ n1_ n2_ n3_ n4_ n5_; clear ho hb hg hat; obtain ⟨Ao35, co35, eo35⟩ := Kd.R_slice HO252.out; subst eo35) | ((with_reducible refine gate_callee (f := 10) rfl ?_); refine goesL_ (some 22) rfl rfl Tryd.func10 (by kernel_rfl) rfl #[.slice Ao35 y250.length co35] rfl (by (try simp only [List.map_toArray, List.map_cons, List.map_nil]); first | done | rfl | (simp only [List.length_drop, List.length_take]; rfl)) ?_; (with_reducible refine (laws_short.calls k1 _ _ y250 false _ ?side1 ?side2 A7.out).mono ?_); (case side1 => repeat (first | exact (Kd.R_reads' HO252.out).2.2 | (with_reducible refine Kd.C_alloc ?_ _) | (with_reducible refine Kd.C_drewN ?_ _) | (with_reducible refine Kd.C_drew ?_))); (case side2 => exact (Kd.R_reads' HO252.out).2.1); rintro e w' ⟨rfl, ⟨nd, rfl⟩⟩; refine ⟨_, rfl, ?_⟩))
                go_ret2
                exact ⟨_, by first | rfl | (simp [errW_none, errW_some] <;> rfl) | (simp [*, errW_none, errW_some] <;> rfl), by first | exact Kd.S_nil _ _ _ _ _ | exact Kd.N_nil _ _ _ _ _ | exact Kd.V_nil _ _ _ _ _ | exact Kd.Q_nil _ _ _ _ _ | exact Kd.R_nil _ _ _ _ _, by repeat (first | (with_reducible first | exact HB.out | apply below_alloc | apply pw_below_drewN | apply below_drew1 | refine below_set ?_ GE241.out | refine below_set ?_ GE246.out) | exact HB.out)⟩
            · rw [if_neg c6] at H
              exact absurd H (by simp)
          · rw [if_neg c4] at H
            exact absurd H (by simp)
        · rw [if_neg c3] at H
          exact absurd H (by simp)
      · rw [if_neg c2] at H
        have c2b0 : decide (x10_1 < (l0.length : Int)) = false := decide_eq_false c2
        clear c2
        simp only [Option.some.injEq, Prod.mk.injEq] at H
        obtain ⟨rfl, rfl⟩ := H
        go_wp2
        go_ret2
        exact ⟨_, by first | rfl | (simp [errW_none, errW_some] <;> rfl) | (simp [*, errW_none, errW_some] <;> rfl), by (with_reducible repeat (first | apply Kd.S_alloc | apply Kd.S_drewN | apply Kd.S_drew)); exact HO_4.out, by repeat (first | (with_reducible first | exact HB.out | apply below_alloc | apply pw_below_drewN | apply below_drew1) | exact HB.out)⟩

-- NOT PRINTED: function 57 (goldap_NewModifyRequest)

/-! ### impl_texts: function 58 -/
def impl_texts.l0 : Nat → List ByteArray → List (List Int) → Int → Int → Option (List ByteArray)
  | 0, _, _, _, _ => none
  | k + 1, x3, x6, x7, x8 => if x8 < x7 then (if 0 ≤ x8 then (if x8 < (x6.length : Int) then (if x3.length < 8796093022208 then (impl_texts.l0 k (x3 ++ [strOfNums (rd_L4 x6 x8)]) x6 x7 (wrap64 (x8 + 1))) else (none)) else (none)) else (none)) else (some x3)
def impl_texts.f (k : Nat) (l0 : List (List Int)) : Option (List ByteArray) := impl_texts.l0 k ([] : List ByteArray) l0 (l0.length : Int) 0
theorem impl_texts.mono_l : ∀ k, (∀ y0 y1 y2 y3, LeO (impl_texts.l0 k y0 y1 y2 y3) (impl_texts.l0 (k + 1) y0 y1 y2 y3))
  | 0 => fun _ _ _ _ r h => by simp [impl_texts.l0] at h
  | k + 1 => by
    have ih0 := impl_texts.mono_l k
    · intro y0 y1 y2 y3
      unfold impl_texts.l0
      repeat' first
      | (with_reducible exact ih0 _ _ _ _)
      | (with_reducible exact LeO.refl _)
      | (with_reducible exact LeO.none _)
      | (with_reducible refine LeO.ite ?_ ?_)
      | (with_reducible refine LeO.bind ?_ (fun _ => ?_))
      | exact ih0 _ _ _ _
      | exact LeO.none _
      | refine LeO.ite ?_ ?_
      | refine LeO.bind ?_ (fun _ => ?_)
theorem impl_texts.mono : ∀ a0 k, LeO (impl_texts.f k a0) (impl_texts.f (k + 1) a0) := by
  intro a0 k
  have ih0 := impl_texts.mono_l k
  unfold impl_texts.f
  repeat' first
      | (with_reducible exact ih0 _ _ _ _)
      | (with_reducible exact LeO.refl _)
      | (with_reducible exact LeO.none _)
      | (with_reducible refine LeO.ite ?_ ?_)
      | (with_reducible refine LeO.bind ?_ (fun _ => ?_))
      | exact ih0 _ _ _ _
      | exact LeO.none _
      | refine LeO.ite ?_ ?_
      | refine LeO.bind ?_ (fun _ => ?_)
set_option maxHeartbeats 8000000 in
set_option maxRecDepth 100000 in
theorem impl_texts.calls (k : Nat) (A0 : Option Addr) (c0 : Nat) (l0 : List (List Int)) (r : List ByteArray) (w : World) (hr0 : Kd.C (Kd.slice 5 (Kd.int .u8)) w A0 l0.length l0) (hc0 : l0.length ≤ c0) (h : impl_texts.f k l0 = some r) :
    Calls Tryd.prog 58 #[.slice A0 l0.length c0] w fun e w' => ∃ v0_ : Value, e = .returned (v0_) ∧ Kd.R Kd.string 9 w' w.heap.size (fun _ => True) v0_ r ∧ Below w.heap.size w w' := by
  have HR0 := Aside0.mk hr0
  have HC0 := Aside0.mk hc0
  clear hr0 hc0
  have HB := Aside0.mk (Below.refl w.heap.size w)
  have H : (impl_texts.l0 k ([] : List ByteArray) l0 (l0.length : Int) 0) = some r := h
  clear h
  have H' := Aside0.mk H
  clear H
  go_enter Tryd.func58, Tryd.ntmps58
  go_wp2
  go_loopg [3, 8] k (fun kq v3 v8 w' => ∃ (x3_1 : List ByteArray) (x8_1 : Int), v8 = .int .i64 x8_1 ∧ Aside0 (impl_texts.l0 kq x3_1 l0 (l0.length : Int) x8_1 = some r) ∧ Aside0 (kq ≤ k) ∧ Aside0 (Kd.R Kd.string 9 w' w.heap.size (fun _ => True) v3 x3_1) ∧ Aside0 (Below w.heap.size w w'))
  case atStart => exact ⟨(([] : List ByteArray)), (0), (by first | rfl | (simp; done) | (simp [*]; done)), H', ⟨Nat.le_refl _⟩, ⟨by first | exact Kd.R_nil _ _ _ _ _ | exact Kd.N_nil _ _ _ _ _ | exact Kd.V_nil _ _ _ _ _ | exact Kd.Q_nil _ _ _ _ _ | exact Kd.S_nil _ _ _ _ _⟩, ⟨by repeat (first | (with_reducible first | exact HB.out | apply below_alloc | apply pw_below_drewN | apply below_drew1) | exact HB.out)⟩⟩
  case round =>
    clear H'
    obtain ⟨x3_1, x8_1, rfl, HA, HK1, HO_3, HB⟩ := hrel
    cases gk with
    | zero => exact absurd HA.out (by simp [impl_texts.l0])
    | succ k1 =>
      have H := HA.out
      clear HA
      simp only [impl_texts.l0] at H
      by_cases c2 : x8_1 < (l0.length : Int)
      · rw [if_pos c2] at H
        have c2b0 : decide (x8_1 < (l0.length : Int)) = true := decide_eq_true c2
        clear c2
        by_cases c3 : 0 ≤ x8_1
        · rw [if_pos c3] at H
          have c3b0 : decide (0 ≤ x8_1) = true := decide_eq_true c3
          clear c3
          by_cases c4 : x8_1 < (l0.length : Int)
          · rw [if_pos c4] at H
            have c4b0 : decide (x8_1 < (l0.length : Int)) = true := decide_eq_true c4
            clear c4
            by_cases c5 : x3_1.length < 8796093022208
            · rw [if_pos c5] at H
              have LMc5 := Aside0.mk c5
              clear c5
              obtain ⟨y258, hy258⟩ : ∃ y_ : List ByteArray, y_ = (x3_1 ++ [strOfNums (rd_L4 l0 x8_1)]) := ⟨_, rfl⟩
              replace H : (impl_texts.l0 k1 y258 l0 (l0.length : Int) (wrap64 (x8_1 + 1))) = some r := by first | (rw [hy258]; with_reducible exact H) | (have H2_ := (Option.bind_some _ _).symm.trans H; rw [hy258]; with_reducible exact H2_) | (have H2_ := (Option.bind_some _ _).symm.trans H; with_reducible exact H2_) | with_reducible exact H | (rw [hy258]; exact H) | exact H
              have Ny258 := Aside0.mk hy258
              clear hy258
              have H' := Aside0.mk H
              clear H
              have p257 : 0 ≤ (x8_1 : Int) := of_decide_eq_true (by first | (with_reducible assumption) | assumption)
              have q257 : x8_1 < (l0.length : Int) := of_decide_eq_true (by first | (with_reducible assumption) | assumption)
              obtain ⟨ad257, A257_0, c257_0, e257, hx257_0, hl257_0, hi257_0⟩ := at_L4 HR0.out x8_1 p257 q257
              cases e257
              replace hx257_0 := (HB.out.cell (World.block_lt_of_cell? w _ hx257_0)).trans hx257_0
              have HR257_0 := Aside0.mk hi257_0
              have HC257_0 := Aside0.mk hl257_0
              clear hi257_0 hl257_0
              replace p257 := eq_true p257
              replace q257 := eq_true q257
              have hcv6 := Kd.C_string (P := Tryd.prog) (A := A257_0) (c := c257_0) Tryd.underlying24 Tryd.underlying5 Tryd.underlying9 (Kd.C_below HR257_0.out HB.out)
              go_wp2_with (first | ((with_reducible refine gate_builtin (b := .append) (xs := #[.tmp 12, .tmp 15]) rfl ?_); at_builtin; refine Kd.R_append Kd.string (w0 := w) w.heap.size rfl (.tmp 12) (.tmp 15) 56 9 (.string ⟨#[]⟩) 16 rfl Tryd.underlying56 info9 rfl (by decide) (by omega) u3 x3_1 (strOfNums (rd_L4 l0 x8_1)) [.string (strOfNums (rd_L4 l0 x8_1))] (fun _ => True) (fun _ => False) rfl rfl ?aP (fun _ hk => hk.elim) ?aF ?aO ?aB ?aS ?aL ?_; (case aP => exact rfl); (case aB => exact (by repeat (first | (with_reducible first | exact HB.out | apply below_alloc | apply pw_below_drewN | apply below_drew1) | exact HB.out))); (case aF => exact (fun _ _ => trivial)); (case aO => exact (by (with_reducible repeat (first | apply Kd.R_alloc | apply Kd.R_drewN | apply Kd.R_drew)); exact HO_3.out)); (case aS => exact (below_size (by repeat (first | (with_reducible first | exact HB.out | apply below_alloc | apply pw_below_drewN | apply below_drew1) | exact HB.out)))); (case aL => have := LMc5.out; omega); intro v259 w7 ho hb hg hat; rw [← Ny258.out] at ho; have n0_ := Aside0.mk (hb); have n1_ := Aside0.mk (ho); clear HB; clear HO_3; have HB := n0_; have HO260 := n1_; clear n0_ n1_; clear ho hb hg hat))
              go_roundg k1
              case measure => have := HK1.out; omega
              case rel => exact ⟨(y258), (wrap64 (x8_1 + 1)), (by first | rfl | (simp; done) | (simp [*]; done)), H', ⟨by have := HK1.out; omega⟩, ⟨by (with_reducible repeat (first | apply Kd.R_alloc | apply Kd.R_drewN | apply Kd.R_drew)); exact HO260.out⟩, ⟨by repeat (first | (with_reducible first | exact HB.out | apply below_alloc | apply pw_below_drewN | apply below_drew1) | exact HB.out)⟩⟩
            · rw [if_neg c5] at H
              exact absurd H (by simp)
          · rw [if_neg c4] at H
            exact absurd H (by simp)
        · rw [if_neg c3] at H
          exact absurd H (by simp)
      · rw [if_neg c2] at H
        have c2b0 : decide (x8_1 < (l0.length : Int)) = false := decide_eq_false c2
        clear c2
        obtain rfl := Option.some.inj H
        go_wp2
        go_ret
        exact ⟨_, by first | rfl | (simp [errW_none, errW_some] <;> rfl) | (simp [*, errW_none, errW_some] <;> rfl), by (with_reducible repeat (first | apply Kd.R_alloc | apply Kd.R_drewN | apply Kd.R_drew)); exact HO_3.out, by repeat (first | (with_reducible first | exact HB.out | apply below_alloc | apply pw_below_drewN | apply below_drew1) | exact HB.out)⟩

-- NOT PRINTED: function 23 (impl_Modify)

/-! ### spec_Code: function 59 -/
def spec_Code.f (k : Nat) (a0 : Int) : Option (Int × Int × Bool × List Int × (List (S33))) := (spec_Whole.f k a0).bind fun t263 => (some (0, 10, false, t263, ([] : List (S33))))
theorem spec_Code.mono : ∀ a0 k, LeO (spec_Code.f k a0) (spec_Code.f (k + 1) a0) := by
  intro a0 k
  unfold spec_Code.f
  repeat' first
      | (with_reducible exact spec_Whole.mono _ _)
      | (with_reducible exact LeO.refl _)
      | (with_reducible exact LeO.none _)
      | (with_reducible refine LeO.ite ?_ ?_)
      | (with_reducible refine LeO.bind ?_ (fun _ => ?_))
      | exact spec_Whole.mono _ _
      | exact LeO.none _
      | refine LeO.ite ?_ ?_
      | refine LeO.bind ?_ (fun _ => ?_)
set_option maxHeartbeats 8000000 in
set_option maxRecDepth 100000 in
theorem spec_Code.calls (k : Nat) (a0 : Int) (r1 : Int) (r2 : Int) (r3 : Bool) (r4 : List Int) (r5 : List (S33)) (w : World) (h : spec_Code.f k a0 = some (r1, r2, r3, r4, r5)) :
    Calls Tryd.prog 59 #[.int .i64 a0] w fun e w' => ∃ v3_ v4_ : Value, e = .returned (.agg #[.int .i64 r1, .int .i64 r2, .bool r3, v3_, v4_]) ∧ Kd.R (Kd.int .u8) 5 w' w.heap.size (fun _ => True) v3_ r4 ∧ Kd.R k33 33 w' w.heap.size (fun k_ => some k_ ≠ (v3_ : Value).ownBlock) v4_ r5 ∧ Below w.heap.size w w' := by
  have hu33 := Tryd.underlying33
  have HB := Aside0.mk (Below.refl w.heap.size w)
  have H : ((spec_Whole.f k a0).bind fun t263 => (some (0, 10, false, t263, ([] : List (S33))))) = some (r1, r2, r3, r4, r5) := h
  clear h
  replace H := Option.bind_eq_some_iff.mp H
  obtain ⟨t263, A20, H⟩ := H
  replace H : (some (0, 10, false, t263, ([] : List (S33)))) = some (r1, r2, r3, r4, r5) := H
  have A2 := Aside0.mk A20
  clear A20
  simp only [Option.some.injEq, Prod.mk.injEq] at H
  obtain ⟨rfl, rfl, rfl, rfl, rfl⟩ := H
  go_enter Tryd.func59, Tryd.ntmps59
  go_wp2_with (first | ((with_reducible refine gate_dst (N := 2) rfl ?_); refine box_event ?hg (N := 2) ?hd (cs := #[.int .i64 0, .int .i64 0, .bool false, .slice none 0 0, .slice none 0 0]) (t := 33) ?hr ?_; (case hd => rfl); (case hg => rfl); (case hr => first | (go_simp; done) | (go_simp; rfl)); intro gb262 hg w3 hbox hb; have n0_ := Aside0.mk (below_step (by repeat (first | (with_reducible first | exact HB.out | apply below_alloc | apply pw_below_drewN | apply below_drew1) | exact HB.out)) hb); have n1_ := Aside0.mk (hbox); have n2_ := Aside0.mk ((by rw [hg]; exact (below_size (by repeat (first | (with_reducible first | exact HB.out | apply below_alloc | apply pw_below_drewN | apply below_drew1) | exact HB.out))) : w.heap.size ≤ gb262)); have n3_ := Aside0.mk ((by rw [hg]; exact (below_size (by repeat (first | (with_reducible first | exact HB.out | apply below_alloc | apply pw_below_drewN | apply below_drew1) | exact HB.out))) : w.heap.size ≤ gb262)); clear HB; have HB := n0_; have BK262 := n1_; have GW262 := n2_; have GE262 := n3_; clear n0_ n1_ n2_ n3_; clear hb hbox hg) | ((with_reducible refine gate_callee (f := 85) rfl ?_); refine goesL_ (some 4) rfl rfl Tryd.func85 (by kernel_rfl) rfl #[.int .i64 a0] rfl (by (try simp only [List.map_toArray, List.map_cons, List.map_nil]); first | done | rfl | (simp only [List.length_drop, List.length_take]; rfl)) ?_; (with_reducible refine (spec_Whole.calls k a0 t263 _ A2.out).mono ?_); rintro e w4 ⟨v264, rfl, ho0, hb⟩; refine ⟨_, rfl, ?_⟩; have n0_ := Aside0.mk (Kd.R_lower ho0 (below_size (by repeat (first | (with_reducible first | exact HB.out | apply below_alloc | apply pw_below_drewN | apply below_drew1 | refine below_set ?_ GE262.out) | exact HB.out)))); have n1_ := Aside0.mk (blk_below (g := gb262) (o := .cells #[.int .i64 0, .int .i64 0, .bool false, .slice none 0 0, .slice none 0 0] 33 (0, 0)) (by (with_reducible repeat (first | refine blk_drewN ?_ _ | refine blk_drew ?_ | refine blk_alloc ?_ _)); exact BK262.out) hb); have n2_ := Aside0.mk (below_step (by repeat (first | (with_reducible first | exact HB.out | apply below_alloc | apply pw_below_drewN | apply below_drew1 | refine below_set ?_ GE262.out) | exact HB.out)) hb); clear BK262; clear HB; have HO265 := n0_; have BK262 := n1_; have HB := n2_; clear n0_ n1_ n2_; (try clear hb); (try clear hb2); (try clear hk); (try clear hi); (try clear ho0); obtain ⟨Ao5, co5, eo5⟩ := Kd.R_slice HO265.out; subst eo5; have hcz6_0 : w4.cell? ⟨gb262, 0, none⟩ = some (.int .i64 0) := (blk_cell BK262.out 0).trans rfl; have hcz6_1 : w4.cell? ⟨gb262, 1, none⟩ = some (.int .i64 0) := (blk_cell BK262.out 1).trans rfl; have hcz6_2 : w4.cell? ⟨gb262, 2, none⟩ = some (.bool false) := (blk_cell BK262.out 2).trans rfl; have hcz6_3 : w4.cell? ⟨gb262, 3, none⟩ = some (.slice none 0 0) := (blk_cell BK262.out 3).trans rfl; have hcz6_4 : w4.cell? ⟨gb262, 4, none⟩ = some (.slice none 0 0) := (blk_cell BK262.out 4).trans rfl; have hfz6_0 := blk_frozen BK262.out 0; have hfz6_1 := blk_frozen BK262.out 1; have hfz6_2 := blk_frozen BK262.out 2; have hfz6_3 := blk_frozen BK262.out 3; have hfz6_4 := blk_frozen BK262.out 4))
  refine bodyPost_ret (results_cell_row rfl _ _ gb262 33 #[.int .i64 0, .int .i64 10, .bool false, .slice Ao5 t263.length co5, .slice none 0 0] (0, 0) _ rfl (by (with_reducible repeat (first | refine blk_drewN ?_ _ | refine blk_drew ?_ | refine blk_alloc ?_ _)); refine blk_put (cs := #[.int .i64 0, .int .i64 10, .bool false, .slice Ao5 t263.length co5, .slice none 0 0]) ?_ 4 _ rfl; (with_reducible repeat (first | refine blk_drewN ?_ _ | refine blk_drew ?_ | refine blk_alloc ?_ _)); refine blk_put (cs := #[.int .i64 0, .int .i64 10, .bool false, .slice none 0 0, .slice none 0 0]) ?_ 3 _ rfl; (with_reducible repeat (first | refine blk_drewN ?_ _ | refine blk_drew ?_ | refine blk_alloc ?_ _)); refine blk_put (cs := #[.int .i64 0, .int .i64 10, .bool false, .slice none 0 0, .slice none 0 0]) ?_ 2 _ rfl; (with_reducible repeat (first | refine blk_drewN ?_ _ | refine blk_drew ?_ | refine blk_alloc ?_ _)); refine blk_put (cs := #[.int .i64 0, .int .i64 0, .bool false, .slice none 0 0, .slice none 0 0]) ?_ 1 _ rfl; (with_reducible repeat (first | refine blk_drewN ?_ _ | refine blk_drew ?_ | refine blk_alloc ?_ _)); refine blk_put (cs := #[.int .i64 0, .int .i64 0, .bool false, .slice none 0 0, .slice none 0 0]) ?_ 0 _ rfl; (with_reducible repeat (first | refine blk_drewN ?_ _ | refine blk_drew ?_ | refine blk_alloc ?_ _)); exact BK262.out) Tryd.underlying33 rfl (by kernel_rfl)) rfl ?_
  exact ⟨_, _, by first | rfl | (simp [errW_none, errW_some] <;> rfl) | (simp [*, errW_none, errW_some] <;> rfl), by (with_reducible repeat (first | apply Kd.R_alloc | apply Kd.R_drewN | apply Kd.R_drew)); exact Kd.R_mono (Kd.R_far (p := ⟨gb262, 4, none⟩) (Kd.R_far (p := ⟨gb262, 3, none⟩) (Kd.R_far (p := ⟨gb262, 2, none⟩) (Kd.R_far (p := ⟨gb262, 1, none⟩) (Kd.R_far (p := ⟨gb262, 0, none⟩) (Kd.R_types HO265.out BK262.out (by decide)) (fun _ hk => hk.2) (.int .i64 0)) (fun _ hk => hk.2) (.int .i64 10)) (fun _ hk => hk.2) (.bool false)) (fun _ hk => hk.2) (.slice Ao5 t263.length co5)) (fun _ hk => hk.2) (.slice none 0 0)) (fun _ hk => trivial), by first | exact Kd.R_nil _ _ _ _ _ | exact Kd.N_nil _ _ _ _ _ | exact Kd.V_nil _ _ _ _ _ | exact Kd.Q_nil _ _ _ _ _ | exact Kd.S_nil _ _ _ _ _, by repeat (first | (with_reducible first | exact HB.out | apply below_alloc | apply pw_below_drewN | apply below_drew1 | refine below_set ?_ GE262.out) | exact HB.out)⟩

end Go.Proofs.YtbmcpjkhnhbjdaaDoor.PFnEncode
