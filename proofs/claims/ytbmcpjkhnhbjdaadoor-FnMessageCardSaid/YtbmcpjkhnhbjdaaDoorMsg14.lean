/- Parts of the proof of one law, in the order in which they build.  -/
import Derived.Test.YtbmcpjkhnhbjdaaDoorMsg1
import Derived.Test.YtbmcpjkhnhbjdaaDoorMsg2
import Derived.Test.YtbmcpjkhnhbjdaaDoorMsg3
import Derived.Test.YtbmcpjkhnhbjdaaDoorMsg4
import Derived.Test.YtbmcpjkhnhbjdaaDoorMsg13
namespace Go.Proofs.YtbmcpjkhnhbjdaaDoor.PFnEncode
open Go.RowKit Go.Proofs.YtbmcpjkhnhbjdaaDoorW.PrintWords Go.Proofs.YtbmcpjkhnhbjdaaDoorW.PrintLast Go.Proofs.YtbmcpjkhnhbjdaaDoorW.PrintMore
attribute [local go_sem] max2_int min2_int max_two min_two max_three min_three max_four min_four   -- for this text's walks alone
set_option linter.unusedVariables false
set_option linter.unusedSimpArgs false

/-! ### laws_zzFits13: function 29 -/
-- NOT PRINTED: function 66 (goldap_NewAddRequest)

-- NOT PRINTED: function 67 (goldap_AddRequest_Attribute)

-- NOT PRINTED: function 30 (impl_Add)

-- NOT PRINTED: function 68 (goldap_NewDelRequest)

-- NOT PRINTED: function 31 (impl_Delete)

-- NOT PRINTED: function 32 (spec_Add)

-- NOT PRINTED: function 33 (spec_Delete)

-- NOT PRINTED: function 8 (laws_FnAdd)

/-! ### laws_zzFits1: function 34 -/
def laws_zzFits1.f (a0_0 : Int) (a0_1 : Int) (a0_2 : Bool) (l0_3 : List Int) (l0_4 : List (S27)) : Option (Bool) := if (l0_3.length : Int) > 2147483647 then (some false) else (if (l0_4.length : Int) > 2147483647 then (some false) else (some true))
set_option maxHeartbeats 8000000 in
set_option maxRecDepth 100000 in
theorem laws_zzFits1.calls (a0_0 : Int) (a0_1 : Int) (a0_2 : Bool) (A0_3 : Option Addr) (c0_3 : Nat) (l0_3 : List Int) (A0_4 : Option Addr) (c0_4 : Nat) (l0_4 : List (S27)) (r : Bool) (w : World) (hr0_3 : Kd.C (Kd.int .u8) w A0_3 l0_3.length l0_3) (hc0_3 : l0_3.length ≤ c0_3) (hr0_4 : Kd.C k27 w A0_4 l0_4.length l0_4) (hc0_4 : l0_4.length ≤ c0_4) (h : laws_zzFits1.f a0_0 a0_1 a0_2 l0_3 l0_4 = some r) :
    Calls Tryd.prog 34 #[.agg #[.int .i64 a0_0, .int .i64 a0_1, .bool a0_2, .slice A0_3 l0_3.length c0_3, .slice A0_4 l0_4.length c0_4]] w fun e w' => e = .returned (.bool r) ∧ Below w.heap.size w w' := by
  have hu27 := Tryd.underlying27
  have HR0_3 := Aside0.mk hr0_3
  have HC0_3 := Aside0.mk hc0_3
  clear hr0_3 hc0_3
  have HR0_4 := Aside0.mk hr0_4
  have HC0_4 := Aside0.mk hc0_4
  clear hr0_4 hc0_4
  have HB := Aside0.mk (Below.refl w.heap.size w)
  have H : (if (l0_3.length : Int) > 2147483647 then (some false) else (if (l0_4.length : Int) > 2147483647 then (some false) else (some true))) = some r := h
  clear h
  by_cases c2 : (l0_3.length : Int) > 2147483647
  · rw [if_pos c2] at H
    have c2b0 : decide (2147483647 < (l0_3.length : Int)) = true := decide_eq_true c2
    have c2b1 : decide (2147483647 < l0_3.length) = true := decide_eq_true (by omega)
    clear c2
    obtain rfl := Option.some.inj H
    go_enter Tryd.func34, Tryd.ntmps34
    go_wp2_with (first | ((with_reducible refine gate_dst (N := 1) rfl ?_); refine box_event ?hg (N := 1) ?hd (cs := #[.int .i64 a0_0, .int .i64 a0_1, .bool a0_2, .slice A0_3 l0_3.length c0_3, .slice A0_4 l0_4.length c0_4]) (t := 27) ?hr ?_; (case hd => rfl); (case hg => rfl); (case hr => first | (go_simp; done) | (go_simp; rfl)); intro gb434 hg w3 hbox hb; have n0_ := Aside0.mk (below_step (by repeat (first | (with_reducible first | exact HB.out | apply below_alloc | apply pw_below_drewN | apply below_drew1) | exact HB.out)) hb); have n1_ := Aside0.mk (hbox); have n2_ := Aside0.mk ((by rw [hg]; exact (below_size (by repeat (first | (with_reducible first | exact HB.out | apply below_alloc | apply pw_below_drewN | apply below_drew1) | exact HB.out))) : w.heap.size ≤ gb434)); have n3_ := Aside0.mk ((by rw [hg]; exact (below_size (by repeat (first | (with_reducible first | exact HB.out | apply below_alloc | apply pw_below_drewN | apply below_drew1) | exact HB.out))) : w.heap.size ≤ gb434)); clear HB; have HB := n0_; have BK434 := n1_; have GW434 := n2_; have GE434 := n3_; clear n0_ n1_ n2_ n3_; clear hb hbox hg; have hcz4_0 : w3.cell? ⟨gb434, 0, none⟩ = some (.int .i64 a0_0) := (blk_cell BK434.out 0).trans rfl; have hcz4_1 : w3.cell? ⟨gb434, 1, none⟩ = some (.int .i64 a0_1) := (blk_cell BK434.out 1).trans rfl; have hcz4_2 : w3.cell? ⟨gb434, 2, none⟩ = some (.bool a0_2) := (blk_cell BK434.out 2).trans rfl; have hcz4_3 : w3.cell? ⟨gb434, 3, none⟩ = some (.slice A0_3 l0_3.length c0_3) := (blk_cell BK434.out 3).trans rfl; have hcz4_4 : w3.cell? ⟨gb434, 4, none⟩ = some (.slice A0_4 l0_4.length c0_4) := (blk_cell BK434.out 4).trans rfl; have hfz4_0 := blk_frozen BK434.out 0; have hfz4_1 := blk_frozen BK434.out 1; have hfz4_2 := blk_frozen BK434.out 2; have hfz4_3 := blk_frozen BK434.out 3; have hfz4_4 := blk_frozen BK434.out 4))
    go_ret
    exact ⟨by first | rfl | (simp [errW_none, errW_some] <;> rfl) | (simp [*, errW_none, errW_some] <;> rfl), by repeat (first | (with_reducible first | exact HB.out | apply below_alloc | apply pw_below_drewN | apply below_drew1 | refine below_set ?_ GE434.out) | exact HB.out)⟩
  · rw [if_neg c2] at H
    have c2b0 : decide (2147483647 < (l0_3.length : Int)) = false := decide_eq_false c2
    have c2b1 : decide (2147483647 < l0_3.length) = false := decide_eq_false (by omega)
    clear c2
    by_cases c5 : (l0_4.length : Int) > 2147483647
    · rw [if_pos c5] at H
      have c5b0 : decide (2147483647 < (l0_4.length : Int)) = true := decide_eq_true c5
      have c5b1 : decide (2147483647 < l0_4.length) = true := decide_eq_true (by omega)
      clear c5
      obtain rfl := Option.some.inj H
      go_enter Tryd.func34, Tryd.ntmps34
      go_wp2_with (first | ((with_reducible refine gate_dst (N := 1) rfl ?_); refine box_event ?hg (N := 1) ?hd (cs := #[.int .i64 a0_0, .int .i64 a0_1, .bool a0_2, .slice A0_3 l0_3.length c0_3, .slice A0_4 l0_4.length c0_4]) (t := 27) ?hr ?_; (case hd => rfl); (case hg => rfl); (case hr => first | (go_simp; done) | (go_simp; rfl)); intro gb434 hg w6 hbox hb; have n0_ := Aside0.mk (below_step (by repeat (first | (with_reducible first | exact HB.out | apply below_alloc | apply pw_below_drewN | apply below_drew1) | exact HB.out)) hb); have n1_ := Aside0.mk (hbox); have n2_ := Aside0.mk ((by rw [hg]; exact (below_size (by repeat (first | (with_reducible first | exact HB.out | apply below_alloc | apply pw_below_drewN | apply below_drew1) | exact HB.out))) : w.heap.size ≤ gb434)); have n3_ := Aside0.mk ((by rw [hg]; exact (below_size (by repeat (first | (with_reducible first | exact HB.out | apply below_alloc | apply pw_below_drewN | apply below_drew1) | exact HB.out))) : w.heap.size ≤ gb434)); clear HB; have HB := n0_; have BK434 := n1_; have GW434 := n2_; have GE434 := n3_; clear n0_ n1_ n2_ n3_; clear hb hbox hg; have hcz7_0 : w6.cell? ⟨gb434, 0, none⟩ = some (.int .i64 a0_0) := (blk_cell BK434.out 0).trans rfl; have hcz7_1 : w6.cell? ⟨gb434, 1, none⟩ = some (.int .i64 a0_1) := (blk_cell BK434.out 1).trans rfl; have hcz7_2 : w6.cell? ⟨gb434, 2, none⟩ = some (.bool a0_2) := (blk_cell BK434.out 2).trans rfl; have hcz7_3 : w6.cell? ⟨gb434, 3, none⟩ = some (.slice A0_3 l0_3.length c0_3) := (blk_cell BK434.out 3).trans rfl; have hcz7_4 : w6.cell? ⟨gb434, 4, none⟩ = some (.slice A0_4 l0_4.length c0_4) := (blk_cell BK434.out 4).trans rfl; have hfz7_0 := blk_frozen BK434.out 0; have hfz7_1 := blk_frozen BK434.out 1; have hfz7_2 := blk_frozen BK434.out 2; have hfz7_3 := blk_frozen BK434.out 3; have hfz7_4 := blk_frozen BK434.out 4))
      go_ret
      exact ⟨by first | rfl | (simp [errW_none, errW_some] <;> rfl) | (simp [*, errW_none, errW_some] <;> rfl), by repeat (first | (with_reducible first | exact HB.out | apply below_alloc | apply pw_below_drewN | apply below_drew1 | refine below_set ?_ GE434.out) | exact HB.out)⟩
    · rw [if_neg c5] at H
      have c5b0 : decide (2147483647 < (l0_4.length : Int)) = false := decide_eq_false c5
      have c5b1 : decide (2147483647 < l0_4.length) = false := decide_eq_false (by omega)
      clear c5
      obtain rfl := Option.some.inj H
      go_enter Tryd.func34, Tryd.ntmps34
      go_wp2_with (first | ((with_reducible refine gate_dst (N := 1) rfl ?_); refine box_event ?hg (N := 1) ?hd (cs := #[.int .i64 a0_0, .int .i64 a0_1, .bool a0_2, .slice A0_3 l0_3.length c0_3, .slice A0_4 l0_4.length c0_4]) (t := 27) ?hr ?_; (case hd => rfl); (case hg => rfl); (case hr => first | (go_simp; done) | (go_simp; rfl)); intro gb434 hg w8 hbox hb; have n0_ := Aside0.mk (below_step (by repeat (first | (with_reducible first | exact HB.out | apply below_alloc | apply pw_below_drewN | apply below_drew1) | exact HB.out)) hb); have n1_ := Aside0.mk (hbox); have n2_ := Aside0.mk ((by rw [hg]; exact (below_size (by repeat (first | (with_reducible first | exact HB.out | apply below_alloc | apply pw_below_drewN | apply below_drew1) | exact HB.out))) : w.heap.size ≤ gb434)); have n3_ := Aside0.mk ((by rw [hg]; exact (below_size (by repeat (first | (with_reducible first | exact HB.out | apply below_alloc | apply pw_below_drewN | apply below_drew1) | exact HB.out))) : w.heap.size ≤ gb434)); clear HB; have HB := n0_; have BK434 := n1_; have GW434 := n2_; have GE434 := n3_; clear n0_ n1_ n2_ n3_; clear hb hbox hg; have hcz9_0 : w8.cell? ⟨gb434, 0, none⟩ = some (.int .i64 a0_0) := (blk_cell BK434.out 0).trans rfl; have hcz9_1 : w8.cell? ⟨gb434, 1, none⟩ = some (.int .i64 a0_1) := (blk_cell BK434.out 1).trans rfl; have hcz9_2 : w8.cell? ⟨gb434, 2, none⟩ = some (.bool a0_2) := (blk_cell BK434.out 2).trans rfl; have hcz9_3 : w8.cell? ⟨gb434, 3, none⟩ = some (.slice A0_3 l0_3.length c0_3) := (blk_cell BK434.out 3).trans rfl; have hcz9_4 : w8.cell? ⟨gb434, 4, none⟩ = some (.slice A0_4 l0_4.length c0_4) := (blk_cell BK434.out 4).trans rfl; have hfz9_0 := blk_frozen BK434.out 0; have hfz9_1 := blk_frozen BK434.out 1; have hfz9_2 := blk_frozen BK434.out 2; have hfz9_3 := blk_frozen BK434.out 3; have hfz9_4 := blk_frozen BK434.out 4))
      go_ret
      exact ⟨by first | rfl | (simp [errW_none, errW_some] <;> rfl) | (simp [*, errW_none, errW_some] <;> rfl), by repeat (first | (with_reducible first | exact HB.out | apply below_alloc | apply pw_below_drewN | apply below_drew1 | refine below_set ?_ GE434.out) | exact HB.out)⟩

/-! ### laws_zzFits15: function 69 -/
def laws_zzFits15.f (a0_0 : Int) (a0_1 : ByteArray) (a0_2 : Bool) (l0_3 : List Int) (a0_4 : Int) (l0_5 : List Int) : Option (Bool) := if (a0_1.size : Int) > 2147483647 then (some false) else (if (l0_3.length : Int) > 2147483647 then (some false) else (if (l0_5.length : Int) > 2147483647 then (some false) else (some true)))
set_option maxHeartbeats 8000000 in
set_option maxRecDepth 100000 in
theorem laws_zzFits15.calls (a0_0 : Int) (a0_1 : ByteArray) (a0_2 : Bool) (A0_3 : Option Addr) (c0_3 : Nat) (l0_3 : List Int) (a0_4 : Int) (A0_5 : Option Addr) (c0_5 : Nat) (l0_5 : List Int) (r : Bool) (w : World) (hr0_3 : Kd.C (Kd.int .u8) w A0_3 l0_3.length l0_3) (hc0_3 : l0_3.length ≤ c0_3) (hr0_5 : Kd.C (Kd.int .u8) w A0_5 l0_5.length l0_5) (hc0_5 : l0_5.length ≤ c0_5) (h : laws_zzFits15.f a0_0 a0_1 a0_2 l0_3 a0_4 l0_5 = some r) :
    Calls Tryd.prog 69 #[.agg #[.int .i64 a0_0, .string a0_1, .bool a0_2, .slice A0_3 l0_3.length c0_3, .int .i64 a0_4, .slice A0_5 l0_5.length c0_5]] w fun e w' => e = .returned (.bool r) ∧ Below w.heap.size w w' := by
  have hu79 := Tryd.underlying79
  have HR0_3 := Aside0.mk hr0_3
  have HC0_3 := Aside0.mk hc0_3
  clear hr0_3 hc0_3
  have HR0_5 := Aside0.mk hr0_5
  have HC0_5 := Aside0.mk hc0_5
  clear hr0_5 hc0_5
  have HB := Aside0.mk (Below.refl w.heap.size w)
  have H : (if (a0_1.size : Int) > 2147483647 then (some false) else (if (l0_3.length : Int) > 2147483647 then (some false) else (if (l0_5.length : Int) > 2147483647 then (some false) else (some true)))) = some r := h
  clear h
  by_cases c2 : (a0_1.size : Int) > 2147483647
  · rw [if_pos c2] at H
    have c2b0 : decide (2147483647 < (a0_1.size : Int)) = true := decide_eq_true c2
    have c2b1 : decide (2147483647 < a0_1.size) = true := decide_eq_true (by omega)
    clear c2
    obtain rfl := Option.some.inj H
    go_enter Tryd.func69, Tryd.ntmps69
    go_wp2_with (first | ((with_reducible refine gate_dst (N := 1) rfl ?_); refine box_event ?hg (N := 1) ?hd (cs := #[.int .i64 a0_0, .string a0_1, .bool a0_2, .slice A0_3 l0_3.length c0_3, .int .i64 a0_4, .slice A0_5 l0_5.length c0_5]) (t := 79) ?hr ?_; (case hd => rfl); (case hg => rfl); (case hr => first | (go_simp; done) | (go_simp; rfl)); intro gb435 hg w3 hbox hb; have n0_ := Aside0.mk (below_step (by repeat (first | (with_reducible first | exact HB.out | apply below_alloc | apply pw_below_drewN | apply below_drew1) | exact HB.out)) hb); have n1_ := Aside0.mk (hbox); have n2_ := Aside0.mk ((by rw [hg]; exact (below_size (by repeat (first | (with_reducible first | exact HB.out | apply below_alloc | apply pw_below_drewN | apply below_drew1) | exact HB.out))) : w.heap.size ≤ gb435)); have n3_ := Aside0.mk ((by rw [hg]; exact (below_size (by repeat (first | (with_reducible first | exact HB.out | apply below_alloc | apply pw_below_drewN | apply below_drew1) | exact HB.out))) : w.heap.size ≤ gb435)); clear HB; have HB := n0_; have BK435 := n1_; have GW435 := n2_; have GE435 := n3_; clear n0_ n1_ n2_ n3_; clear hb hbox hg; have hcz4_0 : w3.cell? ⟨gb435, 0, none⟩ = some (.int .i64 a0_0) := (blk_cell BK435.out 0).trans rfl; have hcz4_1 : w3.cell? ⟨gb435, 1, none⟩ = some (.string a0_1) := (blk_cell BK435.out 1).trans rfl; have hcz4_2 : w3.cell? ⟨gb435, 2, none⟩ = some (.bool a0_2) := (blk_cell BK435.out 2).trans rfl; have hcz4_3 : w3.cell? ⟨gb435, 3, none⟩ = some (.slice A0_3 l0_3.length c0_3) := (blk_cell BK435.out 3).trans rfl; have hcz4_4 : w3.cell? ⟨gb435, 4, none⟩ = some (.int .i64 a0_4) := (blk_cell BK435.out 4).trans rfl; have hcz4_5 : w3.cell? ⟨gb435, 5, none⟩ = some (.slice A0_5 l0_5.length c0_5) := (blk_cell BK435.out 5).trans rfl; have hfz4_0 := blk_frozen BK435.out 0; have hfz4_1 := blk_frozen BK435.out 1; have hfz4_2 := blk_frozen BK435.out 2; have hfz4_3 := blk_frozen BK435.out 3; have hfz4_4 := blk_frozen BK435.out 4; have hfz4_5 := blk_frozen BK435.out 5))
    go_ret
    exact ⟨by first | rfl | (simp [errW_none, errW_some] <;> rfl) | (simp [*, errW_none, errW_some] <;> rfl), by repeat (first | (with_reducible first | exact HB.out | apply below_alloc | apply pw_below_drewN | apply below_drew1 | refine below_set ?_ GE435.out) | exact HB.out)⟩
  · rw [if_neg c2] at H
    have c2b0 : decide (2147483647 < (a0_1.size : Int)) = false := decide_eq_false c2
    have c2b1 : decide (2147483647 < a0_1.size) = false := decide_eq_false (by omega)
    clear c2
    by_cases c5 : (l0_3.length : Int) > 2147483647
    · rw [if_pos c5] at H
      have c5b0 : decide (2147483647 < (l0_3.length : Int)) = true := decide_eq_true c5
      have c5b1 : decide (2147483647 < l0_3.length) = true := decide_eq_true (by omega)
      clear c5
      obtain rfl := Option.some.inj H
      go_enter Tryd.func69, Tryd.ntmps69
      go_wp2_with (first | ((with_reducible refine gate_dst (N := 1) rfl ?_); refine box_event ?hg (N := 1) ?hd (cs := #[.int .i64 a0_0, .string a0_1, .bool a0_2, .slice A0_3 l0_3.length c0_3, .int .i64 a0_4, .slice A0_5 l0_5.length c0_5]) (t := 79) ?hr ?_; (case hd => rfl); (case hg => rfl); (case hr => first | (go_simp; done) | (go_simp; rfl)); intro gb435 hg w6 hbox hb; have n0_ := Aside0.mk (below_step (by repeat (first | (with_reducible first | exact HB.out | apply below_alloc | apply pw_below_drewN | apply below_drew1) | exact HB.out)) hb); have n1_ := Aside0.mk (hbox); have n2_ := Aside0.mk ((by rw [hg]; exact (below_size (by repeat (first | (with_reducible first | exact HB.out | apply below_alloc | apply pw_below_drewN | apply below_drew1) | exact HB.out))) : w.heap.size ≤ gb435)); have n3_ := Aside0.mk ((by rw [hg]; exact (below_size (by repeat (first | (with_reducible first | exact HB.out | apply below_alloc | apply pw_below_drewN | apply below_drew1) | exact HB.out))) : w.heap.size ≤ gb435)); clear HB; have HB := n0_; have BK435 := n1_; have GW435 := n2_; have GE435 := n3_; clear n0_ n1_ n2_ n3_; clear hb hbox hg; have hcz7_0 : w6.cell? ⟨gb435, 0, none⟩ = some (.int .i64 a0_0) := (blk_cell BK435.out 0).trans rfl; have hcz7_1 : w6.cell? ⟨gb435, 1, none⟩ = some (.string a0_1) := (blk_cell BK435.out 1).trans rfl; have hcz7_2 : w6.cell? ⟨gb435, 2, none⟩ = some (.bool a0_2) := (blk_cell BK435.out 2).trans rfl; have hcz7_3 : w6.cell? ⟨gb435, 3, none⟩ = some (.slice A0_3 l0_3.length c0_3) := (blk_cell BK435.out 3).trans rfl; have hcz7_4 : w6.cell? ⟨gb435, 4, none⟩ = some (.int .i64 a0_4) := (blk_cell BK435.out 4).trans rfl; have hcz7_5 : w6.cell? ⟨gb435, 5, none⟩ = some (.slice A0_5 l0_5.length c0_5) := (blk_cell BK435.out 5).trans rfl; have hfz7_0 := blk_frozen BK435.out 0; have hfz7_1 := blk_frozen BK435.out 1; have hfz7_2 := blk_frozen BK435.out 2; have hfz7_3 := blk_frozen BK435.out 3; have hfz7_4 := blk_frozen BK435.out 4; have hfz7_5 := blk_frozen BK435.out 5))
      go_ret
      exact ⟨by first | rfl | (simp [errW_none, errW_some] <;> rfl) | (simp [*, errW_none, errW_some] <;> rfl), by repeat (first | (with_reducible first | exact HB.out | apply below_alloc | apply pw_below_drewN | apply below_drew1 | refine below_set ?_ GE435.out) | exact HB.out)⟩
    · rw [if_neg c5] at H
      have c5b0 : decide (2147483647 < (l0_3.length : Int)) = false := decide_eq_false c5
      have c5b1 : decide (2147483647 < l0_3.length) = false := decide_eq_false (by omega)
      clear c5
      by_cases c8 : (l0_5.length : Int) > 2147483647
      · rw [if_pos c8] at H
        have c8b0 : decide (2147483647 < (l0_5.length : Int)) = true := decide_eq_true c8
        have c8b1 : decide (2147483647 < l0_5.length) = true := decide_eq_true (by omega)
        clear c8
        obtain rfl := Option.some.inj H
        go_enter Tryd.func69, Tryd.ntmps69
        go_wp2_with (first | ((with_reducible refine gate_dst (N := 1) rfl ?_); refine box_event ?hg (N := 1) ?hd (cs := #[.int .i64 a0_0, .string a0_1, .bool a0_2, .slice A0_3 l0_3.length c0_3, .int .i64 a0_4, .slice A0_5 l0_5.length c0_5]) (t := 79) ?hr ?_; (case hd => rfl); (case hg => rfl); (case hr => first | (go_simp; done) | (go_simp; rfl)); intro gb435 hg w9 hbox hb; have n0_ := Aside0.mk (below_step (by repeat (first | (with_reducible first | exact HB.out | apply below_alloc | apply pw_below_drewN | apply below_drew1) | exact HB.out)) hb); have n1_ := Aside0.mk (hbox); have n2_ := Aside0.mk ((by rw [hg]; exact (below_size (by repeat (first | (with_reducible first | exact HB.out | apply below_alloc | apply pw_below_drewN | apply below_drew1) | exact HB.out))) : w.heap.size ≤ gb435)); have n3_ := Aside0.mk ((by rw [hg]; exact (below_size (by repeat (first | (with_reducible first | exact HB.out | apply below_alloc | apply pw_below_drewN | apply below_drew1) | exact HB.out))) : w.heap.size ≤ gb435)); clear HB; have HB := n0_; have BK435 := n1_; have GW435 := n2_; have GE435 := n3_; clear n0_ n1_ n2_ n3_; clear hb hbox hg; have hcz10_0 : w9.cell? ⟨gb435, 0, none⟩ = some (.int .i64 a0_0) := (blk_cell BK435.out 0).trans rfl; have hcz10_1 : w9.cell? ⟨gb435, 1, none⟩ = some (.string a0_1) := (blk_cell BK435.out 1).trans rfl; have hcz10_2 : w9.cell? ⟨gb435, 2, none⟩ = some (.bool a0_2) := (blk_cell BK435.out 2).trans rfl; have hcz10_3 : w9.cell? ⟨gb435, 3, none⟩ = some (.slice A0_3 l0_3.length c0_3) := (blk_cell BK435.out 3).trans rfl; have hcz10_4 : w9.cell? ⟨gb435, 4, none⟩ = some (.int .i64 a0_4) := (blk_cell BK435.out 4).trans rfl; have hcz10_5 : w9.cell? ⟨gb435, 5, none⟩ = some (.slice A0_5 l0_5.length c0_5) := (blk_cell BK435.out 5).trans rfl; have hfz10_0 := blk_frozen BK435.out 0; have hfz10_1 := blk_frozen BK435.out 1; have hfz10_2 := blk_frozen BK435.out 2; have hfz10_3 := blk_frozen BK435.out 3; have hfz10_4 := blk_frozen BK435.out 4; have hfz10_5 := blk_frozen BK435.out 5))
        go_ret
        exact ⟨by first | rfl | (simp [errW_none, errW_some] <;> rfl) | (simp [*, errW_none, errW_some] <;> rfl), by repeat (first | (with_reducible first | exact HB.out | apply below_alloc | apply pw_below_drewN | apply below_drew1 | refine below_set ?_ GE435.out) | exact HB.out)⟩
      · rw [if_neg c8] at H
        have c8b0 : decide (2147483647 < (l0_5.length : Int)) = false := decide_eq_false c8
        have c8b1 : decide (2147483647 < l0_5.length) = false := decide_eq_false (by omega)
        clear c8
        obtain rfl := Option.some.inj H
        go_enter Tryd.func69, Tryd.ntmps69
        go_wp2_with (first | ((with_reducible refine gate_dst (N := 1) rfl ?_); refine box_event ?hg (N := 1) ?hd (cs := #[.int .i64 a0_0, .string a0_1, .bool a0_2, .slice A0_3 l0_3.length c0_3, .int .i64 a0_4, .slice A0_5 l0_5.length c0_5]) (t := 79) ?hr ?_; (case hd => rfl); (case hg => rfl); (case hr => first | (go_simp; done) | (go_simp; rfl)); intro gb435 hg w11 hbox hb; have n0_ := Aside0.mk (below_step (by repeat (first | (with_reducible first | exact HB.out | apply below_alloc | apply pw_below_drewN | apply below_drew1) | exact HB.out)) hb); have n1_ := Aside0.mk (hbox); have n2_ := Aside0.mk ((by rw [hg]; exact (below_size (by repeat (first | (with_reducible first | exact HB.out | apply below_alloc | apply pw_below_drewN | apply below_drew1) | exact HB.out))) : w.heap.size ≤ gb435)); have n3_ := Aside0.mk ((by rw [hg]; exact (below_size (by repeat (first | (with_reducible first | exact HB.out | apply below_alloc | apply pw_below_drewN | apply below_drew1) | exact HB.out))) : w.heap.size ≤ gb435)); clear HB; have HB := n0_; have BK435 := n1_; have GW435 := n2_; have GE435 := n3_; clear n0_ n1_ n2_ n3_; clear hb hbox hg; have hcz12_0 : w11.cell? ⟨gb435, 0, none⟩ = some (.int .i64 a0_0) := (blk_cell BK435.out 0).trans rfl; have hcz12_1 : w11.cell? ⟨gb435, 1, none⟩ = some (.string a0_1) := (blk_cell BK435.out 1).trans rfl; have hcz12_2 : w11.cell? ⟨gb435, 2, none⟩ = some (.bool a0_2) := (blk_cell BK435.out 2).trans rfl; have hcz12_3 : w11.cell? ⟨gb435, 3, none⟩ = some (.slice A0_3 l0_3.length c0_3) := (blk_cell BK435.out 3).trans rfl; have hcz12_4 : w11.cell? ⟨gb435, 4, none⟩ = some (.int .i64 a0_4) := (blk_cell BK435.out 4).trans rfl; have hcz12_5 : w11.cell? ⟨gb435, 5, none⟩ = some (.slice A0_5 l0_5.length c0_5) := (blk_cell BK435.out 5).trans rfl; have hfz12_0 := blk_frozen BK435.out 0; have hfz12_1 := blk_frozen BK435.out 1; have hfz12_2 := blk_frozen BK435.out 2; have hfz12_3 := blk_frozen BK435.out 3; have hfz12_4 := blk_frozen BK435.out 4; have hfz12_5 := blk_frozen BK435.out 5))
        go_ret
        exact ⟨by first | rfl | (simp [errW_none, errW_some] <;> rfl) | (simp [*, errW_none, errW_some] <;> rfl), by repeat (first | (with_reducible first | exact HB.out | apply below_alloc | apply pw_below_drewN | apply below_drew1 | refine below_set ?_ GE435.out) | exact HB.out)⟩

/-! ### laws_zzFits14: function 35 -/
def laws_zzFits14.l0 : Nat → List (S79) → Int → Int → Option (Bool)
  | 0, _, _, _ => none
  | k + 1, x8, x9, x10 => if x10 < x9 then (if 0 ≤ x10 then (if x10 < (x8.length : Int) then ((laws_zzFits15.f ((rd_T79 x8 x10).f0) ((rd_T79 x8 x10).f1) ((rd_T79 x8 x10).f2) ((rd_T79 x8 x10).f3) ((rd_T79 x8 x10).f4) ((rd_T79 x8 x10).f5)).bind fun t438 => (if t438 = true then (laws_zzFits14.l0 k x8 x9 (wrap64 (x10 + 1))) else (some false))) else (none)) else (none)) else (some true)
def laws_zzFits14.f (k : Nat) (l0 : List (S79)) : Option (Bool) := if (l0.length : Int) > 2147483647 then (some false) else (laws_zzFits14.l0 k l0 (l0.length : Int) 0)
set_option maxHeartbeats 8000000 in
set_option maxRecDepth 100000 in
theorem laws_zzFits14.calls (k : Nat) (A0 : Option Addr) (c0 : Nat) (l0 : List (S79)) (r : Bool) (w : World) (hr0 : Kd.C k79 w A0 l0.length l0) (hc0 : l0.length ≤ c0) (h : laws_zzFits14.f k l0 = some r) :
    Calls Tryd.prog 35 #[.slice A0 l0.length c0] w fun e w' => e = .returned (.bool r) ∧ Below w.heap.size w w' := by
  have hu79 := Tryd.underlying79
  have HR0 := Aside0.mk hr0
  have HC0 := Aside0.mk hc0
  clear hr0 hc0
  have HB := Aside0.mk (Below.refl w.heap.size w)
  have H : (if (l0.length : Int) > 2147483647 then (some false) else (laws_zzFits14.l0 k l0 (l0.length : Int) 0)) = some r := h
  clear h
  by_cases c2 : (l0.length : Int) > 2147483647
  · rw [if_pos c2] at H
    have c2b0 : decide (2147483647 < (l0.length : Int)) = true := decide_eq_true c2
    have c2b1 : decide (2147483647 < l0.length) = true := decide_eq_true (by omega)
    clear c2
    obtain rfl := Option.some.inj H
    go_enter Tryd.func35, Tryd.ntmps35
    go_wp2
    go_ret
    exact ⟨by first | rfl | (simp [errW_none, errW_some] <;> rfl) | (simp [*, errW_none, errW_some] <;> rfl), by repeat (first | (with_reducible first | exact HB.out | apply below_alloc | apply pw_below_drewN | apply below_drew1) | exact HB.out)⟩
  · rw [if_neg c2] at H
    have c2b0 : decide (2147483647 < (l0.length : Int)) = false := decide_eq_false c2
    have c2b1 : decide (2147483647 < l0.length) = false := decide_eq_false (by omega)
    clear c2
    have H' := Aside0.mk H
    clear H
    go_enter Tryd.func35, Tryd.ntmps35
    go_wp2
    go_loopg [10] k (fun kq v10 w' => ∃ (x10_1 : Int), v10 = .int .i64 x10_1 ∧ Aside0 (laws_zzFits14.l0 kq l0 (l0.length : Int) x10_1 = some r) ∧ Aside0 (kq ≤ k) ∧ Aside0 (Below w.heap.size w w'))
    case atStart => exact ⟨(0), (by first | rfl | (simp; done) | (simp [*]; done)), H', ⟨Nat.le_refl _⟩, ⟨by repeat (first | (with_reducible first | exact HB.out | apply below_alloc | apply pw_below_drewN | apply below_drew1) | exact HB.out)⟩⟩
    case round =>
      clear H'
      try clear c2
      try clear c2b0
      try clear c2b1
      try clear p2
      obtain ⟨x10_1, rfl, HA, HK1, HB⟩ := hrel
      cases gk with
      | zero => exact absurd HA.out (by simp [laws_zzFits14.l0])
      | succ k1 =>
        have H := HA.out
        clear HA
        simp only [laws_zzFits14.l0] at H
        by_cases c3 : x10_1 < (l0.length : Int)
        · rw [if_pos c3] at H
          have c3b0 : decide (x10_1 < (l0.length : Int)) = true := decide_eq_true c3
          clear c3
          by_cases c4 : 0 ≤ x10_1
          · rw [if_pos c4] at H
            have c4b0 : decide (0 ≤ x10_1) = true := decide_eq_true c4
            clear c4
            by_cases c5 : x10_1 < (l0.length : Int)
            · rw [if_pos c5] at H
              have c5b0 : decide (x10_1 < (l0.length : Int)) = true := decide_eq_true c5
              clear c5
              replace H := Option.bind_eq_some_iff.mp H
              obtain ⟨t438, A60, H⟩ := H
              replace H : (if t438 = true then (laws_zzFits14.l0 k1 l0 (l0.length : Int) (wrap64 (x10_1 + 1))) else (some false)) = some r := H
              have A6 := Aside0.mk A60
              clear A60
              by_cases c7 : t438 = true
              · subst c7
                have H1 : (laws_zzFits14.l0 k1 l0 (l0.length : Int) (wrap64 (x10_1 + 1))) = some r := by rw [if_pos rfl] at H; exact H
                clear H
                have H := H1
                clear H1
                have H' := Aside0.mk H
                clear H
                have p436 : 0 ≤ (x10_1 : Int) := of_decide_eq_true (by first | (with_reducible assumption) | assumption)
                have q436 : x10_1 < (l0.length : Int) := of_decide_eq_true (by first | (with_reducible assumption) | assumption)
                obtain ⟨ad436, A436_3, c436_3, A436_5, c436_5, e436, hx436_0, hx436_1, hx436_2, hx436_3, hx436_4, hx436_5, hl436_3, hi436_3, hl436_5, hi436_5⟩ := at_T79 HR0.out x10_1 p436 q436
                cases e436
                replace hx436_0 := (HB.out.cell (World.block_lt_of_cell? w _ hx436_0)).trans hx436_0
                replace hx436_1 := (HB.out.cell (World.block_lt_of_cell? w _ hx436_1)).trans hx436_1
                replace hx436_2 := (HB.out.cell (World.block_lt_of_cell? w _ hx436_2)).trans hx436_2
                replace hx436_3 := (HB.out.cell (World.block_lt_of_cell? w _ hx436_3)).trans hx436_3
                replace hx436_4 := (HB.out.cell (World.block_lt_of_cell? w _ hx436_4)).trans hx436_4
                replace hx436_5 := (HB.out.cell (World.block_lt_of_cell? w _ hx436_5)).trans hx436_5
                have HR436_3 := Aside0.mk hi436_3
                have HC436_3 := Aside0.mk hl436_3
                clear hi436_3 hl436_3
                have HR436_5 := Aside0.mk hi436_5
                have HC436_5 := Aside0.mk hl436_5
                clear hi436_5 hl436_5
                replace p436 := eq_true p436
                replace q436 := eq_true q436
                go_wp2_with (first | ((with_reducible refine gate_dst (N := 4) rfl ?_); refine box_event ?hg (N := 4) ?hd (cs := #[.int .i64 0, .string (⟨#[]⟩ : ByteArray), .bool false, .slice none 0 0, .int .i64 0, .slice none 0 0]) (t := 79) ?hr ?_; (case hd => rfl); (case hg => rfl); (case hr => first | (go_simp; done) | (go_simp; rfl)); intro gb437 hg w8 hbox hb; have n0_ := Aside0.mk (below_step (by repeat (first | (with_reducible first | exact HB.out | apply below_alloc | apply pw_below_drewN | apply below_drew1) | exact HB.out)) hb); have n1_ := Aside0.mk (hbox); have n2_ := Aside0.mk ((by rw [hg]; exact (below_size (by repeat (first | (with_reducible first | exact HB.out | apply below_alloc | apply pw_below_drewN | apply below_drew1) | exact HB.out))) : w.heap.size ≤ gb437)); have n3_ := Aside0.mk ((by rw [hg]; exact (below_size (by repeat (first | (with_reducible first | exact HB.out | apply below_alloc | apply pw_below_drewN | apply below_drew1) | exact HB.out))) : w.heap.size ≤ gb437)); clear HB; have HB := n0_; have BK437 := n1_; have GW437 := n2_; have GE437 := n3_; clear n0_ n1_ n2_ n3_; clear hb hbox hg; have hcz9_0 : w8.cell? ⟨gb437, 0, none⟩ = some (.int .i64 0) := (blk_cell BK437.out 0).trans rfl; have hcz9_1 : w8.cell? ⟨gb437, 1, none⟩ = some (.string (⟨#[]⟩ : ByteArray)) := (blk_cell BK437.out 1).trans rfl; have hcz9_2 : w8.cell? ⟨gb437, 2, none⟩ = some (.bool false) := (blk_cell BK437.out 2).trans rfl; have hcz9_3 : w8.cell? ⟨gb437, 3, none⟩ = some (.slice none 0 0) := (blk_cell BK437.out 3).trans rfl; have hcz9_4 : w8.cell? ⟨gb437, 4, none⟩ = some (.int .i64 0) := (blk_cell BK437.out 4).trans rfl; have hcz9_5 : w8.cell? ⟨gb437, 5, none⟩ = some (.slice none 0 0) := (blk_cell BK437.out 5).trans rfl; have hfz9_0 := blk_frozen BK437.out 0; have hfz9_1 := blk_frozen BK437.out 1; have hfz9_2 := blk_frozen BK437.out 2; have hfz9_3 := blk_frozen BK437.out 3; have hfz9_4 := blk_frozen BK437.out 4; have hfz9_5 := blk_frozen BK437.out 5) | ((with_reducible refine gate_callee (f := 69) rfl ?_); refine goesL_ (some 15) rfl rfl Tryd.func69 (by kernel_rfl) rfl #[.agg #[.int .i64 ((rd_T79 l0 x10_1).f0), .string ((rd_T79 l0 x10_1).f1), .bool ((rd_T79 l0 x10_1).f2), .slice A436_3 ((rd_T79 l0 x10_1).f3).length c436_3, .int .i64 ((rd_T79 l0 x10_1).f4), .slice A436_5 ((rd_T79 l0 x10_1).f5).length c436_5]] rfl (by (try simp only [List.map_toArray, List.map_cons, List.map_nil]); first | done | rfl | (simp only [List.length_drop, List.length_take]; rfl)) ?_; (with_reducible refine (laws_zzFits15.calls ((rd_T79 l0 x10_1).f0) ((rd_T79 l0 x10_1).f1) ((rd_T79 l0 x10_1).f2) _ _ ((rd_T79 l0 x10_1).f3) ((rd_T79 l0 x10_1).f4) _ _ ((rd_T79 l0 x10_1).f5) true _ ?side1 ?side2 ?side3 ?side4 A6.out).mono ?_); (case side1 => exact Kd.C_below HR436_3.out (by repeat (first | (with_reducible first | exact HB.out | apply below_alloc | apply pw_below_drewN | apply below_drew1 | refine below_set ?_ GE437.out) | exact HB.out))); (case side2 => exact HC436_3.out); (case side3 => exact Kd.C_below HR436_5.out (by repeat (first | (with_reducible first | exact HB.out | apply below_alloc | apply pw_below_drewN | apply below_drew1 | refine below_set ?_ GE437.out) | exact HB.out))); (case side4 => exact HC436_5.out); rintro e w10 ⟨rfl, hb⟩; refine ⟨_, rfl, ?_⟩; have n0_ := Aside0.mk (blk_below (g := gb437) (o := .cells #[.int .i64 ((rd_T79 l0 x10_1).f0), .string ((rd_T79 l0 x10_1).f1), .bool ((rd_T79 l0 x10_1).f2), .slice A436_3 ((rd_T79 l0 x10_1).f3).length c436_3, .int .i64 ((rd_T79 l0 x10_1).f4), .slice A436_5 ((rd_T79 l0 x10_1).f5).length c436_5] 79 (0, 0)) (by (with_reducible repeat (first | refine blk_drewN ?_ _ | refine blk_drew ?_ | refine blk_alloc ?_ _)); refine blk_put (cs := #[.int .i64 ((rd_T79 l0 x10_1).f0), .string ((rd_T79 l0 x10_1).f1), .bool ((rd_T79 l0 x10_1).f2), .slice A436_3 ((rd_T79 l0 x10_1).f3).length c436_3, .int .i64 ((rd_T79 l0 x10_1).f4), .slice none 0 0]) ?_ 5 _ rfl; (with_reducible repeat (first | refine blk_drewN ?_ _ | refine blk_drew ?_ | refine blk_alloc ?_ _)); refine blk_put (cs := #[.int .i64 ((rd_T79 l0 x10_1).f0), .string ((rd_T79 l0 x10_1).f1), .bool ((rd_T79 l0 x10_1).f2), .slice A436_3 ((rd_T79 l0 x10_1).f3).length c436_3, .int .i64 0, .slice none 0 0]) ?_ 4 _ rfl; (with_reducible repeat (first | refine blk_drewN ?_ _ | refine blk_drew ?_ | refine blk_alloc ?_ _)); refine blk_put (cs := #[.int .i64 ((rd_T79 l0 x10_1).f0), .string ((rd_T79 l0 x10_1).f1), .bool ((rd_T79 l0 x10_1).f2), .slice none 0 0, .int .i64 0, .slice none 0 0]) ?_ 3 _ rfl; (with_reducible repeat (first | refine blk_drewN ?_ _ | refine blk_drew ?_ | refine blk_alloc ?_ _)); refine blk_put (cs := #[.int .i64 ((rd_T79 l0 x10_1).f0), .string ((rd_T79 l0 x10_1).f1), .bool false, .slice none 0 0, .int .i64 0, .slice none 0 0]) ?_ 2 _ rfl; (with_reducible repeat (first | refine blk_drewN ?_ _ | refine blk_drew ?_ | refine blk_alloc ?_ _)); refine blk_put (cs := #[.int .i64 ((rd_T79 l0 x10_1).f0), .string (⟨#[]⟩ : ByteArray), .bool false, .slice none 0 0, .int .i64 0, .slice none 0 0]) ?_ 1 _ rfl; (with_reducible repeat (first | refine blk_drewN ?_ _ | refine blk_drew ?_ | refine blk_alloc ?_ _)); refine blk_put (cs := #[.int .i64 0, .string (⟨#[]⟩ : ByteArray), .bool false, .slice none 0 0, .int .i64 0, .slice none 0 0]) ?_ 0 _ rfl; (with_reducible repeat (first | refine blk_drewN ?_ _ | refine blk_drew ?_ | refine blk_alloc ?_ _)); exact BK437.out) hb); have n1_ := Aside0.mk (below_step (by repeat (first | (with_reducible first | exact HB.out | apply below_alloc | apply pw_below_drewN | apply below_drew1 | refine below_set ?_ GE437.out) | exact HB.out)) hb); clear BK437; clear HB; have BK437 := n0_; have HB := n1_; clear n0_ n1_; (try clear hb); (try clear hb2); (try clear hk); (try clear hi)))
                go_roundg k1
                case measure => have := HK1.out; omega
                case rel => exact ⟨(wrap64 (x10_1 + 1)), (by first | rfl | (simp; done) | (simp [*]; done)), H', ⟨by have := HK1.out; omega⟩, ⟨by repeat (first | (with_reducible first | exact HB.out | apply below_alloc | apply pw_below_drewN | apply below_drew1 | refine below_set ?_ GE437.out) | exact HB.out)⟩⟩
              · replace c7 := Bool.eq_false_iff.mpr c7
                subst c7
                have H1 : (some false) = some r := by rw [if_neg (show ¬ (false = true) by decide)] at H; exact H
                clear H
                have H := H1
                clear H1
                obtain rfl := Option.some.inj H
                have p436 : 0 ≤ (x10_1 : Int) := of_decide_eq_true (by first | (with_reducible assumption) | assumption)
                have q436 : x10_1 < (l0.length : Int) := of_decide_eq_true (by first | (with_reducible assumption) | assumption)
                obtain ⟨ad436, A436_3, c436_3, A436_5, c436_5, e436, hx436_0, hx436_1, hx436_2, hx436_3, hx436_4, hx436_5, hl436_3, hi436_3, hl436_5, hi436_5⟩ := at_T79 HR0.out x10_1 p436 q436
                cases e436
                replace hx436_0 := (HB.out.cell (World.block_lt_of_cell? w _ hx436_0)).trans hx436_0
                replace hx436_1 := (HB.out.cell (World.block_lt_of_cell? w _ hx436_1)).trans hx436_1
                replace hx436_2 := (HB.out.cell (World.block_lt_of_cell? w _ hx436_2)).trans hx436_2
                replace hx436_3 := (HB.out.cell (World.block_lt_of_cell? w _ hx436_3)).trans hx436_3
                replace hx436_4 := (HB.out.cell (World.block_lt_of_cell? w _ hx436_4)).trans hx436_4
                replace hx436_5 := (HB.out.cell (World.block_lt_of_cell? w _ hx436_5)).trans hx436_5
                have HR436_3 := Aside0.mk hi436_3
                have HC436_3 := Aside0.mk hl436_3
                clear hi436_3 hl436_3
                have HR436_5 := Aside0.mk hi436_5
                have HC436_5 := Aside0.mk hl436_5
                clear hi436_5 hl436_5
                replace p436 := eq_true p436
                replace q436 := eq_true q436
                go_wp2_with (first | ((with_reducible refine gate_dst (N := 4) rfl ?_); refine box_event ?hg (N := 4) ?hd (cs := #[.int .i64 0, .string (⟨#[]⟩ : ByteArray), .bool false, .slice none 0 0, .int .i64 0, .slice none 0 0]) (t := 79) ?hr ?_; (case hd => rfl); (case hg => rfl); (case hr => first | (go_simp; done) | (go_simp; rfl)); intro gb437 hg w11 hbox hb; have n0_ := Aside0.mk (below_step (by repeat (first | (with_reducible first | exact HB.out | apply below_alloc | apply pw_below_drewN | apply below_drew1) | exact HB.out)) hb); have n1_ := Aside0.mk (hbox); have n2_ := Aside0.mk ((by rw [hg]; exact (below_size (by repeat (first | (with_reducible first | exact HB.out | apply below_alloc | apply pw_below_drewN | apply below_drew1) | exact HB.out))) : w.heap.size ≤ gb437)); have n3_ := Aside0.mk ((by rw [hg]; exact (below_size (by repeat (first | (with_reducible first | exact HB.out | apply below_alloc | apply pw_below_drewN | apply below_drew1) | exact HB.out))) : w.heap.size ≤ gb437)); clear HB; have HB := n0_; have BK437 := n1_; have GW437 := n2_; have GE437 := n3_; clear n0_ n1_ n2_ n3_; clear hb hbox hg; have hcz12_0 : w11.cell? ⟨gb437, 0, none⟩ = some (.int .i64 0) := (blk_cell BK437.out 0).trans rfl; have hcz12_1 : w11.cell? ⟨gb437, 1, none⟩ = some (.string (⟨#[]⟩ : ByteArray)) := (blk_cell BK437.out 1).trans rfl; have hcz12_2 : w11.cell? ⟨gb437, 2, none⟩ = some (.bool false) := (blk_cell BK437.out 2).trans rfl; have hcz12_3 : w11.cell? ⟨gb437, 3, none⟩ = some (.slice none 0 0) := (blk_cell BK437.out 3).trans rfl; have hcz12_4 : w11.cell? ⟨gb437, 4, none⟩ = some (.int .i64 0) := (blk_cell BK437.out 4).trans rfl; have hcz12_5 : w11.cell? ⟨gb437, 5, none⟩ = some (.slice none 0 0) := (blk_cell BK437.out 5).trans rfl; have hfz12_0 := blk_frozen BK437.out 0; have hfz12_1 := blk_frozen BK437.out 1; have hfz12_2 := blk_frozen BK437.out 2; have hfz12_3 := blk_frozen BK437.out 3; have hfz12_4 := blk_frozen BK437.out 4; have hfz12_5 := blk_frozen BK437.out 5) | ((with_reducible refine gate_callee (f := 69) rfl ?_); refine goesL_ (some 15) rfl rfl Tryd.func69 (by kernel_rfl) rfl #[.agg #[.int .i64 ((rd_T79 l0 x10_1).f0), .string ((rd_T79 l0 x10_1).f1), .bool ((rd_T79 l0 x10_1).f2), .slice A436_3 ((rd_T79 l0 x10_1).f3).length c436_3, .int .i64 ((rd_T79 l0 x10_1).f4), .slice A436_5 ((rd_T79 l0 x10_1).f5).length c436_5]] rfl (by (try simp only [List.map_toArray, List.map_cons, List.map_nil]); first | done | rfl | (simp only [List.length_drop, List.length_take]; rfl)) ?_; (with_reducible refine (laws_zzFits15.calls ((rd_T79 l0 x10_1).f0) ((rd_T79 l0 x10_1).f1) ((rd_T79 l0 x10_1).f2) _ _ ((rd_T79 l0 x10_1).f3) ((rd_T79 l0 x10_1).f4) _ _ ((rd_T79 l0 x10_1).f5) false _ ?side1 ?side2 ?side3 ?side4 A6.out).mono ?_); (case side1 => exact Kd.C_below HR436_3.out (by repeat (first | (with_reducible first | exact HB.out | apply below_alloc | apply pw_below_drewN | apply below_drew1 | refine below_set ?_ GE437.out) | exact HB.out))); (case side2 => exact HC436_3.out); (case side3 => exact Kd.C_below HR436_5.out (by repeat (first | (with_reducible first | exact HB.out | apply below_alloc | apply pw_below_drewN | apply below_drew1 | refine below_set ?_ GE437.out) | exact HB.out))); (case side4 => exact HC436_5.out); rintro e w13 ⟨rfl, hb⟩; refine ⟨_, rfl, ?_⟩; have n0_ := Aside0.mk (blk_below (g := gb437) (o := .cells #[.int .i64 ((rd_T79 l0 x10_1).f0), .string ((rd_T79 l0 x10_1).f1), .bool ((rd_T79 l0 x10_1).f2), .slice A436_3 ((rd_T79 l0 x10_1).f3).length c436_3, .int .i64 ((rd_T79 l0 x10_1).f4), .slice A436_5 ((rd_T79 l0 x10_1).f5).length c436_5] 79 (0, 0)) (by (with_reducible repeat (first | refine blk_drewN ?_ _ | refine blk_drew ?_ | refine blk_alloc ?_ _)); refine blk_put (cs := #[.int .i64 ((rd_T79 l0 x10_1).f0), .string ((rd_T79 l0 x10_1).f1), .bool ((rd_T79 l0 x10_1).f2), .slice A436_3 ((rd_T79 l0 x10_1).f3).length c436_3, .int .i64 ((rd_T79 l0 x10_1).f4), .slice none 0 0]) ?_ 5 _ rfl; (with_reducible repeat (first | refine blk_drewN ?_ _ | refine blk_drew ?_ | refine blk_alloc ?_ _)); refine blk_put (cs := #[.int .i64 ((rd_T79 l0 x10_1).f0), .string ((rd_T79 l0 x10_1).f1), .bool ((rd_T79 l0 x10_1).f2), .slice A436_3 ((rd_T79 l0 x10_1).f3).length c436_3, .int .i64 0, .slice none 0 0]) ?_ 4 _ rfl; (with_reducible repeat (first | refine blk_drewN ?_ _ | refine blk_drew ?_ | refine blk_alloc ?_ _)); refine blk_put (cs := #[.int .i64 ((rd_T79 l0 x10_1).f0), .string ((rd_T79 l0 x10_1).f1), .bool ((rd_T79 l0 x10_1).f2), .slice none 0 0, .int .i64 0, .slice none 0 0]) ?_ 3 _ rfl; (with_reducible repeat (first | refine blk_drewN ?_ _ | refine blk_drew ?_ | refine blk_alloc ?_ _)); refine blk_put (cs := #[.int .i64 ((rd_T79 l0 x10_1).f0), .string ((rd_T79 l0 x10_1).f1), .bool false, .slice none 0 0, .int .i64 0, .slice none 0 0]) ?_ 2 _ rfl; (with_reducible repeat (first | refine blk_drewN ?_ _ | refine blk_drew ?_ | refine blk_alloc ?_ _)); refine blk_put (cs := #[.int .i64 ((rd_T79 l0 x10_1).f0), .string (⟨#[]⟩ : ByteArray), .bool false, .slice none 0 0, .int .i64 0, .slice none 0 0]) ?_ 1 _ rfl; (with_reducible repeat (first | refine blk_drewN ?_ _ | refine blk_drew ?_ | refine blk_alloc ?_ _)); refine blk_put (cs := #[.int .i64 0, .string (⟨#[]⟩ : ByteArray), .bool false, .slice none 0 0, .int .i64 0, .slice none 0 0]) ?_ 0 _ rfl; (with_reducible repeat (first | refine blk_drewN ?_ _ | refine blk_drew ?_ | refine blk_alloc ?_ _)); exact BK437.out) hb); have n1_ := Aside0.mk (below_step (by repeat (first | (with_reducible first | exact HB.out | apply below_alloc | apply pw_below_drewN | apply below_drew1 | refine below_set ?_ GE437.out) | exact HB.out)) hb); clear BK437; clear HB; have BK437 := n0_; have HB := n1_; clear n0_ n1_; (try clear hb); (try clear hb2); (try clear hk); (try clear hi)))
                go_ret
                exact ⟨by first | rfl | (simp [errW_none, errW_some] <;> rfl) | (simp [*, errW_none, errW_some] <;> rfl), by repeat (first | (with_reducible first | exact HB.out | apply below_alloc | apply pw_below_drewN | apply below_drew1 | refine below_set ?_ GE437.out) | exact HB.out)⟩
            · rw [if_neg c5] at H
              exact absurd H (by simp)
          · rw [if_neg c4] at H
            exact absurd H (by simp)
        · rw [if_neg c3] at H
          have c3b0 : decide (x10_1 < (l0.length : Int)) = false := decide_eq_false c3
          clear c3
          obtain rfl := Option.some.inj H
          go_wp2
          go_ret
          exact ⟨by first | rfl | (simp [errW_none, errW_some] <;> rfl) | (simp [*, errW_none, errW_some] <;> rfl), by repeat (first | (with_reducible first | exact HB.out | apply below_alloc | apply pw_below_drewN | apply below_drew1) | exact HB.out)⟩

-- NOT PRINTED: function 36 (laws_packet)

/-! ### spec_Size: function 71 -/
mutual
def spec_Size.l0 : Nat → Int → List (S33) → Int → Int → Option (Int)
  | 0, _, _, _, _ => none
  | k + 1, x3, x11, x12, x13 => if x13 < x12 then (if 0 ≤ x13 then (if x13 < (x11.length : Int) then ((spec_Size.f k ((rd_T33 x11 x13).f0) ((rd_T33 x11 x13).f1) ((rd_T33 x11 x13).f2) ((rd_T33 x11 x13).f3) ((rd_T33 x11 x13).f4)).bind fun t444 => (spec_Size.l0 k (wrap64 (x3 + t444)) x11 x12 (wrap64 (x13 + 1)))) else (none)) else (none)) else (some x3)
def spec_Size.f : Nat → Int → Int → Bool → List Int → List (S33) → Option (Int)
  | 0, _, _, _, _, _ => none
  | k + 1, a0_0, a0_1, a0_2, l0_3, l0_4 => spec_Size.l0 k (wrap64 (1 + (l0_3.length : Int))) l0_4 (l0_4.length : Int) 0
end
theorem spec_Size.mono_l : ∀ k, (∀ y0 y1 y2 y3 y4, LeO (spec_Size.f k y0 y1 y2 y3 y4) (spec_Size.f (k + 1) y0 y1 y2 y3 y4)) ∧ (∀ y0 y1 y2 y3, LeO (spec_Size.l0 k y0 y1 y2 y3) (spec_Size.l0 (k + 1) y0 y1 y2 y3))
  | 0 => ⟨fun _ _ _ _ _ r h => by simp [spec_Size.f] at h, fun _ _ _ _ r h => by simp [spec_Size.l0] at h⟩
  | k + 1 => by
    obtain ⟨ih0, ih1⟩ := spec_Size.mono_l k
    refine ⟨?_, ?_⟩
    · intro y0 y1 y2 y3 y4
      unfold spec_Size.f
      repeat' first
      | (with_reducible exact ih0 _ _ _ _ _)
      | (with_reducible exact ih1 _ _ _ _)
      | (with_reducible exact LeO.refl _)
      | (with_reducible exact LeO.none _)
      | (with_reducible refine LeO.ite ?_ ?_)
      | (with_reducible refine LeO.bind ?_ (fun _ => ?_))
      | exact ih0 _ _ _ _ _
      | exact ih1 _ _ _ _
      | exact LeO.none _
      | refine LeO.ite ?_ ?_
      | refine LeO.bind ?_ (fun _ => ?_)
    · intro y0 y1 y2 y3
      unfold spec_Size.l0
      repeat' first
      | (with_reducible exact ih0 _ _ _ _ _)
      | (with_reducible exact ih1 _ _ _ _)
      | (with_reducible exact LeO.refl _)
      | (with_reducible exact LeO.none _)
      | (with_reducible refine LeO.ite ?_ ?_)
      | (with_reducible refine LeO.bind ?_ (fun _ => ?_))
      | exact ih0 _ _ _ _ _
      | exact ih1 _ _ _ _
      | exact LeO.none _
      | refine LeO.ite ?_ ?_
      | refine LeO.bind ?_ (fun _ => ?_)
theorem spec_Size.mono : ∀ a0 a1 a2 a3 a4 k, LeO (spec_Size.f k a0 a1 a2 a3 a4) (spec_Size.f (k + 1) a0 a1 a2 a3 a4) := by
  intro a0 a1 a2 a3 a4 k
  obtain ⟨ih0, ih1⟩ := spec_Size.mono_l k
  exact ih0 a0 a1 a2 a3 a4
set_option maxHeartbeats 8000000 in
set_option maxRecDepth 100000 in
theorem spec_Size.calls (k : Nat) : ∀ (a0_0 : Int) (a0_1 : Int) (a0_2 : Bool) (A0_3 : Option Addr) (c0_3 : Nat) (l0_3 : List Int) (A0_4 : Option Addr) (c0_4 : Nat) (l0_4 : List (S33)) (r : Int) (w : World) (hr0_3 : Kd.C (Kd.int .u8) w A0_3 l0_3.length l0_3) (hc0_3 : l0_3.length ≤ c0_3) (hr0_4 : Kd.C k33 w A0_4 l0_4.length l0_4) (hc0_4 : l0_4.length ≤ c0_4) (h : spec_Size.f k a0_0 a0_1 a0_2 l0_3 l0_4 = some r),
    Calls Tryd.prog 71 #[.agg #[.int .i64 a0_0, .int .i64 a0_1, .bool a0_2, .slice A0_3 l0_3.length c0_3, .slice A0_4 l0_4.length c0_4]] w fun e w' => e = .returned (.int .i64 r) ∧ Below w.heap.size w w' := by
  induction k using Nat.strongRecOn with
  | _ k ih =>
  intro a0_0 a0_1 a0_2 A0_3 c0_3 l0_3 A0_4 c0_4 l0_4 r w hr0_3 hc0_3 hr0_4 hc0_4 h
  cases k with
  | zero => exact absurd h (by simp [spec_Size.f])
  | succ k =>
  simp only [spec_Size.f] at h
  have hu33 := Tryd.underlying33
  have HR0_3 := Aside0.mk hr0_3
  have HC0_3 := Aside0.mk hc0_3
  clear hr0_3 hc0_3
  have HR0_4 := Aside0.mk hr0_4
  have HC0_4 := Aside0.mk hc0_4
  clear hr0_4 hc0_4
  have HB := Aside0.mk (Below.refl w.heap.size w)
  have H : (spec_Size.l0 k (wrap64 (1 + (l0_3.length : Int))) l0_4 (l0_4.length : Int) 0) = some r := h
  clear h
  have H' := Aside0.mk H
  clear H
  go_enter Tryd.func71, Tryd.ntmps71
  go_wp2_with (first | ((with_reducible refine gate_dst (N := 1) rfl ?_); refine box_event ?hg (N := 1) ?hd (cs := #[.int .i64 a0_0, .int .i64 a0_1, .bool a0_2, .slice A0_3 l0_3.length c0_3, .slice A0_4 l0_4.length c0_4]) (t := 33) ?hr ?_; (case hd => rfl); (case hg => rfl); (case hr => first | (go_simp; done) | (go_simp; rfl)); intro gb441 hg w2 hbox hb; have n0_ := Aside0.mk (below_step (by repeat (first | (with_reducible first | exact HB.out | apply below_alloc | apply pw_below_drewN | apply below_drew1) | exact HB.out)) hb); have n1_ := Aside0.mk (hbox); have n2_ := Aside0.mk ((by rw [hg]; exact (below_size (by repeat (first | (with_reducible first | exact HB.out | apply below_alloc | apply pw_below_drewN | apply below_drew1) | exact HB.out))) : w.heap.size ≤ gb441)); have n3_ := Aside0.mk ((by rw [hg]; exact (below_size (by repeat (first | (with_reducible first | exact HB.out | apply below_alloc | apply pw_below_drewN | apply below_drew1) | exact HB.out))) : w.heap.size ≤ gb441)); clear HB; have HB := n0_; have BK441 := n1_; have GW441 := n2_; have GE441 := n3_; clear n0_ n1_ n2_ n3_; clear hb hbox hg; have hcz3_0 : w2.cell? ⟨gb441, 0, none⟩ = some (.int .i64 a0_0) := (blk_cell BK441.out 0).trans rfl; have hcz3_1 : w2.cell? ⟨gb441, 1, none⟩ = some (.int .i64 a0_1) := (blk_cell BK441.out 1).trans rfl; have hcz3_2 : w2.cell? ⟨gb441, 2, none⟩ = some (.bool a0_2) := (blk_cell BK441.out 2).trans rfl; have hcz3_3 : w2.cell? ⟨gb441, 3, none⟩ = some (.slice A0_3 l0_3.length c0_3) := (blk_cell BK441.out 3).trans rfl; have hcz3_4 : w2.cell? ⟨gb441, 4, none⟩ = some (.slice A0_4 l0_4.length c0_4) := (blk_cell BK441.out 4).trans rfl; have hfz3_0 := blk_frozen BK441.out 0; have hfz3_1 := blk_frozen BK441.out 1; have hfz3_2 := blk_frozen BK441.out 2; have hfz3_3 := blk_frozen BK441.out 3; have hfz3_4 := blk_frozen BK441.out 4))
  go_loopg [3, 13] k (fun kq v3 v13 w' => ∃ (x3_1 : Int) (x13_1 : Int), v3 = .int .i64 x3_1 ∧ v13 = .int .i64 x13_1 ∧ Aside0 (spec_Size.l0 kq x3_1 l0_4 (l0_4.length : Int) x13_1 = some r) ∧ Aside0 (kq ≤ k) ∧ Aside0 (w'.heap[gb441]? = some (.cells #[.int .i64 a0_0, .int .i64 a0_1, .bool a0_2, (.slice A0_3 l0_3.length c0_3), (.slice A0_4 l0_4.length c0_4)] 33 (0, 0))) ∧ Aside0 (Below w.heap.size w w'))
  case atStart => exact ⟨(wrap64 (1 + (l0_3.length : Int))), (0), (by first | rfl | (simp; done) | (simp [*]; done)), (by first | rfl | (simp; done) | (simp [*]; done)), H', ⟨Nat.le_refl _⟩, ⟨by (with_reducible repeat (first | refine blk_drewN ?_ _ | refine blk_drew ?_ | refine blk_alloc ?_ _)); exact BK441.out⟩, ⟨by repeat (first | (with_reducible first | exact HB.out | apply below_alloc | apply pw_below_drewN | apply below_drew1 | refine below_set ?_ GE441.out) | exact HB.out)⟩⟩
  case round =>
    clear H'
    try clear p2
    try clear hcz3_0
    try clear hcz3_1
    try clear hcz3_2
    try clear hcz3_3
    try clear hcz3_4
    try clear hfz3_0
    try clear hfz3_1
    try clear hfz3_2
    try clear hfz3_3
    try clear hfz3_4
    obtain ⟨x3_1, x13_1, rfl, rfl, HA, HK1, BK441, HB⟩ := hrel
    cases gk with
    | zero => exact absurd HA.out (by simp [spec_Size.l0])
    | succ k1 =>
      have H := HA.out
      clear HA
      simp only [spec_Size.l0] at H
      by_cases c4 : x13_1 < (l0_4.length : Int)
      · rw [if_pos c4] at H
        have c4b0 : decide (x13_1 < (l0_4.length : Int)) = true := decide_eq_true c4
        clear c4
        by_cases c5 : 0 ≤ x13_1
        · rw [if_pos c5] at H
          have c5b0 : decide (0 ≤ x13_1) = true := decide_eq_true c5
          clear c5
          by_cases c6 : x13_1 < (l0_4.length : Int)
          · rw [if_pos c6] at H
            have c6b0 : decide (x13_1 < (l0_4.length : Int)) = true := decide_eq_true c6
            clear c6
            replace H := Option.bind_eq_some_iff.mp H
            obtain ⟨t444, A70, H⟩ := H
            replace H : (spec_Size.l0 k1 (wrap64 (x3_1 + t444)) l0_4 (l0_4.length : Int) (wrap64 (x13_1 + 1))) = some r := H
            have A7 := Aside0.mk A70
            clear A70
            have H' := Aside0.mk H
            clear H
            have p442 : 0 ≤ (x13_1 : Int) := of_decide_eq_true (by first | (with_reducible assumption) | assumption)
            have q442 : x13_1 < (l0_4.length : Int) := of_decide_eq_true (by first | (with_reducible assumption) | assumption)
            obtain ⟨ad442, A442_3, c442_3, A442_4, c442_4, e442, hx442_0, hx442_1, hx442_2, hx442_3, hx442_4, hl442_3, hi442_3, hl442_4, hi442_4⟩ := at_T33 HR0_4.out x13_1 p442 q442
            cases e442
            replace hx442_0 := (HB.out.cell (World.block_lt_of_cell? w _ hx442_0)).trans hx442_0
            replace hx442_1 := (HB.out.cell (World.block_lt_of_cell? w _ hx442_1)).trans hx442_1
            replace hx442_2 := (HB.out.cell (World.block_lt_of_cell? w _ hx442_2)).trans hx442_2
            replace hx442_3 := (HB.out.cell (World.block_lt_of_cell? w _ hx442_3)).trans hx442_3
            replace hx442_4 := (HB.out.cell (World.block_lt_of_cell? w _ hx442_4)).trans hx442_4
            have HR442_3 := Aside0.mk hi442_3
            have HC442_3 := Aside0.mk hl442_3
            clear hi442_3 hl442_3
            have HR442_4 := Aside0.mk hi442_4
            have HC442_4 := Aside0.mk hl442_4
            clear hi442_4 hl442_4
            replace p442 := eq_true p442
            replace q442 := eq_true q442
            go_wp2_with (first | ((with_reducible refine gate_dst (N := 5) rfl ?_); refine box_event ?hg (N := 5) ?hd (cs := #[.int .i64 0, .int .i64 0, .bool false, .slice none 0 0, .slice none 0 0]) (t := 33) ?hr ?_; (case hd => rfl); (case hg => rfl); (case hr => first | (go_simp; done) | (go_simp; rfl)); intro gb443 hg w8 hbox hb; have n0_ := Aside0.mk (blk_below (g := gb441) (o := .cells #[.int .i64 a0_0, .int .i64 a0_1, .bool a0_2, .slice A0_3 l0_3.length c0_3, .slice (some ad442) l0_4.length c0_4] 33 (0, 0)) (by (with_reducible repeat (first | refine blk_drewN ?_ _ | refine blk_drew ?_ | refine blk_alloc ?_ _)); exact BK441.out) hb); have n1_ := Aside0.mk (below_step (by repeat (first | (with_reducible first | exact HB.out | apply below_alloc | apply pw_below_drewN | apply below_drew1 | refine below_set ?_ GE441.out) | exact HB.out)) hb); have n2_ := Aside0.mk (hbox); have n3_ := Aside0.mk ((by rw [hg]; exact (below_size (by repeat (first | (with_reducible first | exact HB.out | apply below_alloc | apply pw_below_drewN | apply below_drew1 | refine below_set ?_ GE441.out) | exact HB.out))) : w.heap.size ≤ gb443)); have n4_ := Aside0.mk ((by rw [hg]; exact (below_size (by repeat (first | (with_reducible first | exact HB.out | apply below_alloc | apply pw_below_drewN | apply below_drew1 | refine below_set ?_ GE441.out) | exact HB.out))) : w.heap.size ≤ gb443)); have n5_ := Aside0.mk ((by rw [hg]; exact Nat.ne_of_lt (blk_lt (g := gb441) (o := .cells #[.int .i64 a0_0, .int .i64 a0_1, .bool a0_2, .slice A0_3 l0_3.length c0_3, .slice (some ad442) l0_4.length c0_4] 33 (0, 0)) (by (with_reducible repeat (first | refine blk_drewN ?_ _ | refine blk_drew ?_ | refine blk_alloc ?_ _)); exact BK441.out)) : gb441 ≠ gb443)); have n6_ := Aside0.mk ((by rw [hg]; exact Nat.ne_of_gt (blk_lt (g := gb441) (o := .cells #[.int .i64 a0_0, .int .i64 a0_1, .bool a0_2, .slice A0_3 l0_3.length c0_3, .slice (some ad442) l0_4.length c0_4] 33 (0, 0)) (by (with_reducible repeat (first | refine blk_drewN ?_ _ | refine blk_drew ?_ | refine blk_alloc ?_ _)); exact BK441.out)) : gb443 ≠ gb441)); clear BK441; clear HB; have BK441 := n0_; have HB := n1_; have BK443 := n2_; have GW443 := n3_; have GE443 := n4_; have NB441_443 := n5_; have NB443_441 := n6_; clear n0_ n1_ n2_ n3_ n4_ n5_ n6_; clear hb hbox hg; have hnb9 := NB443_441.out; have hnc9 := NB441_443.out; have hcz10_0 : w8.cell? ⟨gb443, 0, none⟩ = some (.int .i64 0) := (blk_cell BK443.out 0).trans rfl; have hcz10_1 : w8.cell? ⟨gb443, 1, none⟩ = some (.int .i64 0) := (blk_cell BK443.out 1).trans rfl; have hcz10_2 : w8.cell? ⟨gb443, 2, none⟩ = some (.bool false) := (blk_cell BK443.out 2).trans rfl; have hcz10_3 : w8.cell? ⟨gb443, 3, none⟩ = some (.slice none 0 0) := (blk_cell BK443.out 3).trans rfl; have hcz10_4 : w8.cell? ⟨gb443, 4, none⟩ = some (.slice none 0 0) := (blk_cell BK443.out 4).trans rfl; have hfz10_0 := blk_frozen BK443.out 0; have hfz10_1 := blk_frozen BK443.out 1; have hfz10_2 := blk_frozen BK443.out 2; have hfz10_3 := blk_frozen BK443.out 3; have hfz10_4 := blk_frozen BK443.out 4) | ((with_reducible refine gate_callee (f := 71) rfl ?_); refine goesL_ (some 19) rfl rfl Tryd.func71 (by kernel_rfl) rfl #[.agg #[.int .i64 ((rd_T33 l0_4 x13_1).f0), .int .i64 ((rd_T33 l0_4 x13_1).f1), .bool ((rd_T33 l0_4 x13_1).f2), .slice A442_3 ((rd_T33 l0_4 x13_1).f3).length c442_3, .slice A442_4 ((rd_T33 l0_4 x13_1).f4).length c442_4]] rfl (by (try simp only [List.map_toArray, List.map_cons, List.map_nil]); first | done | rfl | (simp only [List.length_drop, List.length_take]; rfl)) ?_; (with_reducible refine (ih k1 (by have := HK1.out; omega) ((rd_T33 l0_4 x13_1).f0) ((rd_T33 l0_4 x13_1).f1) ((rd_T33 l0_4 x13_1).f2) _ _ ((rd_T33 l0_4 x13_1).f3) _ _ ((rd_T33 l0_4 x13_1).f4) t444 _ ?side1 ?side2 ?side3 ?side4 A7.out).mono ?_); (case side1 => exact Kd.C_below HR442_3.out (by repeat (first | (with_reducible first | exact HB.out | apply below_alloc | apply pw_below_drewN | apply below_drew1 | refine below_set ?_ GE441.out | refine below_set ?_ GE443.out) | exact HB.out))); (case side2 => exact HC442_3.out); (case side3 => exact Kd.C_below HR442_4.out (by repeat (first | (with_reducible first | exact HB.out | apply below_alloc | apply pw_below_drewN | apply below_drew1 | refine below_set ?_ GE441.out | refine below_set ?_ GE443.out) | exact HB.out))); (case side4 => exact HC442_4.out); rintro e w11 ⟨rfl, hb⟩; refine ⟨_, rfl, ?_⟩; have n0_ := Aside0.mk (blk_below (g := gb441) (o := .cells #[.int .i64 a0_0, .int .i64 a0_1, .bool a0_2, .slice A0_3 l0_3.length c0_3, .slice (some ad442) l0_4.length c0_4] 33 (0, 0)) (by (with_reducible repeat (first | refine blk_drewN ?_ _ | refine blk_drew ?_ | refine blk_alloc ?_ _)); refine blk_far ?_ NB441_443.out _; (with_reducible repeat (first | refine blk_drewN ?_ _ | refine blk_drew ?_ | refine blk_alloc ?_ _)); refine blk_far ?_ NB441_443.out _; (with_reducible repeat (first | refine blk_drewN ?_ _ | refine blk_drew ?_ | refine blk_alloc ?_ _)); refine blk_far ?_ NB441_443.out _; (with_reducible repeat (first | refine blk_drewN ?_ _ | refine blk_drew ?_ | refine blk_alloc ?_ _)); refine blk_far ?_ NB441_443.out _; (with_reducible repeat (first | refine blk_drewN ?_ _ | refine blk_drew ?_ | refine blk_alloc ?_ _)); refine blk_far ?_ NB441_443.out _; (with_reducible repeat (first | refine blk_drewN ?_ _ | refine blk_drew ?_ | refine blk_alloc ?_ _)); exact BK441.out) hb); have n1_ := Aside0.mk (blk_below (g := gb443) (o := .cells #[.int .i64 ((rd_T33 l0_4 x13_1).f0), .int .i64 ((rd_T33 l0_4 x13_1).f1), .bool ((rd_T33 l0_4 x13_1).f2), .slice A442_3 ((rd_T33 l0_4 x13_1).f3).length c442_3, .slice A442_4 ((rd_T33 l0_4 x13_1).f4).length c442_4] 33 (0, 0)) (by (with_reducible repeat (first | refine blk_drewN ?_ _ | refine blk_drew ?_ | refine blk_alloc ?_ _)); refine blk_put (cs := #[.int .i64 ((rd_T33 l0_4 x13_1).f0), .int .i64 ((rd_T33 l0_4 x13_1).f1), .bool ((rd_T33 l0_4 x13_1).f2), .slice A442_3 ((rd_T33 l0_4 x13_1).f3).length c442_3, .slice none 0 0]) ?_ 4 _ rfl; (with_reducible repeat (first | refine blk_drewN ?_ _ | refine blk_drew ?_ | refine blk_alloc ?_ _)); refine blk_put (cs := #[.int .i64 ((rd_T33 l0_4 x13_1).f0), .int .i64 ((rd_T33 l0_4 x13_1).f1), .bool ((rd_T33 l0_4 x13_1).f2), .slice none 0 0, .slice none 0 0]) ?_ 3 _ rfl; (with_reducible repeat (first | refine blk_drewN ?_ _ | refine blk_drew ?_ | refine blk_alloc ?_ _)); refine blk_put (cs := #[.int .i64 ((rd_T33 l0_4 x13_1).f0), .int .i64 ((rd_T33 l0_4 x13_1).f1), .bool false, .slice none 0 0, .slice none 0 0]) ?_ 2 _ rfl; (with_reducible repeat (first | refine blk_drewN ?_ _ | refine blk_drew ?_ | refine blk_alloc ?_ _)); refine blk_put (cs := #[.int .i64 ((rd_T33 l0_4 x13_1).f0), .int .i64 0, .bool false, .slice none 0 0, .slice none 0 0]) ?_ 1 _ rfl; (with_reducible repeat (first | refine blk_drewN ?_ _ | refine blk_drew ?_ | refine blk_alloc ?_ _)); refine blk_put (cs := #[.int .i64 0, .int .i64 0, .bool false, .slice none 0 0, .slice none 0 0]) ?_ 0 _ rfl; (with_reducible repeat (first | refine blk_drewN ?_ _ | refine blk_drew ?_ | refine blk_alloc ?_ _)); exact BK443.out) hb); have n2_ := Aside0.mk (below_step (by repeat (first | (with_reducible first | exact HB.out | apply below_alloc | apply pw_below_drewN | apply below_drew1 | refine below_set ?_ GE441.out | refine below_set ?_ GE443.out) | exact HB.out)) hb); clear BK441; clear BK443; clear HB; have BK441 := n0_; have BK443 := n1_; have HB := n2_; clear n0_ n1_ n2_; (try clear hb); (try clear hb2); (try clear hk); (try clear hi)))
            go_roundg k1
            case measure => have := HK1.out; omega
            case rel => exact ⟨(wrap64 (x3_1 + t444)), (wrap64 (x13_1 + 1)), (by first | rfl | (simp; done) | (simp [*]; done)), (by first | rfl | (simp; done) | (simp [*]; done)), H', ⟨by have := HK1.out; omega⟩, ⟨by (with_reducible repeat (first | refine blk_drewN ?_ _ | refine blk_drew ?_ | refine blk_alloc ?_ _)); exact BK441.out⟩, ⟨by repeat (first | (with_reducible first | exact HB.out | apply below_alloc | apply pw_below_drewN | apply below_drew1 | refine below_set ?_ GE441.out | refine below_set ?_ GE443.out) | exact HB.out)⟩⟩
          · rw [if_neg c6] at H
            exact absurd H (by simp)
        · rw [if_neg c5] at H
          exact absurd H (by simp)
      · rw [if_neg c4] at H
        have c4b0 : decide (x13_1 < (l0_4.length : Int)) = false := decide_eq_false c4
        clear c4
        obtain rfl := Option.some.inj H
        go_wp2
        go_ret
        exact ⟨by first | rfl | (simp [errW_none, errW_some] <;> rfl) | (simp [*, errW_none, errW_some] <;> rfl), by repeat (first | (with_reducible first | exact HB.out | apply below_alloc | apply pw_below_drewN | apply below_drew1 | refine below_set ?_ GE441.out) | exact HB.out)⟩

/-! ### spec_Deep: function 72 -/
mutual
def spec_Deep.l0 : Nat → Int → List (S33) → Int → Int → Option (Int)
  | 0, _, _, _, _ => none
  | k + 1, x3, x7, x8, x9 => if x9 < x8 then (if 0 ≤ x9 then (if x9 < (x7.length : Int) then ((spec_Deep.f k ((rd_T33 x7 x9).f0) ((rd_T33 x7 x9).f1) ((rd_T33 x7 x9).f2) ((rd_T33 x7 x9).f3) ((rd_T33 x7 x9).f4)).bind fun t448 => (spec_Deep.l0 k (mx x3 t448) x7 x8 (wrap64 (x9 + 1)))) else (none)) else (none)) else (some (wrap64 (x3 + 1)))
def spec_Deep.f : Nat → Int → Int → Bool → List Int → List (S33) → Option (Int)
  | 0, _, _, _, _, _ => none
  | k + 1, a0_0, a0_1, a0_2, l0_3, l0_4 => spec_Deep.l0 k 0 l0_4 (l0_4.length : Int) 0
end
theorem spec_Deep.mono_l : ∀ k, (∀ y0 y1 y2 y3 y4, LeO (spec_Deep.f k y0 y1 y2 y3 y4) (spec_Deep.f (k + 1) y0 y1 y2 y3 y4)) ∧ (∀ y0 y1 y2 y3, LeO (spec_Deep.l0 k y0 y1 y2 y3) (spec_Deep.l0 (k + 1) y0 y1 y2 y3))
  | 0 => ⟨fun _ _ _ _ _ r h => by simp [spec_Deep.f] at h, fun _ _ _ _ r h => by simp [spec_Deep.l0] at h⟩
  | k + 1 => by
    obtain ⟨ih0, ih1⟩ := spec_Deep.mono_l k
    refine ⟨?_, ?_⟩
    · intro y0 y1 y2 y3 y4
      unfold spec_Deep.f
      repeat' first
      | (with_reducible exact ih0 _ _ _ _ _)
      | (with_reducible exact ih1 _ _ _ _)
      | (with_reducible exact LeO.refl _)
      | (with_reducible exact LeO.none _)
      | (with_reducible refine LeO.ite ?_ ?_)
      | (with_reducible refine LeO.bind ?_ (fun _ => ?_))
      | exact ih0 _ _ _ _ _
      | exact ih1 _ _ _ _
      | exact LeO.none _
      | refine LeO.ite ?_ ?_
      | refine LeO.bind ?_ (fun _ => ?_)
    · intro y0 y1 y2 y3
      unfold spec_Deep.l0
      repeat' first
      | (with_reducible exact ih0 _ _ _ _ _)
      | (with_reducible exact ih1 _ _ _ _)
      | (with_reducible exact LeO.refl _)
      | (with_reducible exact LeO.none _)
      | (with_reducible refine LeO.ite ?_ ?_)
      | (with_reducible refine LeO.bind ?_ (fun _ => ?_))
      | exact ih0 _ _ _ _ _
      | exact ih1 _ _ _ _
      | exact LeO.none _
      | refine LeO.ite ?_ ?_
      | refine LeO.bind ?_ (fun _ => ?_)
theorem spec_Deep.mono : ∀ a0 a1 a2 a3 a4 k, LeO (spec_Deep.f k a0 a1 a2 a3 a4) (spec_Deep.f (k + 1) a0 a1 a2 a3 a4) := by
  intro a0 a1 a2 a3 a4 k
  obtain ⟨ih0, ih1⟩ := spec_Deep.mono_l k
  exact ih0 a0 a1 a2 a3 a4
set_option maxHeartbeats 8000000 in
set_option maxRecDepth 100000 in
theorem spec_Deep.calls (k : Nat) : ∀ (a0_0 : Int) (a0_1 : Int) (a0_2 : Bool) (A0_3 : Option Addr) (c0_3 : Nat) (l0_3 : List Int) (A0_4 : Option Addr) (c0_4 : Nat) (l0_4 : List (S33)) (r : Int) (w : World) (hr0_3 : Kd.C (Kd.int .u8) w A0_3 l0_3.length l0_3) (hc0_3 : l0_3.length ≤ c0_3) (hr0_4 : Kd.C k33 w A0_4 l0_4.length l0_4) (hc0_4 : l0_4.length ≤ c0_4) (h : spec_Deep.f k a0_0 a0_1 a0_2 l0_3 l0_4 = some r),
    Calls Tryd.prog 72 #[.agg #[.int .i64 a0_0, .int .i64 a0_1, .bool a0_2, .slice A0_3 l0_3.length c0_3, .slice A0_4 l0_4.length c0_4]] w fun e w' => e = .returned (.int .i64 r) ∧ Below w.heap.size w w' := by
  induction k using Nat.strongRecOn with
  | _ k ih =>
  intro a0_0 a0_1 a0_2 A0_3 c0_3 l0_3 A0_4 c0_4 l0_4 r w hr0_3 hc0_3 hr0_4 hc0_4 h
  cases k with
  | zero => exact absurd h (by simp [spec_Deep.f])
  | succ k =>
  simp only [spec_Deep.f] at h
  have hu33 := Tryd.underlying33
  have HR0_3 := Aside0.mk hr0_3
  have HC0_3 := Aside0.mk hc0_3
  clear hr0_3 hc0_3
  have HR0_4 := Aside0.mk hr0_4
  have HC0_4 := Aside0.mk hc0_4
  clear hr0_4 hc0_4
  have HB := Aside0.mk (Below.refl w.heap.size w)
  have H : (spec_Deep.l0 k 0 l0_4 (l0_4.length : Int) 0) = some r := h
  clear h
  have H' := Aside0.mk H
  clear H
  go_enter Tryd.func72, Tryd.ntmps72
  go_wp2_with (first | ((with_reducible refine gate_dst (N := 1) rfl ?_); refine box_event ?hg (N := 1) ?hd (cs := #[.int .i64 a0_0, .int .i64 a0_1, .bool a0_2, .slice A0_3 l0_3.length c0_3, .slice A0_4 l0_4.length c0_4]) (t := 33) ?hr ?_; (case hd => rfl); (case hg => rfl); (case hr => first | (go_simp; done) | (go_simp; rfl)); intro gb445 hg w2 hbox hb; have n0_ := Aside0.mk (below_step (by repeat (first | (with_reducible first | exact HB.out | apply below_alloc | apply pw_below_drewN | apply below_drew1) | exact HB.out)) hb); have n1_ := Aside0.mk (hbox); have n2_ := Aside0.mk ((by rw [hg]; exact (below_size (by repeat (first | (with_reducible first | exact HB.out | apply below_alloc | apply pw_below_drewN | apply below_drew1) | exact HB.out))) : w.heap.size ≤ gb445)); have n3_ := Aside0.mk ((by rw [hg]; exact (below_size (by repeat (first | (with_reducible first | exact HB.out | apply below_alloc | apply pw_below_drewN | apply below_drew1) | exact HB.out))) : w.heap.size ≤ gb445)); clear HB; have HB := n0_; have BK445 := n1_; have GW445 := n2_; have GE445 := n3_; clear n0_ n1_ n2_ n3_; clear hb hbox hg; have hcz3_0 : w2.cell? ⟨gb445, 0, none⟩ = some (.int .i64 a0_0) := (blk_cell BK445.out 0).trans rfl; have hcz3_1 : w2.cell? ⟨gb445, 1, none⟩ = some (.int .i64 a0_1) := (blk_cell BK445.out 1).trans rfl; have hcz3_2 : w2.cell? ⟨gb445, 2, none⟩ = some (.bool a0_2) := (blk_cell BK445.out 2).trans rfl; have hcz3_3 : w2.cell? ⟨gb445, 3, none⟩ = some (.slice A0_3 l0_3.length c0_3) := (blk_cell BK445.out 3).trans rfl; have hcz3_4 : w2.cell? ⟨gb445, 4, none⟩ = some (.slice A0_4 l0_4.length c0_4) := (blk_cell BK445.out 4).trans rfl; have hfz3_0 := blk_frozen BK445.out 0; have hfz3_1 := blk_frozen BK445.out 1; have hfz3_2 := blk_frozen BK445.out 2; have hfz3_3 := blk_frozen BK445.out 3; have hfz3_4 := blk_frozen BK445.out 4))
  go_loopg [3, 9] k (fun kq v3 v9 w' => ∃ (x3_1 : Int) (x9_1 : Int), v3 = .int .i64 x3_1 ∧ v9 = .int .i64 x9_1 ∧ Aside0 (spec_Deep.l0 kq x3_1 l0_4 (l0_4.length : Int) x9_1 = some r) ∧ Aside0 (kq ≤ k) ∧ Aside0 (w'.heap[gb445]? = some (.cells #[.int .i64 a0_0, .int .i64 a0_1, .bool a0_2, (.slice A0_3 l0_3.length c0_3), (.slice A0_4 l0_4.length c0_4)] 33 (0, 0))) ∧ Aside0 (Below w.heap.size w w'))
  case atStart => exact ⟨(0), (0), (by first | rfl | (simp; done) | (simp [*]; done)), (by first | rfl | (simp; done) | (simp [*]; done)), H', ⟨Nat.le_refl _⟩, ⟨by (with_reducible repeat (first | refine blk_drewN ?_ _ | refine blk_drew ?_ | refine blk_alloc ?_ _)); exact BK445.out⟩, ⟨by repeat (first | (with_reducible first | exact HB.out | apply below_alloc | apply pw_below_drewN | apply below_drew1 | refine below_set ?_ GE445.out) | exact HB.out)⟩⟩
  case round =>
    clear H'
    try clear p2
    try clear hcz3_0
    try clear hcz3_1
    try clear hcz3_2
    try clear hcz3_3
    try clear hcz3_4
    try clear hfz3_0
    try clear hfz3_1
    try clear hfz3_2
    try clear hfz3_3
    try clear hfz3_4
    obtain ⟨x3_1, x9_1, rfl, rfl, HA, HK1, BK445, HB⟩ := hrel
    cases gk with
    | zero => exact absurd HA.out (by simp [spec_Deep.l0])
    | succ k1 =>
      have H := HA.out
      clear HA
      simp only [spec_Deep.l0] at H
      by_cases c4 : x9_1 < (l0_4.length : Int)
      · rw [if_pos c4] at H
        have c4b0 : decide (x9_1 < (l0_4.length : Int)) = true := decide_eq_true c4
        clear c4
        by_cases c5 : 0 ≤ x9_1
        · rw [if_pos c5] at H
          have c5b0 : decide (0 ≤ x9_1) = true := decide_eq_true c5
          clear c5
          by_cases c6 : x9_1 < (l0_4.length : Int)
          · rw [if_pos c6] at H
            have c6b0 : decide (x9_1 < (l0_4.length : Int)) = true := decide_eq_true c6
            clear c6
            replace H := Option.bind_eq_some_iff.mp H
            obtain ⟨t448, A70, H⟩ := H
            replace H : (spec_Deep.l0 k1 (mx x3_1 t448) l0_4 (l0_4.length : Int) (wrap64 (x9_1 + 1))) = some r := H
            have A7 := Aside0.mk A70
            clear A70
            obtain ⟨ji8, hji8⟩ : ∃ j_ : Int, (mx x3_1 t448) = j_ := ⟨_, rfl⟩
            replace H : (spec_Deep.l0 k1 ji8 l0_4 (l0_4.length : Int) (wrap64 (x9_1 + 1))) = some r := by first | (rw [hji8] at H; exact H) | (simp only [hji8] at H ⊢; exact H)
            (try rw [hji8] at A7)
            have hji8_ : (if x3_1 < t448 then t448 else x3_1) = ji8 := hji8
            have H' := Aside0.mk H
            clear H
            have p446 : 0 ≤ (x9_1 : Int) := of_decide_eq_true (by first | (with_reducible assumption) | assumption)
            have q446 : x9_1 < (l0_4.length : Int) := of_decide_eq_true (by first | (with_reducible assumption) | assumption)
            obtain ⟨ad446, A446_3, c446_3, A446_4, c446_4, e446, hx446_0, hx446_1, hx446_2, hx446_3, hx446_4, hl446_3, hi446_3, hl446_4, hi446_4⟩ := at_T33 HR0_4.out x9_1 p446 q446
            cases e446
            replace hx446_0 := (HB.out.cell (World.block_lt_of_cell? w _ hx446_0)).trans hx446_0
            replace hx446_1 := (HB.out.cell (World.block_lt_of_cell? w _ hx446_1)).trans hx446_1
            replace hx446_2 := (HB.out.cell (World.block_lt_of_cell? w _ hx446_2)).trans hx446_2
            replace hx446_3 := (HB.out.cell (World.block_lt_of_cell? w _ hx446_3)).trans hx446_3
            replace hx446_4 := (HB.out.cell (World.block_lt_of_cell? w _ hx446_4)).trans hx446_4
            have HR446_3 := Aside0.mk hi446_3
            have HC446_3 := Aside0.mk hl446_3
            clear hi446_3 hl446_3
            have HR446_4 := Aside0.mk hi446_4
            have HC446_4 := Aside0.mk hl446_4
            clear hi446_4 hl446_4
            replace p446 := eq_true p446
            replace q446 := eq_true q446
            go_wp2_with (first | ((with_reducible refine gate_dst (N := 5) rfl ?_); refine box_event ?hg (N := 5) ?hd (cs := #[.int .i64 0, .int .i64 0, .bool false, .slice none 0 0, .slice none 0 0]) (t := 33) ?hr ?_; (case hd => rfl); (case hg => rfl); (case hr => first | (go_simp; done) | (go_simp; rfl)); intro gb447 hg w9 hbox hb; have n0_ := Aside0.mk (blk_below (g := gb445) (o := .cells #[.int .i64 a0_0, .int .i64 a0_1, .bool a0_2, .slice A0_3 l0_3.length c0_3, .slice (some ad446) l0_4.length c0_4] 33 (0, 0)) (by (with_reducible repeat (first | refine blk_drewN ?_ _ | refine blk_drew ?_ | refine blk_alloc ?_ _)); exact BK445.out) hb); have n1_ := Aside0.mk (below_step (by repeat (first | (with_reducible first | exact HB.out | apply below_alloc | apply pw_below_drewN | apply below_drew1 | refine below_set ?_ GE445.out) | exact HB.out)) hb); have n2_ := Aside0.mk (hbox); have n3_ := Aside0.mk ((by rw [hg]; exact (below_size (by repeat (first | (with_reducible first | exact HB.out | apply below_alloc | apply pw_below_drewN | apply below_drew1 | refine below_set ?_ GE445.out) | exact HB.out))) : w.heap.size ≤ gb447)); have n4_ := Aside0.mk ((by rw [hg]; exact (below_size (by repeat (first | (with_reducible first | exact HB.out | apply below_alloc | apply pw_below_drewN | apply below_drew1 | refine below_set ?_ GE445.out) | exact HB.out))) : w.heap.size ≤ gb447)); have n5_ := Aside0.mk ((by rw [hg]; exact Nat.ne_of_lt (blk_lt (g := gb445) (o := .cells #[.int .i64 a0_0, .int .i64 a0_1, .bool a0_2, .slice A0_3 l0_3.length c0_3, .slice (some ad446) l0_4.length c0_4] 33 (0, 0)) (by (with_reducible repeat (first | refine blk_drewN ?_ _ | refine blk_drew ?_ | refine blk_alloc ?_ _)); exact BK445.out)) : gb445 ≠ gb447)); have n6_ := Aside0.mk ((by rw [hg]; exact Nat.ne_of_gt (blk_lt (g := gb445) (o := .cells #[.int .i64 a0_0, .int .i64 a0_1, .bool a0_2, .slice A0_3 l0_3.length c0_3, .slice (some ad446) l0_4.length c0_4] 33 (0, 0)) (by (with_reducible repeat (first | refine blk_drewN ?_ _ | refine blk_drew ?_ | refine blk_alloc ?_ _)); exact BK445.out)) : gb447 ≠ gb445)); clear BK445; clear HB; have BK445 := n0_; have HB := n1_; have BK447 := n2_; have GW447 := n3_; have GE447 := n4_; have NB445_447 := n5_; have NB447_445 := n6_; clear n0_ n1_ n2_ n3_ n4_ n5_ n6_; clear hb hbox hg; have hnb10 := NB447_445.out; have hnc10 := NB445_447.out; have hcz11_0 : w9.cell? ⟨gb447, 0, none⟩ = some (.int .i64 0) := (blk_cell BK447.out 0).trans rfl; have hcz11_1 : w9.cell? ⟨gb447, 1, none⟩ = some (.int .i64 0) := (blk_cell BK447.out 1).trans rfl; have hcz11_2 : w9.cell? ⟨gb447, 2, none⟩ = some (.bool false) := (blk_cell BK447.out 2).trans rfl; have hcz11_3 : w9.cell? ⟨gb447, 3, none⟩ = some (.slice none 0 0) := (blk_cell BK447.out 3).trans rfl; have hcz11_4 : w9.cell? ⟨gb447, 4, none⟩ = some (.slice none 0 0) := (blk_cell BK447.out 4).trans rfl; have hfz11_0 := blk_frozen BK447.out 0; have hfz11_1 := blk_frozen BK447.out 1; have hfz11_2 := blk_frozen BK447.out 2; have hfz11_3 := blk_frozen BK447.out 3; have hfz11_4 := blk_frozen BK447.out 4) | ((with_reducible refine gate_callee (f := 72) rfl ?_); refine goesL_ (some 15) rfl rfl Tryd.func72 (by kernel_rfl) rfl #[.agg #[.int .i64 ((rd_T33 l0_4 x9_1).f0), .int .i64 ((rd_T33 l0_4 x9_1).f1), .bool ((rd_T33 l0_4 x9_1).f2), .slice A446_3 ((rd_T33 l0_4 x9_1).f3).length c446_3, .slice A446_4 ((rd_T33 l0_4 x9_1).f4).length c446_4]] rfl (by (try simp only [List.map_toArray, List.map_cons, List.map_nil]); first | done | rfl | (simp only [List.length_drop, List.length_take]; rfl)) ?_; (with_reducible refine (ih k1 (by have := HK1.out; omega) ((rd_T33 l0_4 x9_1).f0) ((rd_T33 l0_4 x9_1).f1) ((rd_T33 l0_4 x9_1).f2) _ _ ((rd_T33 l0_4 x9_1).f3) _ _ ((rd_T33 l0_4 x9_1).f4) t448 _ ?side1 ?side2 ?side3 ?side4 A7.out).mono ?_); (case side1 => exact Kd.C_below HR446_3.out (by repeat (first | (with_reducible first | exact HB.out | apply below_alloc | apply pw_below_drewN | apply below_drew1 | refine below_set ?_ GE445.out | refine below_set ?_ GE447.out) | exact HB.out))); (case side2 => exact HC446_3.out); (case side3 => exact Kd.C_below HR446_4.out (by repeat (first | (with_reducible first | exact HB.out | apply below_alloc | apply pw_below_drewN | apply below_drew1 | refine below_set ?_ GE445.out | refine below_set ?_ GE447.out) | exact HB.out))); (case side4 => exact HC446_4.out); rintro e w12 ⟨rfl, hb⟩; refine ⟨_, rfl, ?_⟩; have n0_ := Aside0.mk (blk_below (g := gb445) (o := .cells #[.int .i64 a0_0, .int .i64 a0_1, .bool a0_2, .slice A0_3 l0_3.length c0_3, .slice (some ad446) l0_4.length c0_4] 33 (0, 0)) (by (with_reducible repeat (first | refine blk_drewN ?_ _ | refine blk_drew ?_ | refine blk_alloc ?_ _)); refine blk_far ?_ NB445_447.out _; (with_reducible repeat (first | refine blk_drewN ?_ _ | refine blk_drew ?_ | refine blk_alloc ?_ _)); refine blk_far ?_ NB445_447.out _; (with_reducible repeat (first | refine blk_drewN ?_ _ | refine blk_drew ?_ | refine blk_alloc ?_ _)); refine blk_far ?_ NB445_447.out _; (with_reducible repeat (first | refine blk_drewN ?_ _ | refine blk_drew ?_ | refine blk_alloc ?_ _)); refine blk_far ?_ NB445_447.out _; (with_reducible repeat (first | refine blk_drewN ?_ _ | refine blk_drew ?_ | refine blk_alloc ?_ _)); refine blk_far ?_ NB445_447.out _; (with_reducible repeat (first | refine blk_drewN ?_ _ | refine blk_drew ?_ | refine blk_alloc ?_ _)); exact BK445.out) hb); have n1_ := Aside0.mk (blk_below (g := gb447) (o := .cells #[.int .i64 ((rd_T33 l0_4 x9_1).f0), .int .i64 ((rd_T33 l0_4 x9_1).f1), .bool ((rd_T33 l0_4 x9_1).f2), .slice A446_3 ((rd_T33 l0_4 x9_1).f3).length c446_3, .slice A446_4 ((rd_T33 l0_4 x9_1).f4).length c446_4] 33 (0, 0)) (by (with_reducible repeat (first | refine blk_drewN ?_ _ | refine blk_drew ?_ | refine blk_alloc ?_ _)); refine blk_put (cs := #[.int .i64 ((rd_T33 l0_4 x9_1).f0), .int .i64 ((rd_T33 l0_4 x9_1).f1), .bool ((rd_T33 l0_4 x9_1).f2), .slice A446_3 ((rd_T33 l0_4 x9_1).f3).length c446_3, .slice none 0 0]) ?_ 4 _ rfl; (with_reducible repeat (first | refine blk_drewN ?_ _ | refine blk_drew ?_ | refine blk_alloc ?_ _)); refine blk_put (cs := #[.int .i64 ((rd_T33 l0_4 x9_1).f0), .int .i64 ((rd_T33 l0_4 x9_1).f1), .bool ((rd_T33 l0_4 x9_1).f2), .slice none 0 0, .slice none 0 0]) ?_ 3 _ rfl; (with_reducible repeat (first | refine blk_drewN ?_ _ | refine blk_drew ?_ | refine blk_alloc ?_ _)); refine blk_put (cs := #[.int .i64 ((rd_T33 l0_4 x9_1).f0), .int .i64 ((rd_T33 l0_4 x9_1).f1), .bool false, .slice none 0 0, .slice none 0 0]) ?_ 2 _ rfl; (with_reducible repeat (first | refine blk_drewN ?_ _ | refine blk_drew ?_ | refine blk_alloc ?_ _)); refine blk_put (cs := #[.int .i64 ((rd_T33 l0_4 x9_1).f0), .int .i64 0, .bool false, .slice none 0 0, .slice none 0 0]) ?_ 1 _ rfl; (with_reducible repeat (first | refine blk_drewN ?_ _ | refine blk_drew ?_ | refine blk_alloc ?_ _)); refine blk_put (cs := #[.int .i64 0, .int .i64 0, .bool false, .slice none 0 0, .slice none 0 0]) ?_ 0 _ rfl; (with_reducible repeat (first | refine blk_drewN ?_ _ | refine blk_drew ?_ | refine blk_alloc ?_ _)); exact BK447.out) hb); have n2_ := Aside0.mk (below_step (by repeat (first | (with_reducible first | exact HB.out | apply below_alloc | apply pw_below_drewN | apply below_drew1 | refine below_set ?_ GE445.out | refine below_set ?_ GE447.out) | exact HB.out)) hb); clear BK445; clear BK447; clear HB; have BK445 := n0_; have BK447 := n1_; have HB := n2_; clear n0_ n1_ n2_; (try clear hb); (try clear hb2); (try clear hk); (try clear hi)))
            go_roundg k1
            case measure => have := HK1.out; omega
            case rel => exact ⟨(ji8), (wrap64 (x9_1 + 1)), (by first | rfl | (simp; done) | (simp only [← hji8] <;> (first | rfl | simp)) | (simp [*]; done)), (by first | rfl | (simp; done) | (simp [*]; done)), H', ⟨by have := HK1.out; omega⟩, ⟨by (with_reducible repeat (first | refine blk_drewN ?_ _ | refine blk_drew ?_ | refine blk_alloc ?_ _)); exact BK445.out⟩, ⟨by repeat (first | (with_reducible first | exact HB.out | apply below_alloc | apply pw_below_drewN | apply below_drew1 | refine below_set ?_ GE445.out | refine below_set ?_ GE447.out) | exact HB.out)⟩⟩
          · rw [if_neg c6] at H
            exact absurd H (by simp)
        · rw [if_neg c5] at H
          exact absurd H (by simp)
      · rw [if_neg c4] at H
        have c4b0 : decide (x9_1 < (l0_4.length : Int)) = false := decide_eq_false c4
        clear c4
        obtain rfl := Option.some.inj H
        go_wp2
        go_ret
        exact ⟨by first | rfl | (simp [errW_none, errW_some] <;> rfl) | (simp [*, errW_none, errW_some] <;> rfl), by repeat (first | (with_reducible first | exact HB.out | apply below_alloc | apply pw_below_drewN | apply below_drew1 | refine below_set ?_ GE445.out) | exact HB.out)⟩

end Go.Proofs.YtbmcpjkhnhbjdaaDoor.PFnEncode
