/- Parts of the proof of one law, in the order in which they build.  -/
import Derived.Test.YtejbpbdlolehnaaDoorAny2
import Derived.Test.YtejbpbdlolehnaaDoorAny3
import Derived.Test.YtejbpbdlolehnaaDoorAny4
import Derived.Test.YtejbpbdlolehnaaDoorAny0
namespace Go.Proofs.YtejbpbdlolehnaaDoor.PFnEncode
open Go.RowKit Go.Proofs.YtejbpbdlolehnaaDoorW.PrintWords Go.Proofs.YtejbpbdlolehnaaDoorW.PrintLast Go.Proofs.YtejbpbdlolehnaaDoorW.PrintMore
attribute [local go_sem] max2_int min2_int max_two min_two max_three min_three max_four min_four   -- for this text's walks alone
set_option linter.unusedVariables false
set_option linter.unusedSimpArgs false
theorem V_ne {α : Type} {d : Kd α} {e base n c g : Nat} {ok : Nat → Prop} {W : World} {ad : Addr} {xs : List α} (h : Kd.V d e W base ok (.slice (some ad) n c) xs) (hok : ∀ k, ok k → k ≠ g) (hn : 0 < n) (hs : 0 < d.sz) : ad.block ≠ g := hok _ (Kd.F_in (Kd.V_F h) rfl hn hs)
def spec_Read.T3 : Bool × List (List Nat × List Nat) := (true, [([], []), ([0], [0]), ([1], [1]), ([2], [2]), ([3], [3]), ([], []), ([5], [5]), ([6], [6]), ([7], [7]), ([8], [8]), ([], []), ([10], [10]), ([11], [11]), ([12], [12]), ([13], [13]), ([4, 9, 14], [4, 9, 14]), ([], []), ([16, 15, 0, 1, 2, 3, 4, 5, 6, 7, 8, 9, 10, 11, 12, 13, 14, 15, 16], [15, 16])])
def spec_Read.B3 : List Nat := [0, 1, 3, 7, 15, 0, 32, 96, 224, 480, 0, 1024, 3072, 7168, 15360, 32767, 0, 131071]
theorem spec_Read.tab3 : rtab .any (opsOf Tryd.f15 3) = spec_Read.T3 := by kernel_rfl
theorem spec_Read.bits3 : waitsOk spec_Read.T3.2 spec_Read.B3 = true := by kernel_rfl
def spec_Read.T11 : Bool × List (List Nat × List Nat) := (true, [([], []), ([0], [0]), ([1], [1]), ([], []), ([], []), ([3, 4], [3, 4]), ([5], [5]), ([6], [6]), ([7], [7]), ([2, 8], [2, 8]), ([0, 1, 2, 3, 4, 5, 6, 7, 8, 9], []), ([10, 9, 0, 1, 2, 3, 4, 5, 6, 7, 8, 9], [9, 10])])
def spec_Read.B11 : List Nat := [0, 1, 3, 0, 0, 24, 56, 120, 248, 511, 1023, 2047]
theorem spec_Read.tab11 : rtab .any (opsOf Tryd.f15 11) = spec_Read.T11 := by kernel_rfl
theorem spec_Read.bits11 : waitsOk spec_Read.T11.2 spec_Read.B11 = true := by kernel_rfl
set_option maxHeartbeats 40000000 in
set_option maxRecDepth 100000 in
theorem spec_Read.calls (k : Nat) : ∀ (P0_ : Nat → Prop) (A0 : Option Addr) (c0 : Nat) (l0 : List Int) (r1 : Int) (r2 : Int) (r3 : Bool) (r4 : List Int) (r5 : List (S29)) (r6 : Int) (r7 : Bool) (w : World) (hs0 : Kd.V (Kd.int .u8) 5 w w.heap.size (fun k_ => P0_ k_) (.slice A0 l0.length c0) l0) (h : spec_Read.f k l0 = some (r1, r2, r3, r4, r5, r6, r7)),
    Calls Tryd.prog 15 #[.slice A0 l0.length c0] w fun e w' => ∃ v3_ v4_ : Value, e = .returned (.tuple #[.agg #[.int .i64 r1, .int .i64 r2, .bool r3, v3_, v4_], .int .i64 r6, .bool r7]) ∧ Kd.R (Kd.int .u8) 5 w' w.heap.size (fun k_ => (w.heap.size ≤ k_)) v3_ r4 ∧ Kd.R k29 29 w' w.heap.size (fun k_ => (w.heap.size ≤ k_) ∧ some k_ ≠ (v3_ : Value).ownBlock) v4_ r5 ∧ Below w.heap.size w w' := by
  induction k using Nat.strongRecOn with
  | _ k ih =>
  intro P0_ A0 c0 l0 r1 r2 r3 r4 r5 r6 r7 w hs0 h
  cases k with
  | zero => exact absurd h (by simp [spec_Read.f])
  | succ k =>
  simp only [spec_Read.f] at h
  have hu29 := Tryd.underlying29
  have HO0 := Aside0.mk (show Kd.V (Kd.int .u8) 5 w w.heap.size (fun k_ => (P0_ k_ ∨ w.heap.size ≤ k_)) (.slice A0 l0.length c0) l0 from Kd.V_mono hs0 (fun k_ hk => .inl hk))
  have HB := Aside0.mk (Below.refl w.heap.size w)
  have H : (if (l0.length : Int) < 2 then (some (0, 0, false, ([] : List Int), ([] : List (S29)), 0, false)) else (if 0 < (l0.length : Int) then (if (wrap64 (Go.bits .and .u8 (rd l0 0) 31)) = 31 then (if 1 < (l0.length : Int) then (spec_Read.j0 k l0 1 ((Go.bits .and .u8 (rd l0 1) 127) == 0) (wrap64 ((rd l0 0) / 64)) 0 ((Go.bits .and .u8 (rd l0 0) 32) != 0)) else (spec_Read.j0 k l0 1 false (wrap64 ((rd l0 0) / 64)) 0 ((Go.bits .and .u8 (rd l0 0) 32) != 0))) else (spec_Read.j3 k l0 1 (wrap64 ((rd l0 0) / 64)) (wrap64 (Go.bits .and .u8 (rd l0 0) 31)) ((Go.bits .and .u8 (rd l0 0) 32) != 0))) else (none))) = some (r1, r2, r3, r4, r5, r6, r7) := h
  clear h
  by_cases c2 : (l0.length : Int) < 2
  ·rw [if_pos c2] at H
   have c2b0 : decide ((l0.length : Int) < 2) = true := decide_eq_true c2
   have c2b1 : decide (l0.length < 2) = true := decide_eq_true (by omega)
   clear c2
   simp only [Option.some.injEq, Prod.mk.injEq] at H
   obtain ⟨rfl, rfl, rfl, rfl, rfl, rfl, rfl⟩ := H
   go_enter Tryd.func15, Tryd.ntmps15
   go_wp2_with (first | ((with_reducible refine gate_dst (N := 2) rfl ?_); (try (refine gate_guard (by rfl) ?_; dsimp only)); refine box_event ?hg (N := 2) ?hd (cs := #[.int .i64 0, .int .i64 0, .bool false, .slice none 0 0, .slice none 0 0]) (t := 29) ?hr ?_; (case hd => rfl); (case hg => rfl); (case hr => first | (go_simp; done) | (go_simp; rfl)); intro gb223 hg w3 hbox hb; have n0_ := Aside0.mk (Kd.V_below (Kd.V_elderB (by (with_reducible repeat (first | apply Kd.V_drew)); exact HO0.out) gb223 (Nat.le_of_eq hg.symm)) hb); have n1_ := Aside0.mk (below_step (by repeat (first | (with_reducible first | exact HB.out | apply below_alloc | apply pw_below_drewN | apply below_drew1) | exact HB.out)) hb); have n2_ := Aside0.mk (hbox); have n3_ := Aside0.mk ((by rw [hg]; exact (below_size (by repeat (first | (with_reducible first | exact HB.out | apply below_alloc | apply pw_below_drewN | apply below_drew1) | exact HB.out))) : w.heap.size ≤ gb223)); have n4_ := Aside0.mk ((by rw [hg]; exact (below_size (by repeat (first | (with_reducible first | exact HB.out | apply below_alloc | apply pw_below_drewN | apply below_drew1) | exact HB.out))) : w.heap.size ≤ gb223)); clear HO0; clear HB; have HO0 := n0_; have HB := n1_; have BK223 := n2_; have GW223 := n3_; have GE223 := n4_; clear n0_ n1_ n2_ n3_ n4_; clear hb hbox hg; have hcz4_0 : w3.cell? ⟨gb223, 0, none⟩ = some (.int .i64 0) := (blk_cell BK223.out 0).trans rfl; have hcz4_1 : w3.cell? ⟨gb223, 1, none⟩ = some (.int .i64 0) := (blk_cell BK223.out 1).trans rfl; have hcz4_2 : w3.cell? ⟨gb223, 2, none⟩ = some (.bool false) := (blk_cell BK223.out 2).trans rfl; have hcz4_3 : w3.cell? ⟨gb223, 3, none⟩ = some (.slice none 0 0) := (blk_cell BK223.out 3).trans rfl; have hcz4_4 : w3.cell? ⟨gb223, 4, none⟩ = some (.slice none 0 0) := (blk_cell BK223.out 4).trans rfl; have hfz4_0 := blk_frozen BK223.out 0; have hfz4_1 := blk_frozen BK223.out 1; have hfz4_2 := blk_frozen BK223.out 2; have hfz4_3 := blk_frozen BK223.out 3; have hfz4_4 := blk_frozen BK223.out 4))
   refine bodyPost_ret (results_ctt rfl _ _ gb223 29 #[.int .i64 0, .int .i64 0, .bool false, .slice none 0 0, .slice none 0 0] (0, 0) _ rfl (by (with_reducible repeat (first | refine blk_drew ?_ | refine blk_alloc ?_ _)); refine blk_put (cs := #[.int .i64 0, .int .i64 0, .bool false, .slice none 0 0, .slice none 0 0]) ?_ 4 _ rfl; (with_reducible repeat (first | refine blk_drew ?_ | refine blk_alloc ?_ _)); refine blk_put (cs := #[.int .i64 0, .int .i64 0, .bool false, .slice none 0 0, .slice none 0 0]) ?_ 3 _ rfl; (with_reducible repeat (first | refine blk_drew ?_ | refine blk_alloc ?_ _)); refine blk_put (cs := #[.int .i64 0, .int .i64 0, .bool false, .slice none 0 0, .slice none 0 0]) ?_ 2 _ rfl; (with_reducible repeat (first | refine blk_drew ?_ | refine blk_alloc ?_ _)); refine blk_put (cs := #[.int .i64 0, .int .i64 0, .bool false, .slice none 0 0, .slice none 0 0]) ?_ 1 _ rfl; (with_reducible repeat (first | refine blk_drew ?_ | refine blk_alloc ?_ _)); refine blk_put (cs := #[.int .i64 0, .int .i64 0, .bool false, .slice none 0 0, .slice none 0 0]) ?_ 0 _ rfl; (with_reducible repeat (first | refine blk_drew ?_ | refine blk_alloc ?_ _)); exact BK223.out) Tryd.underlying29 rfl (by kernel_rfl)) rfl ?_
   exact ⟨_, _, by first | rfl | (simp <;> rfl) | (simp [*] <;> rfl), by first | exact Kd.R_nil _ _ _ _ _, by first | exact Kd.R_nil _ _ _ _ _, by repeat (first | (with_reducible first | exact HB.out | apply below_alloc | apply pw_below_drewN | apply below_drew1 | refine below_set ?_ GE223.out) | exact HB.out)⟩
  ·rw [if_neg c2] at H
   have c2b0 : decide ((l0.length : Int) < 2) = false := decide_eq_false c2
   have c2b1 : decide (l0.length < 2) = false := decide_eq_false (by omega)
   clear c2
   by_cases c5 : 0 < (l0.length : Int)
   ·rw [if_pos c5] at H
    have c5b0 : decide (0 < (l0.length : Int)) = true := decide_eq_true c5
    have c5b1 : decide (0 < l0.length) = true := decide_eq_true (by omega)
    clear c5
    have HC6 := Aside0.mk H
    clear H
    go_enter Tryd.func15, Tryd.ntmps15
    try go_wp2_with (first | ((with_reducible refine gate_dst (N := 2) rfl ?_); (try (refine gate_guard (by rfl) ?_; dsimp only)); refine box_event ?hg (N := 2) ?hd (cs := #[.int .i64 0, .int .i64 0, .bool false, .slice none 0 0, .slice none 0 0]) (t := 29) ?hr ?_; (case hd => rfl); (case hg => rfl); (case hr => first | (go_simp; done) | (go_simp; rfl)); intro gb223 hg w7 hbox hb; have n0_ := Aside0.mk (Kd.V_below (Kd.V_elderB (by (with_reducible repeat (first | apply Kd.V_drew)); exact HO0.out) gb223 (Nat.le_of_eq hg.symm)) hb); have n1_ := Aside0.mk (below_step (by repeat (first | (with_reducible first | exact HB.out | apply below_alloc | apply pw_below_drewN | apply below_drew1) | exact HB.out)) hb); have n2_ := Aside0.mk (hbox); have n3_ := Aside0.mk ((by rw [hg]; exact (below_size (by repeat (first | (with_reducible first | exact HB.out | apply below_alloc | apply pw_below_drewN | apply below_drew1) | exact HB.out))) : w.heap.size ≤ gb223)); have n4_ := Aside0.mk ((by rw [hg]; exact (below_size (by repeat (first | (with_reducible first | exact HB.out | apply below_alloc | apply pw_below_drewN | apply below_drew1) | exact HB.out))) : w.heap.size ≤ gb223)); clear HO0; clear HB; have HO0 := n0_; have HB := n1_; have BK223 := n2_; have GW223 := n3_; have GE223 := n4_; clear n0_ n1_ n2_ n3_ n4_; clear hb hbox hg))
    have n0_ := Aside0.mk (Kd.V_drew HO0.out)
    have n1_ := Aside0.mk (blk_drew BK223.out)
    have n2_ := Aside0.mk (below_drew1 HB.out)
    clear HO0
    clear BK223
    clear HB
    have HO0 := n0_
    have BK223 := n1_
    have HB := n2_
    clear n0_ n1_ n2_
    have p224 : 0 ≤ (0 : Int) := (by omega)
    have q224 : 0 < (l0.length : Int) := of_decide_eq_true (by first | (with_reducible assumption) | assumption)
    obtain ⟨ad224, e224, hx224_0⟩ := Kd.at_int (Kd.V_reads' HO0.out).2.2 0 p224 q224
    cases e224
    have qi224 : (0 < l0.length) = True := eq_true (by omega)
    (try rw [show ((0 : Int)).toNat = 0 from rfl] at hx224_0)
    (try rw [Addr.add_zero'] at hx224_0)
    replace p224 := eq_true p224
    replace q224 := eq_true q224
    have p225 : 0 ≤ (0 : Int) := (by omega)
    have q225 : 0 < (l0.length : Int) := of_decide_eq_true (by first | (with_reducible assumption) | assumption)
    obtain ⟨ad225, e225, hx225_0⟩ := Kd.at_int (Kd.V_reads' HO0.out).2.2 0 p225 q225
    obtain rfl : ad224 = ad225 := (by injection e225)
    have qi225 : (0 < l0.length) = True := eq_true (by omega)
    (try rw [show ((0 : Int)).toNat = 0 from rfl] at hx225_0)
    (try rw [Addr.add_zero'] at hx225_0)
    replace p225 := eq_true p225
    replace q225 := eq_true q225
    have p226 : 0 ≤ (0 : Int) := (by omega)
    have q226 : 0 < (l0.length : Int) := of_decide_eq_true (by first | (with_reducible assumption) | assumption)
    obtain ⟨ad226, e226, hx226_0⟩ := Kd.at_int (Kd.V_reads' HO0.out).2.2 0 p226 q226
    obtain rfl : ad224 = ad226 := (by injection e226)
    have qi226 : (0 < l0.length) = True := eq_true (by omega)
    (try rw [show ((0 : Int)).toNat = 0 from rfl] at hx226_0)
    (try rw [Addr.add_zero'] at hx226_0)
    replace p226 := eq_true p226
    replace q226 := eq_true q226
    refine start_ (n := 18) (S := fun w' => w'.cell? ad224 = some (.int .u8 (rd l0 0)) ∧ w'.cell? ad224 = some (.int .u8 (rd l0 0)) ∧ w'.cell? ad224 = some (.int .u8 (rd l0 0))) (ds := []) #[nN,nN,nN,nN,nN,nN,nN,nN,nN,nN,nN,nN,nN,nN,nN,nN,nN,nN] (by kernel_rfl) rfl rfl ⟨hx224_0, hx225_0, hx226_0⟩ (fun hHeld => ?_); refine with_tabW spec_Read.tab3 spec_Read.bits3 (fun HT_ HW_ => ?_)
    generalize w7.drew = w8 at HO0 BK223 HB hx224_0 hx225_0 hx226_0 hHeld ⊢
    refine pure_ (i := 0) (N := some 19) (v := ?_) (a' := ?_) #[yY,nN,nN,nN,nN,nN,nN,nN,nN,nN,nN,nN,nN,nN,nN,nN,nN,nN] rfl rfl (any_of HT_.out (by kernel_rfl)) (fun _ _ _ h => h) (Or.inl ⟨by rfl, ?_⟩) ?_ ?_
    rotate_left
    ·intro w'
     go_simp
     with_reducible rfl
    rotate_left
    ·simp only [Act.put, List.setIfInBounds_toArray, List.set_cons_zero, List.set_cons_succ, i64_w, i32_w]
     rfl
    refine pure_ (i := 1) (N := some 20) (v := ?_) (a' := ?_) #[yY,yY,nN,nN,nN,nN,nN,nN,nN,nN,nN,nN,nN,nN,nN,nN,nN,nN] rfl rfl (any_of HT_.out (by kernel_rfl)) (fun _ _ _ h => h) (Or.inl ⟨by rfl, ?_⟩) ?_ ?_
    rotate_left
    ·intro w'
     go_simp
     with_reducible rfl
    rotate_left
    ·simp only [Act.put, List.setIfInBounds_toArray, List.set_cons_zero, List.set_cons_succ, i64_w, i32_w]
     rfl
    refine pure_ (i := 5) (N := some 24) (v := ?_) (a' := ?_) #[yY,yY,nN,nN,nN,yY,nN,nN,nN,nN,nN,nN,nN,nN,nN,nN,nN,nN] rfl rfl (any_of HT_.out (by kernel_rfl)) (fun _ _ _ h => h) (Or.inl ⟨by rfl, ?_⟩) ?_ ?_
    rotate_left
    ·intro w'
     go_simp
     with_reducible rfl
    rotate_left
    ·simp only [Act.put, List.setIfInBounds_toArray, List.set_cons_zero, List.set_cons_succ, i64_w, i32_w]
     rfl
    refine pure_ (i := 6) (N := some 25) (v := ?_) (a' := ?_) #[yY,yY,nN,nN,nN,yY,yY,nN,nN,nN,nN,nN,nN,nN,nN,nN,nN,nN] rfl rfl (any_of HT_.out (by kernel_rfl)) (fun _ _ _ h => h) (Or.inl ⟨by rfl, ?_⟩) ?_ ?_
    rotate_left
    ·intro w'
     go_simp
     with_reducible rfl
    rotate_left
    ·simp only [Act.put, List.setIfInBounds_toArray, List.set_cons_zero, List.set_cons_succ, i64_w, i32_w]
     rfl
    refine pure_ (i := 10) (N := some 29) (v := ?_) (a' := ?_) #[yY,yY,nN,nN,nN,yY,yY,nN,nN,nN,yY,nN,nN,nN,nN,nN,nN,nN] rfl rfl (any_of HT_.out (by kernel_rfl)) (fun _ _ _ h => h) (Or.inl ⟨by rfl, ?_⟩) ?_ ?_
    rotate_left
    ·intro w'
     go_simp
     with_reducible rfl
    rotate_left
    ·simp only [Act.put, List.setIfInBounds_toArray, List.set_cons_zero, List.set_cons_succ, i64_w, i32_w]
     rfl
    refine pure_ (i := 11) (N := some 30) (v := ?_) (a' := ?_) #[yY,yY,nN,nN,nN,yY,yY,nN,nN,nN,yY,yY,nN,nN,nN,nN,nN,nN] rfl rfl (any_of HT_.out (by kernel_rfl)) (fun _ _ _ h => h) (Or.inl ⟨by rfl, ?_⟩) ?_ ?_
    rotate_left
    ·intro w'
     go_simp
     with_reducible rfl
    rotate_left
    ·simp only [Act.put, List.setIfInBounds_toArray, List.set_cons_zero, List.set_cons_succ, i64_w, i32_w]
     rfl
    refine take_ (i := 2) (N := some 21) (v := ?_) (a' := ?_) #[yY,yY,yY,nN,nN,yY,yY,nN,nN,nN,yY,yY,nN,nN,nN,nN,nN,nN] rfl rfl (take_ofW HT_.out HW_.out (by kernel_rfl)) (fun _ _ _ h => h) (Or.inl ⟨by rfl, ?_⟩) hHeld ?_ ?_
    rotate_left
    ·rintro w' ⟨s0, s1, s2⟩
     go_simp
     with_reducible rfl
    rotate_left
    ·simp only [Act.put, List.setIfInBounds_toArray, List.set_cons_zero, List.set_cons_succ, i64_w, i32_w]
     rfl
    refine pure_ (i := 3) (N := some 22) (v := ?_) (a' := ?_) #[yY,yY,yY,yY,nN,yY,yY,nN,nN,nN,yY,yY,nN,nN,nN,nN,nN,nN] rfl rfl (any_of HT_.out (by kernel_rfl)) (fun _ _ _ h => h) (Or.inl ⟨by rfl, ?_⟩) ?_ ?_
    rotate_left
    ·intro w'
     go_simp
     with_reducible rfl
    rotate_left
    ·simp only [Act.put, List.setIfInBounds_toArray, List.set_cons_zero, List.set_cons_succ, i64_w, i32_w]
     rfl
    refine pure_ (i := 4) (N := some 23) (v := ?_) (a' := ?_) #[yY,yY,yY,yY,yY,yY,yY,nN,nN,nN,yY,yY,nN,nN,nN,nN,nN,nN] rfl rfl (any_of HT_.out (by kernel_rfl)) (fun _ _ _ h => h) (Or.inl ⟨by rfl, ?_⟩) ?_ ?_
    rotate_left
    ·intro w'
     go_simp
     with_reducible rfl
    rotate_left
    ·simp only [Act.put, List.setIfInBounds_toArray, List.set_cons_zero, List.set_cons_succ, i64_w, i32_w]
     rfl
    refine take_ (i := 7) (N := some 26) (v := ?_) (a' := ?_) #[yY,yY,yY,yY,yY,yY,yY,yY,nN,nN,yY,yY,nN,nN,nN,nN,nN,nN] rfl rfl (take_ofW HT_.out HW_.out (by kernel_rfl)) (fun _ _ _ h => h) (Or.inl ⟨by rfl, ?_⟩) hHeld ?_ ?_
    rotate_left
    ·rintro w' ⟨s0, s1, s2⟩
     go_simp
     with_reducible rfl
    rotate_left
    ·simp only [Act.put, List.setIfInBounds_toArray, List.set_cons_zero, List.set_cons_succ, i64_w, i32_w]
     rfl
    refine pure_ (i := 8) (N := some 27) (v := ?_) (a' := ?_) #[yY,yY,yY,yY,yY,yY,yY,yY,yY,nN,yY,yY,nN,nN,nN,nN,nN,nN] rfl rfl (any_of HT_.out (by kernel_rfl)) (fun _ _ _ h => h) (Or.inl ⟨by rfl, ?_⟩) ?_ ?_
    rotate_left
    ·intro w'
     go_simp
     with_reducible rfl
    rotate_left
    ·simp only [Act.put, List.setIfInBounds_toArray, List.set_cons_zero, List.set_cons_succ, i64_w, i32_w]
     rfl
    refine pure_ (i := 9) (N := some 28) (v := ?_) (a' := ?_) #[yY,yY,yY,yY,yY,yY,yY,yY,yY,yY,yY,yY,nN,nN,nN,nN,nN,nN] rfl rfl (any_of HT_.out (by kernel_rfl)) (fun _ _ _ h => h) (Or.inl ⟨by rfl, ?_⟩) ?_ ?_
    rotate_left
    ·intro w'
     go_simp
     with_reducible rfl
    rotate_left
    ·simp only [Act.put, List.setIfInBounds_toArray, List.set_cons_zero, List.set_cons_succ, i64_w, i32_w]
     rfl
    refine take_ (i := 12) (N := some 31) (v := ?_) (a' := ?_) #[yY,yY,yY,yY,yY,yY,yY,yY,yY,yY,yY,yY,yY,nN,nN,nN,nN,nN] rfl rfl (take_ofW HT_.out HW_.out (by kernel_rfl)) (fun _ _ _ h => h) (Or.inl ⟨by rfl, ?_⟩) hHeld ?_ ?_
    rotate_left
    ·rintro w' ⟨s0, s1, s2⟩
     go_simp
     with_reducible rfl
    rotate_left
    ·simp only [Act.put, List.setIfInBounds_toArray, List.set_cons_zero, List.set_cons_succ, i64_w, i32_w]
     rfl
    refine pure_ (i := 13) (N := some 32) (v := ?_) (a' := ?_) #[yY,yY,yY,yY,yY,yY,yY,yY,yY,yY,yY,yY,yY,yY,nN,nN,nN,nN] rfl rfl (any_of HT_.out (by kernel_rfl)) (fun _ _ _ h => h) (Or.inl ⟨by rfl, ?_⟩) ?_ ?_
    rotate_left
    ·intro w'
     go_simp
     with_reducible rfl
    rotate_left
    ·simp only [Act.put, List.setIfInBounds_toArray, List.set_cons_zero, List.set_cons_succ, i64_w, i32_w]
     rfl
    refine pure_ (i := 14) (N := some 33) (v := ?_) (a' := ?_) #[yY,yY,yY,yY,yY,yY,yY,yY,yY,yY,yY,yY,yY,yY,yY,nN,nN,nN] rfl rfl (any_of HT_.out (by kernel_rfl)) (fun _ _ _ h => h) (Or.inl ⟨by rfl, ?_⟩) ?_ ?_
    rotate_left
    ·intro w'
     go_simp
     with_reducible rfl
    rotate_left
    ·simp only [Act.put, List.setIfInBounds_toArray, List.set_cons_zero, List.set_cons_succ, i64_w, i32_w]
     rfl
    refine pure_ (i := 15) (N := some 34) (v := ?_) (a' := ?_) #[yY,yY,yY,yY,yY,yY,yY,yY,yY,yY,yY,yY,yY,yY,yY,yY,nN,nN] rfl rfl (any_of HT_.out (by kernel_rfl)) (fun _ _ _ h => h) (Or.inl ⟨by rfl, ?_⟩) ?_ ?_
    rotate_left
    ·intro w'
     go_simp
     with_reducible rfl
    rotate_left
    ·simp only [Act.put, List.setIfInBounds_toArray, List.set_cons_zero, List.set_cons_succ, i64_w, i32_w]
     rfl
    refine one_ (i := 16) (N := some 5) #[yY,yY,yY,yY,yY,yY,yY,yY,yY,yY,yY,yY,yY,yY,yY,yY,yY,nN] rfl rfl (one_of HT_.out (by kernel_rfl)) (by decide) (fun K hK => ?_)
    refine box_step ?hg (N := 5) ?hd (cs := #[.int .i64 0, .int .i64 0, .bool false, .slice none 0 0, .slice none 0 0]) (t := 29) ?hr ?_; (case hd => rfl); (case hg => rfl); (case hr => first | (go_simp; done) | (go_simp; rfl))
    intro gb227 hg w9 hbox hb
    have HS0_ := (hb.cell (World.block_lt_of_cell? _ _ (hHeld.1))).trans (hHeld.1)
    have HS1_ := (hb.cell (World.block_lt_of_cell? _ _ (hHeld.2.1))).trans (hHeld.2.1)
    have HS2_ := (hb.cell (World.block_lt_of_cell? _ _ (hHeld.2.2))).trans (hHeld.2.2)
    have n0_ := Aside0.mk (Kd.V_below (Kd.V_elderB (by (with_reducible repeat (first | apply Kd.V_drew)); exact HO0.out) gb227 (Nat.le_of_eq hg.symm)) hb)
    have n1_ := Aside0.mk (blk_below (g := gb223) (o := .cells #[.int .i64 0, .int .i64 0, .bool false, .slice none 0 0, .slice none 0 0] 29 (0, 0)) (by (with_reducible repeat (first | refine blk_drew ?_ | refine blk_alloc ?_ _)); exact BK223.out) hb)
    have n2_ := Aside0.mk (below_step (by repeat (first | (with_reducible first | exact HB.out | apply below_alloc | apply pw_below_drewN | apply below_drew1 | refine below_set ?_ GE223.out) | exact HB.out)) hb)
    have n3_ := Aside0.mk (hbox)
    have n4_ := Aside0.mk ((by rw [hg]; exact (below_size (by repeat (first | (with_reducible first | exact HB.out | apply below_alloc | apply pw_below_drewN | apply below_drew1 | refine below_set ?_ GE223.out) | exact HB.out))) : w.heap.size ≤ gb227))
    have n5_ := Aside0.mk ((by rw [hg]; exact (below_size (by repeat (first | (with_reducible first | exact HB.out | apply below_alloc | apply pw_below_drewN | apply below_drew1 | refine below_set ?_ GE223.out) | exact HB.out))) : w.heap.size ≤ gb227))
    have n6_ := Aside0.mk ((by rw [hg]; exact Nat.ne_of_lt (blk_lt (g := gb223) (o := .cells #[.int .i64 0, .int .i64 0, .bool false, .slice none 0 0, .slice none 0 0] 29 (0, 0)) (by (with_reducible repeat (first | refine blk_drew ?_ | refine blk_alloc ?_ _)); exact BK223.out)) : gb223 ≠ gb227))
    have n7_ := Aside0.mk ((by rw [hg]; exact Nat.ne_of_gt (blk_lt (g := gb223) (o := .cells #[.int .i64 0, .int .i64 0, .bool false, .slice none 0 0, .slice none 0 0] 29 (0, 0)) (by (with_reducible repeat (first | refine blk_drew ?_ | refine blk_alloc ?_ _)); exact BK223.out)) : gb227 ≠ gb223))
    clear HO0
    clear BK223
    clear HB
    have HO0 := n0_
    have BK223 := n1_
    have HB := n2_
    have BK227 := n3_
    have GW227 := n4_
    have GE227 := n5_
    have NB223_227 := n6_
    have NB227_223 := n7_
    clear n0_ n1_ n2_ n3_ n4_ n5_ n6_ n7_
    clear hb hbox hg
    refine hK.out _ _ ⟨HS0_, HS1_, HS2_⟩ (fun hHeld => ?_)
    clear hK K
    refine norm_ (a' := ?_) ?_ ?_
    rotate_left
    ·show Act.put _ (some 5) _ = _
     simp only [Act.put, List.setIfInBounds_toArray, List.set_cons_zero, List.set_cons_succ, i64_w, i32_w]
     rfl
    refine one_ (i := 17) (N := none) #[yY,yY,yY,yY,yY,yY,yY,yY,yY,yY,yY,yY,yY,yY,yY,yY,yY,yY] rfl rfl (one_of HT_.out (by kernel_rfl)) (by decide) (fun K hK => ?_)
    have hs10 : w9.cell? ⟨gb227, 0, none⟩ = some (.int .i64 0) := (blk_cell BK227.out 0).trans rfl
    have hfs10 := blk_frozen BK227.out 0
    have hns10_0 := NB223_227.out
    have hms10_0 := NB227_223.out
    have hs11 : w9.cell? ⟨gb227, 1, none⟩ = some (.int .i64 0) := (blk_cell BK227.out 1).trans rfl
    have hfs11 := blk_frozen BK227.out 1
    have hns11_0 := NB223_227.out
    have hms11_0 := NB227_223.out
    have hs12 : w9.cell? ⟨gb227, 2, none⟩ = some (.bool false) := (blk_cell BK227.out 2).trans rfl
    have hfs12 := blk_frozen BK227.out 2
    have hns12_0 := NB223_227.out
    have hms12_0 := NB227_223.out
    have hs13 : w9.cell? ⟨gb227, 3, none⟩ = some (.slice none 0 0) := (blk_cell BK227.out 3).trans rfl
    have hfs13 := blk_frozen BK227.out 3
    have hns13_0 := NB223_227.out
    have hms13_0 := NB227_223.out
    have hs14 : w9.cell? ⟨gb227, 4, none⟩ = some (.slice none 0 0) := (blk_cell BK227.out 4).trans rfl
    have hfs14 := blk_frozen BK227.out 4
    have hns14_0 := NB223_227.out
    have hms14_0 := NB227_223.out
    refine skip_ (w1 := ?_) (by rfl) rfl ?_ ?_
    rotate_left
    ·go_simp
     rfl
    have hne_ : ad224.block ≠ gb227 := V_ne HO0.out (fun _ hk => (by first | exact hk.2 | exact hk.2.2 | exact hk.2.1 | exact hk.1.2)) (of_decide_eq_true (p := 0 < l0.length) (by first | assumption | exact decide_eq_true (by omega))) (by decide)
    refine hK.out _ _ ⟨((cell_far (p := ⟨gb227, _, none⟩) hne_ _).trans (((cell_far (p := ⟨gb227, _, none⟩) hne_ _).trans (((cell_far (p := ⟨gb227, _, none⟩) hne_ _).trans (((cell_far (p := ⟨gb227, _, none⟩) hne_ _).trans (((cell_far (p := ⟨gb227, _, none⟩) hne_ _).trans (hHeld.1)))))))))), ((cell_far (p := ⟨gb227, _, none⟩) hne_ _).trans (((cell_far (p := ⟨gb227, _, none⟩) hne_ _).trans (((cell_far (p := ⟨gb227, _, none⟩) hne_ _).trans (((cell_far (p := ⟨gb227, _, none⟩) hne_ _).trans (((cell_far (p := ⟨gb227, _, none⟩) hne_ _).trans (hHeld.2.1)))))))))), ((cell_far (p := ⟨gb227, _, none⟩) hne_ _).trans (((cell_far (p := ⟨gb227, _, none⟩) hne_ _).trans (((cell_far (p := ⟨gb227, _, none⟩) hne_ _).trans (((cell_far (p := ⟨gb227, _, none⟩) hne_ _).trans (((cell_far (p := ⟨gb227, _, none⟩) hne_ _).trans (hHeld.2.2))))))))))⟩ (fun hHeld => ?_)
    clear hK K
    refine done_ (done_of HT_.out (by kernel_rfl)) ?_
    have hnb15 := NB227_223.out
    have hnc15 := NB223_227.out
    have hcz16_0 : w9.cell? ⟨gb227, 0, none⟩ = some (.int .i64 0) := (blk_cell BK227.out 0).trans rfl
    have hcz16_1 : w9.cell? ⟨gb227, 1, none⟩ = some (.int .i64 0) := (blk_cell BK227.out 1).trans rfl
    have hcz16_2 : w9.cell? ⟨gb227, 2, none⟩ = some (.bool false) := (blk_cell BK227.out 2).trans rfl
    have hcz16_3 : w9.cell? ⟨gb227, 3, none⟩ = some (.slice none 0 0) := (blk_cell BK227.out 3).trans rfl
    have hcz16_4 : w9.cell? ⟨gb227, 4, none⟩ = some (.slice none 0 0) := (blk_cell BK227.out 4).trans rfl
    have hfz16_0 := blk_frozen BK227.out 0
    have hfz16_1 := blk_frozen BK227.out 1
    have hfz16_2 := blk_frozen BK227.out 2
    have hfz16_3 := blk_frozen BK227.out 3
    have hfz16_4 := blk_frozen BK227.out 4
    go_upto_if 37 with (fail)
    go_cut [6] (fun v6 wc => ∃ (kq : Nat) (x6_5 : Int) (x224000_5 : Int) (x224001_5 : Int) (x224002_5 : Bool) (x228001_5 : Int), v6 = .int .i64 x6_5 ∧ Aside0 (spec_Read.j3 kq l0 x6_5 (wrap64 ((rd l0 0) / 64)) x228001_5 ((Go.bits .and .u8 (rd l0 0) 32) != 0) = some (r1, r2, r3, r4, r5, r6, r7)) ∧ Aside0 (kq ≤ k) ∧ Aside0 (Kd.V (Kd.int .u8) 5 wc w.heap.size (fun k_ => (P0_ k_ ∨ w.heap.size ≤ k_) ∧ k_ ≠ gb223 ∧ k_ ≠ gb227) (.slice (some ad224) l0.length c0) l0) ∧ Aside0 (wc.heap[gb223]? = some (.cells #[.int .i64 x224000_5, .int .i64 x224001_5, .bool x224002_5, (.slice none 0 0), (.slice none 0 0)] 29 (0, 0))) ∧ Aside0 (wc.heap[gb227]? = some (.cells #[.int .i64 (wrap64 ((rd l0 0) / 64)), .int .i64 x228001_5, .bool ((Go.bits .and .u8 (rd l0 0) 32) != 0), (.slice none 0 0), (.slice none 0 0)] 29 (0, 0))) ∧ Aside0 (Below w.heap.size w wc))
    case first =>
      have H := HC6.out
      clear HC6
      by_cases c17 : (wrap64 (Go.bits .and .u8 (rd l0 0) 31)) = 31
      ·rw [if_pos c17] at H
       have c17b0 : ((wrap64 (Go.bits .and .u8 (rd l0 0) 31)) == 31) = true := beq_iff_eq.mpr c17
       have c17b1 : ((wrap64 (Go.bits .and .u8 (rd l0 0) 31)) != 31) = false := bne_eq_false_iff_eq.mpr c17
       clear c17
       (first | rw [c17b0] | (simp only [i64_w, i32_w]; rw [c17b0]) | skip)
       have HC18 := Aside0.mk H
       clear H
       have hnb19 := NB227_223.out
       have hnc19 := NB223_227.out
       have hcz20_0 : w9.cell? ⟨gb227, 0, none⟩ = some (.int .i64 0) := (blk_cell BK227.out 0).trans rfl
       have hcz20_1 : w9.cell? ⟨gb227, 1, none⟩ = some (.int .i64 0) := (blk_cell BK227.out 1).trans rfl
       have hcz20_2 : w9.cell? ⟨gb227, 2, none⟩ = some (.bool false) := (blk_cell BK227.out 2).trans rfl
       have hcz20_3 : w9.cell? ⟨gb227, 3, none⟩ = some (.slice none 0 0) := (blk_cell BK227.out 3).trans rfl
       have hcz20_4 : w9.cell? ⟨gb227, 4, none⟩ = some (.slice none 0 0) := (blk_cell BK227.out 4).trans rfl
       have hfz20_0 := blk_frozen BK227.out 0
       have hfz20_1 := blk_frozen BK227.out 1
       have hfz20_2 := blk_frozen BK227.out 2
       have hfz20_3 := blk_frozen BK227.out 3
       have hfz20_4 := blk_frozen BK227.out 4
       go_upto_region 7 with (fail)
       go_cut [50] (fun v50 wc => ∃ (kq : Nat) (x50_17 : Bool), v50 = .bool x50_17 ∧ Aside0 (spec_Read.j0 kq l0 1 x50_17 (wrap64 ((rd l0 0) / 64)) 0 ((Go.bits .and .u8 (rd l0 0) 32) != 0) = some (r1, r2, r3, r4, r5, r6, r7)) ∧ Aside0 (kq ≤ k) ∧ Aside0 (Kd.V (Kd.int .u8) 5 wc w.heap.size (fun k_ => (P0_ k_ ∨ w.heap.size ≤ k_) ∧ k_ ≠ gb223 ∧ k_ ≠ gb227) (.slice (some ad224) l0.length c0) l0) ∧ Aside0 (wc.heap[gb223]? = some (.cells #[.int .i64 0, .int .i64 0, .bool false, (.slice none 0 0), (.slice none 0 0)] 29 (0, 0))) ∧ Aside0 (wc.heap[gb227]? = some (.cells #[.int .i64 (wrap64 ((rd l0 0) / 64)), .int .i64 0, .bool ((Go.bits .and .u8 (rd l0 0) 32) != 0), (.slice none 0 0), (.slice none 0 0)] 29 (0, 0))) ∧ Aside0 (Below w.heap.size w wc))
       case first =>
         have H := HC18.out
         clear HC18
         by_cases c21 : 1 < (l0.length : Int)
         ·rw [if_pos c21] at H
          have c21b0 : decide (1 < (l0.length : Int)) = true := decide_eq_true c21
          have c21b1 : decide (1 < l0.length) = true := decide_eq_true (by omega)
          clear c21
          (first | rw [c21b0] | (simp only [i64_w, i32_w]; rw [c21b0]) | skip)
          have H' := Aside0.mk H
          clear H
          have p228 : 0 ≤ (1 : Int) := (by omega)
          have q228 : 1 < (l0.length : Int) := of_decide_eq_true (by first | (with_reducible assumption) | assumption)
          obtain ⟨ad228, e228, hx228_0⟩ := Kd.at_int (Kd.V_reads' HO0.out).2.2 1 p228 q228
          obtain rfl : ad224 = ad228 := (by injection e228)
          (try simp only [show (1 : Int).toNat = 1 from rfl, Nat.reduceMul, Nat.reduceEqDiff, Go.Addr.add, ↓reduceIte] at hx228_0)
          have qi228 : (1 < l0.length) = True := eq_true (by omega)
          (try rw [show ((1 : Int)).toNat = 1 from rfl] at hx228_0)
          have hn228_0 : ad224.block ≠ gb227 := V_ne HO0.out (fun _ hk => (by first | exact hk.2 | exact hk.2.2 | exact hk.2.1 | exact hk.1.2)) (of_decide_eq_true (p := 0 < l0.length) (by first | assumption | exact decide_eq_true (by omega))) (by decide)
          have hn228_1 : ad224.block ≠ gb227 := V_ne HO0.out (fun _ hk => (by first | exact hk.2 | exact hk.2.2 | exact hk.2.1 | exact hk.1.2)) (of_decide_eq_true (p := 0 < l0.length) (by first | assumption | exact decide_eq_true (by omega))) (by decide)
          have hn228_2 : ad224.block ≠ gb227 := V_ne HO0.out (fun _ hk => (by first | exact hk.2 | exact hk.2.2 | exact hk.2.1 | exact hk.1.2)) (of_decide_eq_true (p := 0 < l0.length) (by first | assumption | exact decide_eq_true (by omega))) (by decide)
          have hn228_3 : ad224.block ≠ gb227 := V_ne HO0.out (fun _ hk => (by first | exact hk.2 | exact hk.2.2 | exact hk.2.1 | exact hk.1.2)) (of_decide_eq_true (p := 0 < l0.length) (by first | assumption | exact decide_eq_true (by omega))) (by decide)
          have hn228_4 : ad224.block ≠ gb227 := V_ne HO0.out (fun _ hk => (by first | exact hk.2 | exact hk.2.2 | exact hk.2.1 | exact hk.1.2)) (of_decide_eq_true (p := 0 < l0.length) (by first | assumption | exact decide_eq_true (by omega))) (by decide)
          have hn228_5 : ad224.block ≠ gb227 := V_ne HO0.out (fun _ hk => (by first | exact hk.2 | exact hk.2.2 | exact hk.2.1 | exact hk.1.2)) (of_decide_eq_true (p := 0 < l0.length) (by first | assumption | exact decide_eq_true (by omega))) (by decide)
          replace hx228_0 := (cell_far (p := ⟨gb227, 0, none⟩) (by first | (rw [add_block]; exact hn228_0) | (show (Addr.add _ _).block ≠ _; rw [add_block]; exact hn228_0) | exact hn228_0) (.int .i64 (wrap64 ((rd l0 0) / 64)))).trans hx228_0
          replace hx228_0 := (cell_far (p := ⟨gb227, 1, none⟩) (by first | (rw [add_block]; exact hn228_1) | (show (Addr.add _ _).block ≠ _; rw [add_block]; exact hn228_1) | exact hn228_1) (.int .i64 (wrap64 (Go.bits .and .u8 (rd l0 0) 31)))).trans hx228_0
          replace hx228_0 := (cell_far (p := ⟨gb227, 2, none⟩) (by first | (rw [add_block]; exact hn228_2) | (show (Addr.add _ _).block ≠ _; rw [add_block]; exact hn228_2) | exact hn228_2) (.bool ((Go.bits .and .u8 (rd l0 0) 32) != 0))).trans hx228_0
          replace hx228_0 := (cell_far (p := ⟨gb227, 3, none⟩) (by first | (rw [add_block]; exact hn228_3) | (show (Addr.add _ _).block ≠ _; rw [add_block]; exact hn228_3) | exact hn228_3) (.slice none 0 0)).trans hx228_0
          replace hx228_0 := (cell_far (p := ⟨gb227, 4, none⟩) (by first | (rw [add_block]; exact hn228_4) | (show (Addr.add _ _).block ≠ _; rw [add_block]; exact hn228_4) | exact hn228_4) (.slice none 0 0)).trans hx228_0
          replace hx228_0 := (cell_far (p := ⟨gb227, 1, none⟩) (by first | (rw [add_block]; exact hn228_5) | (show (Addr.add _ _).block ≠ _; rw [add_block]; exact hn228_5) | exact hn228_5) (.int .i64 0)).trans hx228_0
          clear hn228_0
          clear hn228_1
          clear hn228_2
          clear hn228_3
          clear hn228_4
          clear hn228_5
          replace p228 := eq_true p228
          replace q228 := eq_true q228
          go_wp2
          go_meet
          case rel => exact ⟨_, (((Go.bits .and .u8 (rd l0 1) 127) == 0)), (by first | rfl | (simp; done) | (simp [*]; done)), H', ⟨by first | omega | exact Nat.le_refl _⟩, ⟨by (with_reducible repeat (first | apply Kd.V_drew)); exact Kd.V_mono (Kd.V_far (p := ⟨gb227, 1, none⟩) (Kd.V_far (p := ⟨gb227, 4, none⟩) (Kd.V_far (p := ⟨gb227, 3, none⟩) (Kd.V_far (p := ⟨gb227, 2, none⟩) (Kd.V_far (p := ⟨gb227, 1, none⟩) (Kd.V_far (p := ⟨gb227, 0, none⟩) (Kd.V_mono HO0.out (fun k_ hk => (⟨hk, hk.2⟩ : _ ∧ k_ ≠ gb227))) (fun _ hk => hk.2) (.int .i64 (wrap64 ((rd l0 0) / 64)))) (fun _ hk => hk.2) (.int .i64 (wrap64 (Go.bits .and .u8 (rd l0 0) 31)))) (fun _ hk => hk.2) (.bool ((Go.bits .and .u8 (rd l0 0) 32) != 0))) (fun _ hk => hk.2) (.slice none 0 0)) (fun _ hk => hk.2) (.slice none 0 0)) (fun _ hk => hk.2) (.int .i64 0)) (fun _ hk => ⟨hk.1.1.1, ⟨hk.1.1.2, hk.1.2⟩⟩)⟩, ⟨by (with_reducible repeat (first | refine blk_drew ?_ | refine blk_alloc ?_ _)); refine blk_far ?_ NB223_227.out _; (with_reducible repeat (first | refine blk_drew ?_ | refine blk_alloc ?_ _)); refine blk_far ?_ NB223_227.out _; (with_reducible repeat (first | refine blk_drew ?_ | refine blk_alloc ?_ _)); refine blk_far ?_ NB223_227.out _; (with_reducible repeat (first | refine blk_drew ?_ | refine blk_alloc ?_ _)); refine blk_far ?_ NB223_227.out _; (with_reducible repeat (first | refine blk_drew ?_ | refine blk_alloc ?_ _)); refine blk_far ?_ NB223_227.out _; (with_reducible repeat (first | refine blk_drew ?_ | refine blk_alloc ?_ _)); refine blk_far ?_ NB223_227.out _; (with_reducible repeat (first | refine blk_drew ?_ | refine blk_alloc ?_ _)); exact BK223.out⟩, ⟨by (with_reducible repeat (first | refine blk_drew ?_ | refine blk_alloc ?_ _)); refine blk_put (cs := #[.int .i64 (wrap64 ((rd l0 0) / 64)), .int .i64 (wrap64 (Go.bits .and .u8 (rd l0 0) 31)), .bool ((Go.bits .and .u8 (rd l0 0) 32) != 0), .slice none 0 0, .slice none 0 0]) ?_ 1 _ rfl; (with_reducible repeat (first | refine blk_drew ?_ | refine blk_alloc ?_ _)); refine blk_put (cs := #[.int .i64 (wrap64 ((rd l0 0) / 64)), .int .i64 (wrap64 (Go.bits .and .u8 (rd l0 0) 31)), .bool ((Go.bits .and .u8 (rd l0 0) 32) != 0), .slice none 0 0, .slice none 0 0]) ?_ 4 _ rfl; (with_reducible repeat (first | refine blk_drew ?_ | refine blk_alloc ?_ _)); refine blk_put (cs := #[.int .i64 (wrap64 ((rd l0 0) / 64)), .int .i64 (wrap64 (Go.bits .and .u8 (rd l0 0) 31)), .bool ((Go.bits .and .u8 (rd l0 0) 32) != 0), .slice none 0 0, .slice none 0 0]) ?_ 3 _ rfl; (with_reducible repeat (first | refine blk_drew ?_ | refine blk_alloc ?_ _)); refine blk_put (cs := #[.int .i64 (wrap64 ((rd l0 0) / 64)), .int .i64 (wrap64 (Go.bits .and .u8 (rd l0 0) 31)), .bool false, .slice none 0 0, .slice none 0 0]) ?_ 2 _ rfl; (with_reducible repeat (first | refine blk_drew ?_ | refine blk_alloc ?_ _)); refine blk_put (cs := #[.int .i64 (wrap64 ((rd l0 0) / 64)), .int .i64 0, .bool false, .slice none 0 0, .slice none 0 0]) ?_ 1 _ rfl; (with_reducible repeat (first | refine blk_drew ?_ | refine blk_alloc ?_ _)); refine blk_put (cs := #[.int .i64 0, .int .i64 0, .bool false, .slice none 0 0, .slice none 0 0]) ?_ 0 _ rfl; (with_reducible repeat (first | refine blk_drew ?_ | refine blk_alloc ?_ _)); exact BK227.out⟩, ⟨by repeat (first | (with_reducible first | exact HB.out | apply below_alloc | apply pw_below_drewN | apply below_drew1 | refine below_set ?_ GE223.out | refine below_set ?_ GE227.out) | exact HB.out)⟩⟩
         ·rw [if_neg c21] at H
          have c21b0 : decide (1 < (l0.length : Int)) = false := decide_eq_false c21
          have c21b1 : decide (1 < l0.length) = false := decide_eq_false (by omega)
          clear c21
          (first | rw [c21b0] | (simp only [i64_w, i32_w]; rw [c21b0]) | skip)
          have H' := Aside0.mk H
          clear H
          go_wp2
          go_meet
          case rel => exact ⟨_, (false), (by first | rfl | (simp; done) | (simp [*]; done)), H', ⟨by first | omega | exact Nat.le_refl _⟩, ⟨by (with_reducible repeat (first | apply Kd.V_drew)); exact Kd.V_mono (Kd.V_far (p := ⟨gb227, 1, none⟩) (Kd.V_far (p := ⟨gb227, 4, none⟩) (Kd.V_far (p := ⟨gb227, 3, none⟩) (Kd.V_far (p := ⟨gb227, 2, none⟩) (Kd.V_far (p := ⟨gb227, 1, none⟩) (Kd.V_far (p := ⟨gb227, 0, none⟩) (Kd.V_mono HO0.out (fun k_ hk => (⟨hk, hk.2⟩ : _ ∧ k_ ≠ gb227))) (fun _ hk => hk.2) (.int .i64 (wrap64 ((rd l0 0) / 64)))) (fun _ hk => hk.2) (.int .i64 (wrap64 (Go.bits .and .u8 (rd l0 0) 31)))) (fun _ hk => hk.2) (.bool ((Go.bits .and .u8 (rd l0 0) 32) != 0))) (fun _ hk => hk.2) (.slice none 0 0)) (fun _ hk => hk.2) (.slice none 0 0)) (fun _ hk => hk.2) (.int .i64 0)) (fun _ hk => ⟨hk.1.1.1, ⟨hk.1.1.2, hk.1.2⟩⟩)⟩, ⟨by (with_reducible repeat (first | refine blk_drew ?_ | refine blk_alloc ?_ _)); refine blk_far ?_ NB223_227.out _; (with_reducible repeat (first | refine blk_drew ?_ | refine blk_alloc ?_ _)); refine blk_far ?_ NB223_227.out _; (with_reducible repeat (first | refine blk_drew ?_ | refine blk_alloc ?_ _)); refine blk_far ?_ NB223_227.out _; (with_reducible repeat (first | refine blk_drew ?_ | refine blk_alloc ?_ _)); refine blk_far ?_ NB223_227.out _; (with_reducible repeat (first | refine blk_drew ?_ | refine blk_alloc ?_ _)); refine blk_far ?_ NB223_227.out _; (with_reducible repeat (first | refine blk_drew ?_ | refine blk_alloc ?_ _)); refine blk_far ?_ NB223_227.out _; (with_reducible repeat (first | refine blk_drew ?_ | refine blk_alloc ?_ _)); exact BK223.out⟩, ⟨by (with_reducible repeat (first | refine blk_drew ?_ | refine blk_alloc ?_ _)); refine blk_put (cs := #[.int .i64 (wrap64 ((rd l0 0) / 64)), .int .i64 (wrap64 (Go.bits .and .u8 (rd l0 0) 31)), .bool ((Go.bits .and .u8 (rd l0 0) 32) != 0), .slice none 0 0, .slice none 0 0]) ?_ 1 _ rfl; (with_reducible repeat (first | refine blk_drew ?_ | refine blk_alloc ?_ _)); refine blk_put (cs := #[.int .i64 (wrap64 ((rd l0 0) / 64)), .int .i64 (wrap64 (Go.bits .and .u8 (rd l0 0) 31)), .bool ((Go.bits .and .u8 (rd l0 0) 32) != 0), .slice none 0 0, .slice none 0 0]) ?_ 4 _ rfl; (with_reducible repeat (first | refine blk_drew ?_ | refine blk_alloc ?_ _)); refine blk_put (cs := #[.int .i64 (wrap64 ((rd l0 0) / 64)), .int .i64 (wrap64 (Go.bits .and .u8 (rd l0 0) 31)), .bool ((Go.bits .and .u8 (rd l0 0) 32) != 0), .slice none 0 0, .slice none 0 0]) ?_ 3 _ rfl; (with_reducible repeat (first | refine blk_drew ?_ | refine blk_alloc ?_ _)); refine blk_put (cs := #[.int .i64 (wrap64 ((rd l0 0) / 64)), .int .i64 (wrap64 (Go.bits .and .u8 (rd l0 0) 31)), .bool false, .slice none 0 0, .slice none 0 0]) ?_ 2 _ rfl; (with_reducible repeat (first | refine blk_drew ?_ | refine blk_alloc ?_ _)); refine blk_put (cs := #[.int .i64 (wrap64 ((rd l0 0) / 64)), .int .i64 0, .bool false, .slice none 0 0, .slice none 0 0]) ?_ 1 _ rfl; (with_reducible repeat (first | refine blk_drew ?_ | refine blk_alloc ?_ _)); refine blk_put (cs := #[.int .i64 0, .int .i64 0, .bool false, .slice none 0 0, .slice none 0 0]) ?_ 0 _ rfl; (with_reducible repeat (first | refine blk_drew ?_ | refine blk_alloc ?_ _)); exact BK227.out⟩, ⟨by repeat (first | (with_reducible first | exact HB.out | apply below_alloc | apply pw_below_drewN | apply below_drew1 | refine below_set ?_ GE223.out | refine below_set ?_ GE227.out) | exact HB.out)⟩⟩
       case rest =>
         clear HC18
         try clear c1
         try clear c2
         try clear c2b0
         try clear c2b1
         try clear p2
         try clear q2
         try clear hx2
         try clear qi2
         try clear c5
         try clear c5b0
         try clear c5b1
         try clear p6
         try clear c15
         try clear c17
         try clear c17b0
         try clear c17b1
         try clear c19
         try clear c21
         try clear c21b0
         try clear c21b1
         try clear hcz16_0
         try clear hcz16_1
         try clear hcz16_2
         try clear hcz16_3
         try clear hcz16_4
         try clear hcz20_0
         try clear hcz20_1
         try clear hcz20_2
         try clear hcz20_3
         try clear hcz20_4
         try clear hcz4_0
         try clear hcz4_1
         try clear hcz4_2
         try clear hcz4_3
         try clear hcz4_4
         try clear hfz16_0
         try clear hfz16_1
         try clear hfz16_2
         try clear hfz16_3
         try clear hfz16_4
         try clear hfz20_0
         try clear hfz20_1
         try clear hfz20_2
         try clear hfz20_3
         try clear hfz20_4
         try clear hfz4_0
         try clear hfz4_1
         try clear hfz4_2
         try clear hfz4_3
         try clear hfz4_4
         try clear hx224_0
         try clear hx225_0
         try clear hx226_0
         try clear hx228_0
         try clear p224
         try clear p225
         try clear p226
         try clear p228
         try clear q224
         try clear q225
         try clear q226
         try clear q228
         obtain ⟨kq, x50_17, rfl, HA, HJ17, HO_0, BK223, BK227, HB⟩ := hcut
         cases kq with
         | zero => exact absurd HA.out (by simp [spec_Read.j0])
         | succ kj17 =>
           have H := HA.out
           clear HA
           simp only [spec_Read.j0] at H
           by_cases c22 : x50_17 = true
           ·subst c22
            have H1 : (some (0, 0, false, ([] : List Int), ([] : List (S29)), 0, false)) = some (r1, r2, r3, r4, r5, r6, r7) := by rw [if_pos rfl] at H; exact H
            clear H
            have H := H1
            clear H1
            simp only [Option.some.injEq, Prod.mk.injEq] at H
            obtain ⟨rfl, rfl, rfl, rfl, rfl, rfl, rfl⟩ := H
            have hnb23 := NB223_227.out
            have hnc23 := NB227_223.out
            have hcz24_0 : wc.cell? ⟨gb223, 0, none⟩ = some (.int .i64 0) := (blk_cell BK223.out 0).trans rfl
            have hcz24_1 : wc.cell? ⟨gb223, 1, none⟩ = some (.int .i64 0) := (blk_cell BK223.out 1).trans rfl
            have hcz24_2 : wc.cell? ⟨gb223, 2, none⟩ = some (.bool false) := (blk_cell BK223.out 2).trans rfl
            have hcz24_3 : wc.cell? ⟨gb223, 3, none⟩ = some (.slice none 0 0) := (blk_cell BK223.out 3).trans rfl
            have hcz24_4 : wc.cell? ⟨gb223, 4, none⟩ = some (.slice none 0 0) := (blk_cell BK223.out 4).trans rfl
            have hfz24_0 := blk_frozen BK223.out 0
            have hfz24_1 := blk_frozen BK223.out 1
            have hfz24_2 := blk_frozen BK223.out 2
            have hfz24_3 := blk_frozen BK223.out 3
            have hfz24_4 := blk_frozen BK223.out 4
            go_wp2
            refine bodyPost_ret (results_ctt rfl _ _ gb223 29 #[.int .i64 0, .int .i64 0, .bool false, .slice none 0 0, .slice none 0 0] (0, 0) _ rfl (by (with_reducible repeat (first | refine blk_drew ?_ | refine blk_alloc ?_ _)); refine blk_put (cs := #[.int .i64 0, .int .i64 0, .bool false, .slice none 0 0, .slice none 0 0]) ?_ 4 _ rfl; (with_reducible repeat (first | refine blk_drew ?_ | refine blk_alloc ?_ _)); refine blk_put (cs := #[.int .i64 0, .int .i64 0, .bool false, .slice none 0 0, .slice none 0 0]) ?_ 3 _ rfl; (with_reducible repeat (first | refine blk_drew ?_ | refine blk_alloc ?_ _)); refine blk_put (cs := #[.int .i64 0, .int .i64 0, .bool false, .slice none 0 0, .slice none 0 0]) ?_ 2 _ rfl; (with_reducible repeat (first | refine blk_drew ?_ | refine blk_alloc ?_ _)); refine blk_put (cs := #[.int .i64 0, .int .i64 0, .bool false, .slice none 0 0, .slice none 0 0]) ?_ 1 _ rfl; (with_reducible repeat (first | refine blk_drew ?_ | refine blk_alloc ?_ _)); refine blk_put (cs := #[.int .i64 0, .int .i64 0, .bool false, .slice none 0 0, .slice none 0 0]) ?_ 0 _ rfl; (with_reducible repeat (first | refine blk_drew ?_ | refine blk_alloc ?_ _)); exact BK223.out) Tryd.underlying29 rfl (by kernel_rfl)) rfl ?_
            exact ⟨_, _, by first | rfl | (simp <;> rfl) | (simp [*] <;> rfl), by first | exact Kd.R_nil _ _ _ _ _, by first | exact Kd.R_nil _ _ _ _ _, by repeat (first | (with_reducible first | exact HB.out | apply below_alloc | apply pw_below_drewN | apply below_drew1 | refine below_set ?_ GE223.out | refine below_set ?_ GE227.out) | exact HB.out)⟩
           ·replace c22 := Bool.eq_false_iff.mpr c22
            subst c22
            have H1 : (spec_Read.l0 kj17 l0 1 (wrap64 ((rd l0 0) / 64)) 0 ((Go.bits .and .u8 (rd l0 0) 32) != 0)) = some (r1, r2, r3, r4, r5, r6, r7) := by rw [if_neg (show ¬ (false = true) by decide)] at H; exact H
            clear H
            have H := H1
            clear H1
            have H' := Aside0.mk H
            clear H
            go_wp2
            go_loopg [6] kj17 (fun kq v6 w' => ∃ (x6_2 : Int) (x224000_2 : Int) (x224001_2 : Int) (x224002_2 : Bool) (x228001_2 : Int), v6 = .int .i64 x6_2 ∧ Aside0 (spec_Read.l0 kq l0 x6_2 (wrap64 ((rd l0 0) / 64)) x228001_2 ((Go.bits .and .u8 (rd l0 0) 32) != 0) = some (r1, r2, r3, r4, r5, r6, r7)) ∧ Aside0 (kq ≤ kj17) ∧ Aside0 (Kd.V (Kd.int .u8) 5 w' w.heap.size (fun k_ => (P0_ k_ ∨ w.heap.size ≤ k_) ∧ k_ ≠ gb223 ∧ k_ ≠ gb227) (.slice (some ad224) l0.length c0) l0) ∧ Aside0 (w'.heap[gb223]? = some (.cells #[.int .i64 x224000_2, .int .i64 x224001_2, .bool x224002_2, (.slice none 0 0), (.slice none 0 0)] 29 (0, 0))) ∧ Aside0 (w'.heap[gb227]? = some (.cells #[.int .i64 (wrap64 ((rd l0 0) / 64)), .int .i64 x228001_2, .bool ((Go.bits .and .u8 (rd l0 0) 32) != 0), (.slice none 0 0), (.slice none 0 0)] 29 (0, 0))) ∧ Aside0 (Below w.heap.size w w'))
            case atStart => exact ⟨(1), (0), (0), (false), (0), (by first | rfl | (simp; done) | (simp [*]; done)), H', ⟨Nat.le_refl _⟩, ⟨by (with_reducible repeat (first | apply Kd.V_drew)); exact HO_0.out⟩, ⟨by (with_reducible repeat (first | refine blk_drew ?_ | refine blk_alloc ?_ _)); exact BK223.out⟩, ⟨by (with_reducible repeat (first | refine blk_drew ?_ | refine blk_alloc ?_ _)); exact BK227.out⟩, ⟨by repeat (first | (with_reducible first | exact HB.out | apply below_alloc | apply pw_below_drewN | apply below_drew1 | refine below_set ?_ GE223.out | refine below_set ?_ GE227.out) | exact HB.out)⟩⟩
            case round =>
              clear H'
              try clear c1
              try clear c2
              try clear c2b0
              try clear c2b1
              try clear p2
              try clear q2
              try clear hx2
              try clear qi2
              try clear c5
              try clear c5b0
              try clear c5b1
              try clear p6
              try clear c15
              try clear c17
              try clear c17b0
              try clear c17b1
              try clear c19
              try clear c21
              try clear c21b0
              try clear c21b1
              try clear c22
              try clear p22
              try clear q22
              try clear hx22
              try clear qi22
              try clear c23
              try clear hcz16_0
              try clear hcz16_1
              try clear hcz16_2
              try clear hcz16_3
              try clear hcz16_4
              try clear hcz20_0
              try clear hcz20_1
              try clear hcz20_2
              try clear hcz20_3
              try clear hcz20_4
              try clear hcz24_0
              try clear hcz24_1
              try clear hcz24_2
              try clear hcz24_3
              try clear hcz24_4
              try clear hcz4_0
              try clear hcz4_1
              try clear hcz4_2
              try clear hcz4_3
              try clear hcz4_4
              try clear hfz16_0
              try clear hfz16_1
              try clear hfz16_2
              try clear hfz16_3
              try clear hfz16_4
              try clear hfz20_0
              try clear hfz20_1
              try clear hfz20_2
              try clear hfz20_3
              try clear hfz20_4
              try clear hfz24_0
              try clear hfz24_1
              try clear hfz24_2
              try clear hfz24_3
              try clear hfz24_4
              try clear hfz4_0
              try clear hfz4_1
              try clear hfz4_2
              try clear hfz4_3
              try clear hfz4_4
              try clear hx224_0
              try clear hx225_0
              try clear hx226_0
              try clear hx228_0
              try clear p2
              try clear p224
              try clear p225
              try clear p226
              try clear p228
              try clear p6
              try clear q2
              try clear q224
              try clear q225
              try clear q226
              try clear q228
              obtain ⟨x6_2, x224000_2, x224001_2, x224002_2, x228001_2, rfl, HA, HK2, HO_0, BK223, BK227, HB⟩ := hrel
              cases gk with
              | zero => exact absurd HA.out (by simp [spec_Read.l0])
              | succ k2 =>
                have H := HA.out
                clear HA
                simp only [spec_Read.l0] at H
                have HC25 := Aside0.mk H
                clear H
                go_upto_region 9 with (fail)
                go_cut [60] (fun v60 wc => ∃ (kq : Nat) (x60_24 : Bool), v60 = .bool x60_24 ∧ Aside0 (spec_Read.j2 kq l0 x6_2 x60_24 (wrap64 ((rd l0 0) / 64)) x228001_2 ((Go.bits .and .u8 (rd l0 0) 32) != 0) = some (r1, r2, r3, r4, r5, r6, r7)) ∧ Aside0 (kq ≤ k2) ∧ Aside0 (Kd.V (Kd.int .u8) 5 wc w.heap.size (fun k_ => (P0_ k_ ∨ w.heap.size ≤ k_) ∧ k_ ≠ gb223 ∧ k_ ≠ gb227) (.slice (some ad224) l0.length c0) l0) ∧ Aside0 (wc.heap[gb223]? = some (.cells #[.int .i64 x224000_2, .int .i64 x224001_2, .bool x224002_2, (.slice none 0 0), (.slice none 0 0)] 29 (0, 0))) ∧ Aside0 (wc.heap[gb227]? = some (.cells #[.int .i64 (wrap64 ((rd l0 0) / 64)), .int .i64 x228001_2, .bool ((Go.bits .and .u8 (rd l0 0) 32) != 0), (.slice none 0 0), (.slice none 0 0)] 29 (0, 0))) ∧ Aside0 (Below w.heap.size w wc))
                case first =>
                  have H := HC25.out
                  clear HC25
                  by_cases c26 : x6_2 ≥ (l0.length : Int)
                  ·rw [if_pos c26] at H
                   have c26b0 : decide ((l0.length : Int) ≤ x6_2) = true := decide_eq_true c26
                   clear c26
                   (first | rw [c26b0] | (simp only [i64_w, i32_w]; rw [c26b0]) | skip)
                   have H' := Aside0.mk H
                   clear H
                   go_wp2
                   go_meet
                   case rel => exact ⟨_, (true), (by first | rfl | (simp; done) | (simp [*]; done)), H', ⟨by have := HJ17.out; have := HK2.out; first | omega | exact Nat.le_refl _⟩, ⟨by (with_reducible repeat (first | apply Kd.V_drew)); exact HO_0.out⟩, ⟨by (with_reducible repeat (first | refine blk_drew ?_ | refine blk_alloc ?_ _)); exact BK223.out⟩, ⟨by (with_reducible repeat (first | refine blk_drew ?_ | refine blk_alloc ?_ _)); exact BK227.out⟩, ⟨by repeat (first | (with_reducible first | exact HB.out | apply below_alloc | apply pw_below_drewN | apply below_drew1 | refine below_set ?_ GE223.out | refine below_set ?_ GE227.out) | exact HB.out)⟩⟩
                  ·rw [if_neg c26] at H
                   have c26b0 : decide ((l0.length : Int) ≤ x6_2) = false := decide_eq_false c26
                   clear c26
                   (first | rw [c26b0] | (simp only [i64_w, i32_w]; rw [c26b0]) | skip)
                   have H' := Aside0.mk H
                   clear H
                   have hnb27 := NB227_223.out
                   have hnc27 := NB223_227.out
                   have hcz28_0 : wr.cell? ⟨gb227, 0, none⟩ = some (.int .i64 (wrap64 ((rd l0 0) / 64))) := (blk_cell BK227.out 0).trans rfl
                   have hcz28_1 : wr.cell? ⟨gb227, 1, none⟩ = some (.int .i64 x228001_2) := (blk_cell BK227.out 1).trans rfl
                   have hcz28_2 : wr.cell? ⟨gb227, 2, none⟩ = some (.bool ((Go.bits .and .u8 (rd l0 0) 32) != 0)) := (blk_cell BK227.out 2).trans rfl
                   have hcz28_3 : wr.cell? ⟨gb227, 3, none⟩ = some (.slice none 0 0) := (blk_cell BK227.out 3).trans rfl
                   have hcz28_4 : wr.cell? ⟨gb227, 4, none⟩ = some (.slice none 0 0) := (blk_cell BK227.out 4).trans rfl
                   have hfz28_0 := blk_frozen BK227.out 0
                   have hfz28_1 := blk_frozen BK227.out 1
                   have hfz28_2 := blk_frozen BK227.out 2
                   have hfz28_3 := blk_frozen BK227.out 3
                   have hfz28_4 := blk_frozen BK227.out 4
                   go_wp2
                   go_meet
                   case rel => exact ⟨_, (decide (x228001_2 ≥ 2097152)), (by first | rfl | (simp; done) | (simp [*]; done)), H', ⟨by have := HJ17.out; have := HK2.out; first | omega | exact Nat.le_refl _⟩, ⟨by (with_reducible repeat (first | apply Kd.V_drew)); exact HO_0.out⟩, ⟨by (with_reducible repeat (first | refine blk_drew ?_ | refine blk_alloc ?_ _)); exact BK223.out⟩, ⟨by (with_reducible repeat (first | refine blk_drew ?_ | refine blk_alloc ?_ _)); exact BK227.out⟩, ⟨by repeat (first | (with_reducible first | exact HB.out | apply below_alloc | apply pw_below_drewN | apply below_drew1 | refine below_set ?_ GE223.out | refine below_set ?_ GE227.out) | exact HB.out)⟩⟩
                case rest =>
                  clear HC25
                  try clear c1
                  try clear c2
                  try clear c2b0
                  try clear c2b1
                  try clear p2
                  try clear q2
                  try clear hx2
                  try clear qi2
                  try clear c5
                  try clear c5b0
                  try clear c5b1
                  try clear p6
                  try clear c15
                  try clear c17
                  try clear c17b0
                  try clear c17b1
                  try clear c19
                  try clear c21
                  try clear c21b0
                  try clear c21b1
                  try clear c22
                  try clear p22
                  try clear q22
                  try clear hx22
                  try clear qi22
                  try clear c23
                  try clear c26
                  try clear c26b0
                  try clear c27
                  try clear hcz16_0
                  try clear hcz16_1
                  try clear hcz16_2
                  try clear hcz16_3
                  try clear hcz16_4
                  try clear hcz20_0
                  try clear hcz20_1
                  try clear hcz20_2
                  try clear hcz20_3
                  try clear hcz20_4
                  try clear hcz24_0
                  try clear hcz24_1
                  try clear hcz24_2
                  try clear hcz24_3
                  try clear hcz24_4
                  try clear hcz28_0
                  try clear hcz28_1
                  try clear hcz28_2
                  try clear hcz28_3
                  try clear hcz28_4
                  try clear hcz4_0
                  try clear hcz4_1
                  try clear hcz4_2
                  try clear hcz4_3
                  try clear hcz4_4
                  try clear hfz16_0
                  try clear hfz16_1
                  try clear hfz16_2
                  try clear hfz16_3
                  try clear hfz16_4
                  try clear hfz20_0
                  try clear hfz20_1
                  try clear hfz20_2
                  try clear hfz20_3
                  try clear hfz20_4
                  try clear hfz24_0
                  try clear hfz24_1
                  try clear hfz24_2
                  try clear hfz24_3
                  try clear hfz24_4
                  try clear hfz28_0
                  try clear hfz28_1
                  try clear hfz28_2
                  try clear hfz28_3
                  try clear hfz28_4
                  try clear hfz4_0
                  try clear hfz4_1
                  try clear hfz4_2
                  try clear hfz4_3
                  try clear hfz4_4
                  try clear hx224_0
                  try clear hx225_0
                  try clear hx226_0
                  try clear hx228_0
                  try clear p2
                  try clear p22
                  try clear p224
                  try clear p225
                  try clear p226
                  try clear p228
                  try clear p6
                  try clear q2
                  try clear q22
                  try clear q224
                  try clear q225
                  try clear q226
                  try clear q228
                  obtain ⟨kq, x60_24, rfl, HA, HJ24, HO_0, BK223, BK227, HB⟩ := hcut
                  cases kq with
                  | zero => exact absurd HA.out (by simp [spec_Read.j2])
                  | succ kj24 =>
                    have H := HA.out
                    clear HA
                    simp only [spec_Read.j2] at H
                    by_cases c29 : x60_24 = true
                    ·subst c29
                     have H1 : (some (0, 0, false, ([] : List Int), ([] : List (S29)), 0, false)) = some (r1, r2, r3, r4, r5, r6, r7) := by rw [if_pos rfl] at H; exact H
                     clear H
                     have H := H1
                     clear H1
                     simp only [Option.some.injEq, Prod.mk.injEq] at H
                     obtain ⟨rfl, rfl, rfl, rfl, rfl, rfl, rfl⟩ := H
                     have hnb30 := NB223_227.out
                     have hnc30 := NB227_223.out
                     have hcz31_0 : wc.cell? ⟨gb223, 0, none⟩ = some (.int .i64 x224000_2) := (blk_cell BK223.out 0).trans rfl
                     have hcz31_1 : wc.cell? ⟨gb223, 1, none⟩ = some (.int .i64 x224001_2) := (blk_cell BK223.out 1).trans rfl
                     have hcz31_2 : wc.cell? ⟨gb223, 2, none⟩ = some (.bool x224002_2) := (blk_cell BK223.out 2).trans rfl
                     have hcz31_3 : wc.cell? ⟨gb223, 3, none⟩ = some (.slice none 0 0) := (blk_cell BK223.out 3).trans rfl
                     have hcz31_4 : wc.cell? ⟨gb223, 4, none⟩ = some (.slice none 0 0) := (blk_cell BK223.out 4).trans rfl
                     have hfz31_0 := blk_frozen BK223.out 0
                     have hfz31_1 := blk_frozen BK223.out 1
                     have hfz31_2 := blk_frozen BK223.out 2
                     have hfz31_3 := blk_frozen BK223.out 3
                     have hfz31_4 := blk_frozen BK223.out 4
                     go_wp2
                     refine bodyPost_ret (results_ctt rfl _ _ gb223 29 #[.int .i64 0, .int .i64 0, .bool false, .slice none 0 0, .slice none 0 0] (0, 0) _ rfl (by (with_reducible repeat (first | refine blk_drew ?_ | refine blk_alloc ?_ _)); refine blk_put (cs := #[.int .i64 0, .int .i64 0, .bool false, .slice none 0 0, .slice none 0 0]) ?_ 4 _ rfl; (with_reducible repeat (first | refine blk_drew ?_ | refine blk_alloc ?_ _)); refine blk_put (cs := #[.int .i64 0, .int .i64 0, .bool false, .slice none 0 0, .slice none 0 0]) ?_ 3 _ rfl; (with_reducible repeat (first | refine blk_drew ?_ | refine blk_alloc ?_ _)); refine blk_put (cs := #[.int .i64 0, .int .i64 0, .bool x224002_2, .slice none 0 0, .slice none 0 0]) ?_ 2 _ rfl; (with_reducible repeat (first | refine blk_drew ?_ | refine blk_alloc ?_ _)); refine blk_put (cs := #[.int .i64 0, .int .i64 x224001_2, .bool x224002_2, .slice none 0 0, .slice none 0 0]) ?_ 1 _ rfl; (with_reducible repeat (first | refine blk_drew ?_ | refine blk_alloc ?_ _)); refine blk_put (cs := #[.int .i64 x224000_2, .int .i64 x224001_2, .bool x224002_2, .slice none 0 0, .slice none 0 0]) ?_ 0 _ rfl; (with_reducible repeat (first | refine blk_drew ?_ | refine blk_alloc ?_ _)); exact BK223.out) Tryd.underlying29 rfl (by kernel_rfl)) rfl ?_
                     exact ⟨_, _, by first | rfl | (simp <;> rfl) | (simp [*] <;> rfl), by first | exact Kd.R_nil _ _ _ _ _, by first | exact Kd.R_nil _ _ _ _ _, by repeat (first | (with_reducible first | exact HB.out | apply below_alloc | apply pw_below_drewN | apply below_drew1 | refine below_set ?_ GE223.out | refine below_set ?_ GE227.out) | exact HB.out)⟩
                    ·replace c29 := Bool.eq_false_iff.mpr c29
                     subst c29
                     have H1 : (if 0 ≤ x6_2 then (if x6_2 < (l0.length : Int) then (if 0 ≤ (wrap64 ((wrap64 (x6_2 + 1)) - 1)) then (if (wrap64 ((wrap64 (x6_2 + 1)) - 1)) < (l0.length : Int) then (if (Go.bits .and .u8 (rd l0 (wrap64 ((wrap64 (x6_2 + 1)) - 1))) 128) = 0 then (spec_Read.j3 kj24 l0 (wrap64 (x6_2 + 1)) (wrap64 ((rd l0 0) / 64)) (Go.bits .or .i64 (wrap64 (x228001_2 * 128)) (wrap64 (Go.bits .and .u8 (rd l0 x6_2) 127))) ((Go.bits .and .u8 (rd l0 0) 32) != 0)) else (spec_Read.l0 kj24 l0 (wrap64 (x6_2 + 1)) (wrap64 ((rd l0 0) / 64)) (Go.bits .or .i64 (wrap64 (x228001_2 * 128)) (wrap64 (Go.bits .and .u8 (rd l0 x6_2) 127))) ((Go.bits .and .u8 (rd l0 0) 32) != 0))) else (none)) else (none)) else (none)) else (none)) = some (r1, r2, r3, r4, r5, r6, r7) := by rw [if_neg (show ¬ (false = true) by decide)] at H; exact H
                     clear H
                     have H := H1
                     clear H1
                     by_cases c32 : 0 ≤ x6_2
                     ·rw [if_pos c32] at H
                      have c32b0 : decide (0 ≤ x6_2) = true := decide_eq_true c32
                      clear c32
                      by_cases c33 : x6_2 < (l0.length : Int)
                      ·rw [if_pos c33] at H
                       have c33b0 : decide (x6_2 < (l0.length : Int)) = true := decide_eq_true c33
                       clear c33
                       obtain ⟨ji34, hji34⟩ : ∃ j_ : Int, (wrap64 ((wrap64 (x6_2 + 1)) - 1)) = j_ := ⟨_, rfl⟩
                       replace H : (if 0 ≤ (ji34) then (if (ji34) < (l0.length : Int) then (if (Go.bits .and .u8 (rd l0 (ji34)) 128) = 0 then (spec_Read.j3 kj24 l0 (wrap64 (x6_2 + 1)) (wrap64 ((rd l0 0) / 64)) (Go.bits .or .i64 (wrap64 (x228001_2 * 128)) (wrap64 (Go.bits .and .u8 (rd l0 x6_2) 127))) ((Go.bits .and .u8 (rd l0 0) 32) != 0)) else (spec_Read.l0 kj24 l0 (wrap64 (x6_2 + 1)) (wrap64 ((rd l0 0) / 64)) (Go.bits .or .i64 (wrap64 (x228001_2 * 128)) (wrap64 (Go.bits .and .u8 (rd l0 x6_2) 127))) ((Go.bits .and .u8 (rd l0 0) 32) != 0))) else (none)) else (none)) = some (r1, r2, r3, r4, r5, r6, r7) := by first | (rw [hji34] at H; exact H) | (simp only [hji34] at H ⊢; exact H)
                       have hji34w : (IntKind.i64.wrap ((wrap64 (x6_2 + 1)) - 1)) = ji34 := (i64_w _).trans hji34
                       by_cases c35 : 0 ≤ (ji34)
                       ·rw [if_pos c35] at H
                        have c35b0 : decide (0 ≤ (ji34)) = true := decide_eq_true c35
                        clear c35
                        by_cases c36 : (ji34) < (l0.length : Int)
                        ·rw [if_pos c36] at H
                         have c36b0 : decide ((ji34) < (l0.length : Int)) = true := decide_eq_true c36
                         clear c36
                         by_cases c37 : (Go.bits .and .u8 (rd l0 (ji34)) 128) = 0
                         ·rw [if_pos c37] at H
                          have c37b0 : ((Go.bits .and .u8 (rd l0 (ji34)) 128) == 0) = true := beq_iff_eq.mpr c37
                          have c37b1 : ((Go.bits .and .u8 (rd l0 (ji34)) 128) != 0) = false := bne_eq_false_iff_eq.mpr c37
                          clear c37
                          have H' := Aside0.mk H
                          clear H
                          try go_wp2
                          have n0_ := Aside0.mk (Kd.V_drew HO_0.out)
                          have n1_ := Aside0.mk (blk_drew BK223.out)
                          have n2_ := Aside0.mk (blk_drew BK227.out)
                          have n3_ := Aside0.mk (below_drew1 HB.out)
                          clear HO_0
                          clear BK223
                          clear BK227
                          clear HB
                          have HO_0 := n0_
                          have BK223 := n1_
                          have BK227 := n2_
                          have HB := n3_
                          clear n0_ n1_ n2_ n3_
                          have p229 : 0 ≤ (x6_2 : Int) := of_decide_eq_true (by first | (with_reducible assumption) | assumption)
                          have q229 : x6_2 < (l0.length : Int) := of_decide_eq_true (by first | (with_reducible assumption) | assumption)
                          obtain ⟨ad229, e229, hx229_0⟩ := Kd.at_int (Kd.V_reads' HO_0.out).2.2 x6_2 p229 q229
                          obtain rfl : ad224 = ad229 := (by injection e229)
                          replace p229 := eq_true p229
                          replace q229 := eq_true q229
                          refine start_ (n := 12) (S := fun w' => w'.cell? ⟨gb227, 0, none⟩ = some (.int .i64 (wrap64 ((rd l0 0) / 64))) ∧ w'.cell? ⟨gb227, 1, none⟩ = some (.int .i64 x228001_2) ∧ w'.cell? ⟨gb227, 2, none⟩ = some (.bool ((Go.bits .and .u8 (rd l0 0) 32) != 0)) ∧ w'.cell? ⟨gb227, 3, none⟩ = some (.slice none 0 0) ∧ w'.cell? ⟨gb227, 4, none⟩ = some (.slice none 0 0) ∧ w'.cell? (ad224.add (x6_2).toNat) = some (.int .u8 (rd l0 x6_2))) (ds := [11]) #[nN,nN,nN,nN,nN,nN,nN,nN,nN,nN,nN,nN] (by kernel_rfl) rfl rfl ⟨(blk_cell BK227.out 0).trans rfl, (blk_cell BK227.out 1).trans rfl, (blk_cell BK227.out 2).trans rfl, (blk_cell BK227.out 3).trans rfl, (blk_cell BK227.out 4).trans rfl, hx229_0⟩ (fun hHeld => ?_); refine with_tabW spec_Read.tab11 spec_Read.bits11 (fun HT_ HW_ => ?_)
                          generalize wc.drew = w38 at HO_0 BK223 BK227 HB hx229_0 hHeld ⊢
                          refine pure_ (i := 0) (N := some 62) (v := ?_) (a' := ?_) #[yY,nN,nN,nN,nN,nN,nN,nN,nN,nN,nN,nN] rfl rfl (any_of HT_.out (by kernel_rfl)) (fun _ _ _ h => h) (Or.inl ⟨by rfl, ?_⟩) ?_ ?_
                          rotate_left
                          ·intro w'
                           go_simp
                           with_reducible rfl
                          rotate_left
                          ·simp only [Act.put, List.setIfInBounds_toArray, List.set_cons_zero, List.set_cons_succ, i64_w, i32_w]
                           rfl
                          refine pure_ (i := 3) (N := some 65) (v := ?_) (a' := ?_) #[yY,nN,nN,yY,nN,nN,nN,nN,nN,nN,nN,nN] rfl rfl (any_of HT_.out (by kernel_rfl)) (fun _ _ _ h => h) (Or.inl ⟨by rfl, ?_⟩) ?_ ?_
                          rotate_left
                          ·intro w'
                           go_simp
                           with_reducible rfl
                          rotate_left
                          ·simp only [Act.put, List.setIfInBounds_toArray, List.set_cons_zero, List.set_cons_succ, i64_w, i32_w]
                           rfl
                          refine pure_ (i := 4) (N := some 66) (v := ?_) (a' := ?_) #[yY,nN,nN,yY,yY,nN,nN,nN,nN,nN,nN,nN] rfl rfl (any_of HT_.out (by kernel_rfl)) (fun _ _ _ h => h) (Or.inl ⟨by rfl, ?_⟩) ?_ ?_
                          rotate_left
                          ·intro w'
                           go_simp
                           with_reducible rfl
                          rotate_left
                          ·simp only [Act.put, List.setIfInBounds_toArray, List.set_cons_zero, List.set_cons_succ, i64_w, i32_w]
                           rfl
                          refine pure_ (i := 5) (N := some 67) (v := ?_) (a' := ?_) #[yY,nN,nN,yY,yY,yY,nN,nN,nN,nN,nN,nN] rfl rfl (any_of HT_.out (by kernel_rfl)) (fun _ _ _ h => h) (Or.inl ⟨by rfl, ?_⟩) ?_ ?_
                          rotate_left
                          ·intro w'
                           go_simp
                           with_reducible rfl
                          rotate_left
                          ·simp only [Act.put, List.setIfInBounds_toArray, List.set_cons_zero, List.set_cons_succ, i64_w, i32_w]
                           rfl
                          refine take_ (i := 1) (N := some 63) (v := ?_) (a' := ?_) #[yY,yY,nN,yY,yY,yY,nN,nN,nN,nN,nN,nN] rfl rfl (take_ofW HT_.out HW_.out (by kernel_rfl)) (fun _ _ _ h => h) (Or.inl ⟨by rfl, ?_⟩) hHeld ?_ ?_
                          rotate_left
                          ·rintro w' ⟨s0, s1, s2, s3, s4, s5⟩
                           go_simp
                           with_reducible rfl
                          rotate_left
                          ·simp only [Act.put, List.setIfInBounds_toArray, List.set_cons_zero, List.set_cons_succ, i64_w, i32_w]
                           rfl
                          refine pure_ (i := 2) (N := some 64) (v := ?_) (a' := ?_) #[yY,yY,yY,yY,yY,yY,nN,nN,nN,nN,nN,nN] rfl rfl (any_of HT_.out (by kernel_rfl)) (fun _ _ _ h => h) (Or.inl ⟨by rfl, ?_⟩) ?_ ?_
                          rotate_left
                          ·intro w'
                           go_simp
                           with_reducible rfl
                          rotate_left
                          ·simp only [Act.put, List.setIfInBounds_toArray, List.set_cons_zero, List.set_cons_succ, i64_w, i32_w]
                           rfl
                          refine take_ (i := 6) (N := some 68) (v := ?_) (a' := ?_) #[yY,yY,yY,yY,yY,yY,yY,nN,nN,nN,nN,nN] rfl rfl (take_ofW HT_.out HW_.out (by kernel_rfl)) (fun _ _ _ h => h) (Or.inl ⟨by rfl, ?_⟩) hHeld ?_ ?_
                          rotate_left
                          ·rintro w' ⟨s0, s1, s2, s3, s4, s5⟩
                           go_simp
                           with_reducible rfl
                          rotate_left
                          ·simp only [Act.put, List.setIfInBounds_toArray, List.set_cons_zero, List.set_cons_succ, i64_w, i32_w]
                           rfl
                          refine pure_ (i := 7) (N := some 69) (v := ?_) (a' := ?_) #[yY,yY,yY,yY,yY,yY,yY,yY,nN,nN,nN,nN] rfl rfl (any_of HT_.out (by kernel_rfl)) (fun _ _ _ h => h) (Or.inl ⟨by rfl, ?_⟩) ?_ ?_
                          rotate_left
                          ·intro w'
                           go_simp
                           with_reducible rfl
                          rotate_left
                          ·simp only [Act.put, List.setIfInBounds_toArray, List.set_cons_zero, List.set_cons_succ, i64_w, i32_w]
                           rfl
                          refine pure_ (i := 8) (N := some 70) (v := ?_) (a' := ?_) #[yY,yY,yY,yY,yY,yY,yY,yY,yY,nN,nN,nN] rfl rfl (any_of HT_.out (by kernel_rfl)) (fun _ _ _ h => h) (Or.inl ⟨by rfl, ?_⟩) ?_ ?_
                          rotate_left
                          ·intro w'
                           go_simp
                           with_reducible rfl
                          rotate_left
                          ·simp only [Act.put, List.setIfInBounds_toArray, List.set_cons_zero, List.set_cons_succ, i64_w, i32_w]
                           rfl
                          refine pure_ (i := 9) (N := some 71) (v := ?_) (a' := ?_) #[yY,yY,yY,yY,yY,yY,yY,yY,yY,yY,nN,nN] rfl rfl (any_of HT_.out (by kernel_rfl)) (fun _ _ _ h => h) (Or.inl ⟨by rfl, ?_⟩) ?_ ?_
                          rotate_left
                          ·intro w'
                           go_simp
                           with_reducible rfl
                          rotate_left
                          ·simp only [Act.put, List.setIfInBounds_toArray, List.set_cons_zero, List.set_cons_succ, i64_w, i32_w]
                           rfl
                          refine pure_ (i := 10) (N := some 72) (v := ?_) (a' := ?_) #[yY,yY,yY,yY,yY,yY,yY,yY,yY,yY,yY,nN] rfl rfl (any_of HT_.out (by kernel_rfl)) (fun _ _ _ h => h) (Or.inl ⟨by rfl, ?_⟩) ?_ ?_
                          rotate_left
                          ·intro w'
                           go_simp
                           with_reducible rfl
                          rotate_left
                          ·simp only [Act.put, List.setIfInBounds_toArray, List.set_cons_zero, List.set_cons_succ, i64_w, i32_w]
                           rfl
                          refine last_ (i := 11) (N := none) #[yY,yY,yY,yY,yY,yY,yY,yY,yY,yY,yY,yY] rfl rfl (one_of HT_.out (by kernel_rfl)) (by decide) (fun K hK => ?_)
                          have hs39 : w38.cell? ⟨gb227, 1, none⟩ = some (.int .i64 x228001_2) := (blk_cell BK227.out 1).trans rfl
                          have hfs39 := blk_frozen BK227.out 1
                          have hns39_0 := NB223_227.out
                          have hms39_0 := NB227_223.out
                          refine skip_ (w1 := ?_) (by rfl) rfl ?_ ?_
                          rotate_left
                          ·go_simp
                           rfl
                          refine hK.out _ _ ?_
                          clear hK K
                          refine done_ (done_of HT_.out (by kernel_rfl)) ?_
                          have p230 : 0 ≤ ((ji34) : Int) := of_decide_eq_true (by first | (with_reducible assumption) | assumption)
                          have q230 : (ji34) < (l0.length : Int) := of_decide_eq_true (by first | (with_reducible assumption) | assumption)
                          obtain ⟨ad230, e230, hx230_0⟩ := Kd.at_int (Kd.V_reads' HO_0.out).2.2 (ji34) p230 q230
                          obtain rfl : ad224 = ad230 := (by injection e230)
                          have hn230_0 : ad224.block ≠ gb227 := V_ne HO_0.out (fun _ hk => (by first | exact hk.2 | exact hk.2.2 | exact hk.2.1 | exact hk.1.2)) (of_decide_eq_true (p := 0 < l0.length) (by first | assumption | exact decide_eq_true (by omega))) (by decide)
                          replace hx230_0 := (cell_far (p := ⟨gb227, 1, none⟩) (by first | (rw [add_block]; exact hn230_0) | (show (Addr.add _ _).block ≠ _; rw [add_block]; exact hn230_0) | exact hn230_0) (.int .i64 (Go.bits .or .i64 (wrap64 (x228001_2 * 128)) (wrap64 (Go.bits .and .u8 (rd l0 x6_2) 127))))).trans hx230_0
                          clear hn230_0
                          replace p230 := eq_true p230
                          replace q230 := eq_true q230
                          try go_wp2
                          go_meet
                          case rel => exact ⟨_, (wrap64 (x6_2 + 1)), (x224000_2), (x224001_2), (x224002_2), (Go.bits .or .i64 (wrap64 (x228001_2 * 128)) (wrap64 (Go.bits .and .u8 (rd l0 x6_2) 127))), (by first | rfl | (simp; done) | (simp [*]; done)), H', ⟨by have := HJ17.out; have := HK2.out; have := HJ24.out; first | omega | exact Nat.le_refl _⟩, ⟨by (with_reducible repeat (first | apply Kd.V_drew)); exact Kd.V_mono (Kd.V_far (p := ⟨gb227, 1, none⟩) (Kd.V_mono HO_0.out (fun k_ hk => (⟨hk, hk.2.2⟩ : _ ∧ k_ ≠ gb227))) (fun _ hk => hk.2) (.int .i64 (Go.bits .or .i64 (wrap64 (x228001_2 * 128)) (wrap64 (Go.bits .and .u8 (rd l0 x6_2) 127))))) (fun _ hk => ⟨hk.1.1, ⟨hk.1.2.1, hk.1.2.2⟩⟩)⟩, ⟨by (with_reducible repeat (first | refine blk_drew ?_ | refine blk_alloc ?_ _)); refine blk_far ?_ NB223_227.out _; (with_reducible repeat (first | refine blk_drew ?_ | refine blk_alloc ?_ _)); exact BK223.out⟩, ⟨by (with_reducible repeat (first | refine blk_drew ?_ | refine blk_alloc ?_ _)); refine blk_put (cs := #[.int .i64 (wrap64 ((rd l0 0) / 64)), .int .i64 x228001_2, .bool ((Go.bits .and .u8 (rd l0 0) 32) != 0), .slice none 0 0, .slice none 0 0]) ?_ 1 _ rfl; (with_reducible repeat (first | refine blk_drew ?_ | refine blk_alloc ?_ _)); exact BK227.out⟩, ⟨by repeat (first | (with_reducible first | exact HB.out | apply below_alloc | apply pw_below_drewN | apply below_drew1 | refine below_set ?_ GE223.out | refine below_set ?_ GE227.out) | exact HB.out)⟩⟩
                         ·rw [if_neg c37] at H
                          have c37b0 : ((Go.bits .and .u8 (rd l0 (ji34)) 128) == 0) = false := beq_eq_false_iff_ne.mpr c37
                          have c37b1 : ((Go.bits .and .u8 (rd l0 (ji34)) 128) != 0) = true := bne_iff_ne.mpr c37
                          have H' := Aside0.mk H
                          clear H
                          try go_wp2
                          have n0_ := Aside0.mk (Kd.V_drew HO_0.out)
                          have n1_ := Aside0.mk (blk_drew BK223.out)
                          have n2_ := Aside0.mk (blk_drew BK227.out)
                          have n3_ := Aside0.mk (below_drew1 HB.out)
                          clear HO_0
                          clear BK223
                          clear BK227
                          clear HB
                          have HO_0 := n0_
                          have BK223 := n1_
                          have BK227 := n2_
                          have HB := n3_
                          clear n0_ n1_ n2_ n3_
                          have p229 : 0 ≤ (x6_2 : Int) := of_decide_eq_true (by first | (with_reducible assumption) | assumption)
                          have q229 : x6_2 < (l0.length : Int) := of_decide_eq_true (by first | (with_reducible assumption) | assumption)
                          obtain ⟨ad229, e229, hx229_0⟩ := Kd.at_int (Kd.V_reads' HO_0.out).2.2 x6_2 p229 q229
                          obtain rfl : ad224 = ad229 := (by injection e229)
                          replace p229 := eq_true p229
                          replace q229 := eq_true q229
                          refine start_ (n := 12) (S := fun w' => w'.cell? ⟨gb227, 0, none⟩ = some (.int .i64 (wrap64 ((rd l0 0) / 64))) ∧ w'.cell? ⟨gb227, 1, none⟩ = some (.int .i64 x228001_2) ∧ w'.cell? ⟨gb227, 2, none⟩ = some (.bool ((Go.bits .and .u8 (rd l0 0) 32) != 0)) ∧ w'.cell? ⟨gb227, 3, none⟩ = some (.slice none 0 0) ∧ w'.cell? ⟨gb227, 4, none⟩ = some (.slice none 0 0) ∧ w'.cell? (ad224.add (x6_2).toNat) = some (.int .u8 (rd l0 x6_2))) (ds := [11]) #[nN,nN,nN,nN,nN,nN,nN,nN,nN,nN,nN,nN] (by kernel_rfl) rfl rfl ⟨(blk_cell BK227.out 0).trans rfl, (blk_cell BK227.out 1).trans rfl, (blk_cell BK227.out 2).trans rfl, (blk_cell BK227.out 3).trans rfl, (blk_cell BK227.out 4).trans rfl, hx229_0⟩ (fun hHeld => ?_); refine with_tabW spec_Read.tab11 spec_Read.bits11 (fun HT_ HW_ => ?_)
                          generalize wc.drew = w40 at HO_0 BK223 BK227 HB hx229_0 hHeld ⊢
                          refine pure_ (i := 0) (N := some 62) (v := ?_) (a' := ?_) #[yY,nN,nN,nN,nN,nN,nN,nN,nN,nN,nN,nN] rfl rfl (any_of HT_.out (by kernel_rfl)) (fun _ _ _ h => h) (Or.inl ⟨by rfl, ?_⟩) ?_ ?_
                          rotate_left
                          ·intro w'
                           go_simp
                           with_reducible rfl
                          rotate_left
                          ·simp only [Act.put, List.setIfInBounds_toArray, List.set_cons_zero, List.set_cons_succ, i64_w, i32_w]
                           rfl
                          refine pure_ (i := 3) (N := some 65) (v := ?_) (a' := ?_) #[yY,nN,nN,yY,nN,nN,nN,nN,nN,nN,nN,nN] rfl rfl (any_of HT_.out (by kernel_rfl)) (fun _ _ _ h => h) (Or.inl ⟨by rfl, ?_⟩) ?_ ?_
                          rotate_left
                          ·intro w'
                           go_simp
                           with_reducible rfl
                          rotate_left
                          ·simp only [Act.put, List.setIfInBounds_toArray, List.set_cons_zero, List.set_cons_succ, i64_w, i32_w]
                           rfl
                          refine pure_ (i := 4) (N := some 66) (v := ?_) (a' := ?_) #[yY,nN,nN,yY,yY,nN,nN,nN,nN,nN,nN,nN] rfl rfl (any_of HT_.out (by kernel_rfl)) (fun _ _ _ h => h) (Or.inl ⟨by rfl, ?_⟩) ?_ ?_
                          rotate_left
                          ·intro w'
                           go_simp
                           with_reducible rfl
                          rotate_left
                          ·simp only [Act.put, List.setIfInBounds_toArray, List.set_cons_zero, List.set_cons_succ, i64_w, i32_w]
                           rfl
                          refine pure_ (i := 5) (N := some 67) (v := ?_) (a' := ?_) #[yY,nN,nN,yY,yY,yY,nN,nN,nN,nN,nN,nN] rfl rfl (any_of HT_.out (by kernel_rfl)) (fun _ _ _ h => h) (Or.inl ⟨by rfl, ?_⟩) ?_ ?_
                          rotate_left
                          ·intro w'
                           go_simp
                           with_reducible rfl
                          rotate_left
                          ·simp only [Act.put, List.setIfInBounds_toArray, List.set_cons_zero, List.set_cons_succ, i64_w, i32_w]
                           rfl
                          refine take_ (i := 1) (N := some 63) (v := ?_) (a' := ?_) #[yY,yY,nN,yY,yY,yY,nN,nN,nN,nN,nN,nN] rfl rfl (take_ofW HT_.out HW_.out (by kernel_rfl)) (fun _ _ _ h => h) (Or.inl ⟨by rfl, ?_⟩) hHeld ?_ ?_
                          rotate_left
                          ·rintro w' ⟨s0, s1, s2, s3, s4, s5⟩
                           go_simp
                           with_reducible rfl
                          rotate_left
                          ·simp only [Act.put, List.setIfInBounds_toArray, List.set_cons_zero, List.set_cons_succ, i64_w, i32_w]
                           rfl
                          refine pure_ (i := 2) (N := some 64) (v := ?_) (a' := ?_) #[yY,yY,yY,yY,yY,yY,nN,nN,nN,nN,nN,nN] rfl rfl (any_of HT_.out (by kernel_rfl)) (fun _ _ _ h => h) (Or.inl ⟨by rfl, ?_⟩) ?_ ?_
                          rotate_left
                          ·intro w'
                           go_simp
                           with_reducible rfl
                          rotate_left
                          ·simp only [Act.put, List.setIfInBounds_toArray, List.set_cons_zero, List.set_cons_succ, i64_w, i32_w]
                           rfl
                          refine take_ (i := 6) (N := some 68) (v := ?_) (a' := ?_) #[yY,yY,yY,yY,yY,yY,yY,nN,nN,nN,nN,nN] rfl rfl (take_ofW HT_.out HW_.out (by kernel_rfl)) (fun _ _ _ h => h) (Or.inl ⟨by rfl, ?_⟩) hHeld ?_ ?_
                          rotate_left
                          ·rintro w' ⟨s0, s1, s2, s3, s4, s5⟩
                           go_simp
                           with_reducible rfl
                          rotate_left
                          ·simp only [Act.put, List.setIfInBounds_toArray, List.set_cons_zero, List.set_cons_succ, i64_w, i32_w]
                           rfl
                          refine pure_ (i := 7) (N := some 69) (v := ?_) (a' := ?_) #[yY,yY,yY,yY,yY,yY,yY,yY,nN,nN,nN,nN] rfl rfl (any_of HT_.out (by kernel_rfl)) (fun _ _ _ h => h) (Or.inl ⟨by rfl, ?_⟩) ?_ ?_
                          rotate_left
                          ·intro w'
                           go_simp
                           with_reducible rfl
                          rotate_left
                          ·simp only [Act.put, List.setIfInBounds_toArray, List.set_cons_zero, List.set_cons_succ, i64_w, i32_w]
                           rfl
                          refine pure_ (i := 8) (N := some 70) (v := ?_) (a' := ?_) #[yY,yY,yY,yY,yY,yY,yY,yY,yY,nN,nN,nN] rfl rfl (any_of HT_.out (by kernel_rfl)) (fun _ _ _ h => h) (Or.inl ⟨by rfl, ?_⟩) ?_ ?_
                          rotate_left
                          ·intro w'
                           go_simp
                           with_reducible rfl
                          rotate_left
                          ·simp only [Act.put, List.setIfInBounds_toArray, List.set_cons_zero, List.set_cons_succ, i64_w, i32_w]
                           rfl
                          refine pure_ (i := 9) (N := some 71) (v := ?_) (a' := ?_) #[yY,yY,yY,yY,yY,yY,yY,yY,yY,yY,nN,nN] rfl rfl (any_of HT_.out (by kernel_rfl)) (fun _ _ _ h => h) (Or.inl ⟨by rfl, ?_⟩) ?_ ?_
                          rotate_left
                          ·intro w'
                           go_simp
                           with_reducible rfl
                          rotate_left
                          ·simp only [Act.put, List.setIfInBounds_toArray, List.set_cons_zero, List.set_cons_succ, i64_w, i32_w]
                           rfl
                          refine pure_ (i := 10) (N := some 72) (v := ?_) (a' := ?_) #[yY,yY,yY,yY,yY,yY,yY,yY,yY,yY,yY,nN] rfl rfl (any_of HT_.out (by kernel_rfl)) (fun _ _ _ h => h) (Or.inl ⟨by rfl, ?_⟩) ?_ ?_
                          rotate_left
                          ·intro w'
                           go_simp
                           with_reducible rfl
                          rotate_left
                          ·simp only [Act.put, List.setIfInBounds_toArray, List.set_cons_zero, List.set_cons_succ, i64_w, i32_w]
                           rfl
                          refine last_ (i := 11) (N := none) #[yY,yY,yY,yY,yY,yY,yY,yY,yY,yY,yY,yY] rfl rfl (one_of HT_.out (by kernel_rfl)) (by decide) (fun K hK => ?_)
                          have hs41 : w40.cell? ⟨gb227, 1, none⟩ = some (.int .i64 x228001_2) := (blk_cell BK227.out 1).trans rfl
                          have hfs41 := blk_frozen BK227.out 1
                          have hns41_0 := NB223_227.out
                          have hms41_0 := NB227_223.out
                          refine skip_ (w1 := ?_) (by rfl) rfl ?_ ?_
                          rotate_left
                          ·go_simp
                           rfl
                          refine hK.out _ _ ?_
                          clear hK K
                          refine done_ (done_of HT_.out (by kernel_rfl)) ?_
                          have p230 : 0 ≤ ((ji34) : Int) := of_decide_eq_true (by first | (with_reducible assumption) | assumption)
                          have q230 : (ji34) < (l0.length : Int) := of_decide_eq_true (by first | (with_reducible assumption) | assumption)
                          obtain ⟨ad230, e230, hx230_0⟩ := Kd.at_int (Kd.V_reads' HO_0.out).2.2 (ji34) p230 q230
                          obtain rfl : ad224 = ad230 := (by injection e230)
                          have hn230_0 : ad224.block ≠ gb227 := V_ne HO_0.out (fun _ hk => (by first | exact hk.2 | exact hk.2.2 | exact hk.2.1 | exact hk.1.2)) (of_decide_eq_true (p := 0 < l0.length) (by first | assumption | exact decide_eq_true (by omega))) (by decide)
                          replace hx230_0 := (cell_far (p := ⟨gb227, 1, none⟩) (by first | (rw [add_block]; exact hn230_0) | (show (Addr.add _ _).block ≠ _; rw [add_block]; exact hn230_0) | exact hn230_0) (.int .i64 (Go.bits .or .i64 (wrap64 (x228001_2 * 128)) (wrap64 (Go.bits .and .u8 (rd l0 x6_2) 127))))).trans hx230_0
                          clear hn230_0
                          replace p230 := eq_true p230
                          replace q230 := eq_true q230
                          try go_wp2
                          go_roundg kj24
                          case measure => have := HJ17.out; have := HK2.out; have := HJ24.out; omega
                          case rel => exact ⟨(wrap64 (x6_2 + 1)), (x224000_2), (x224001_2), (x224002_2), (Go.bits .or .i64 (wrap64 (x228001_2 * 128)) (wrap64 (Go.bits .and .u8 (rd l0 x6_2) 127))), (by first | rfl | (simp; done) | (simp [*]; done)), H', ⟨by have := HJ17.out; have := HK2.out; have := HJ24.out; omega⟩, ⟨by (with_reducible repeat (first | apply Kd.V_drew)); exact Kd.V_mono (Kd.V_far (p := ⟨gb227, 1, none⟩) (Kd.V_mono HO_0.out (fun k_ hk => (⟨hk, hk.2.2⟩ : _ ∧ k_ ≠ gb227))) (fun _ hk => hk.2) (.int .i64 (Go.bits .or .i64 (wrap64 (x228001_2 * 128)) (wrap64 (Go.bits .and .u8 (rd l0 x6_2) 127))))) (fun _ hk => ⟨hk.1.1, ⟨hk.1.2.1, hk.1.2.2⟩⟩)⟩, ⟨by (with_reducible repeat (first | refine blk_drew ?_ | refine blk_alloc ?_ _)); refine blk_far ?_ NB223_227.out _; (with_reducible repeat (first | refine blk_drew ?_ | refine blk_alloc ?_ _)); exact BK223.out⟩, ⟨by (with_reducible repeat (first | refine blk_drew ?_ | refine blk_alloc ?_ _)); refine blk_put (cs := #[.int .i64 (wrap64 ((rd l0 0) / 64)), .int .i64 x228001_2, .bool ((Go.bits .and .u8 (rd l0 0) 32) != 0), .slice none 0 0, .slice none 0 0]) ?_ 1 _ rfl; (with_reducible repeat (first | refine blk_drew ?_ | refine blk_alloc ?_ _)); exact BK227.out⟩, ⟨by repeat (first | (with_reducible first | exact HB.out | apply below_alloc | apply pw_below_drewN | apply below_drew1 | refine below_set ?_ GE223.out | refine below_set ?_ GE227.out) | exact HB.out)⟩⟩
                        ·rw [if_neg c36] at H
                         exact absurd H (by simp)
                       ·rw [if_neg c35] at H
                        exact absurd H (by simp)
                      ·rw [if_neg c33] at H
                       exact absurd H (by simp)
                     ·rw [if_neg c32] at H
                      exact absurd H (by simp)
      ·rw [if_neg c17] at H
       have c17b0 : ((wrap64 (Go.bits .and .u8 (rd l0 0) 31)) == 31) = false := beq_eq_false_iff_ne.mpr c17
       have c17b1 : ((wrap64 (Go.bits .and .u8 (rd l0 0) 31)) != 31) = true := bne_iff_ne.mpr c17
       (first | rw [c17b0] | (simp only [i64_w, i32_w]; rw [c17b0]) | skip)
       have H' := Aside0.mk H
       clear H
       go_wp2
       go_meet
       case rel => exact ⟨_, (1), (0), (0), (false), (wrap64 (Go.bits .and .u8 (rd l0 0) 31)), (by first | rfl | (simp; done) | (simp [*]; done)), H', ⟨by first | omega | exact Nat.le_refl _⟩, ⟨by (with_reducible repeat (first | apply Kd.V_drew)); exact Kd.V_mono (Kd.V_far (p := ⟨gb227, 4, none⟩) (Kd.V_far (p := ⟨gb227, 3, none⟩) (Kd.V_far (p := ⟨gb227, 2, none⟩) (Kd.V_far (p := ⟨gb227, 1, none⟩) (Kd.V_far (p := ⟨gb227, 0, none⟩) (Kd.V_mono HO0.out (fun k_ hk => (⟨hk, hk.2⟩ : _ ∧ k_ ≠ gb227))) (fun _ hk => hk.2) (.int .i64 (wrap64 ((rd l0 0) / 64)))) (fun _ hk => hk.2) (.int .i64 (wrap64 (Go.bits .and .u8 (rd l0 0) 31)))) (fun _ hk => hk.2) (.bool ((Go.bits .and .u8 (rd l0 0) 32) != 0))) (fun _ hk => hk.2) (.slice none 0 0)) (fun _ hk => hk.2) (.slice none 0 0)) (fun _ hk => ⟨hk.1.1.1, ⟨hk.1.1.2, hk.1.2⟩⟩)⟩, ⟨by (with_reducible repeat (first | refine blk_drew ?_ | refine blk_alloc ?_ _)); refine blk_far ?_ NB223_227.out _; (with_reducible repeat (first | refine blk_drew ?_ | refine blk_alloc ?_ _)); refine blk_far ?_ NB223_227.out _; (with_reducible repeat (first | refine blk_drew ?_ | refine blk_alloc ?_ _)); refine blk_far ?_ NB223_227.out _; (with_reducible repeat (first | refine blk_drew ?_ | refine blk_alloc ?_ _)); refine blk_far ?_ NB223_227.out _; (with_reducible repeat (first | refine blk_drew ?_ | refine blk_alloc ?_ _)); refine blk_far ?_ NB223_227.out _; (with_reducible repeat (first | refine blk_drew ?_ | refine blk_alloc ?_ _)); exact BK223.out⟩, ⟨by (with_reducible repeat (first | refine blk_drew ?_ | refine blk_alloc ?_ _)); refine blk_put (cs := #[.int .i64 (wrap64 ((rd l0 0) / 64)), .int .i64 (wrap64 (Go.bits .and .u8 (rd l0 0) 31)), .bool ((Go.bits .and .u8 (rd l0 0) 32) != 0), .slice none 0 0, .slice none 0 0]) ?_ 4 _ rfl; (with_reducible repeat (first | refine blk_drew ?_ | refine blk_alloc ?_ _)); refine blk_put (cs := #[.int .i64 (wrap64 ((rd l0 0) / 64)), .int .i64 (wrap64 (Go.bits .and .u8 (rd l0 0) 31)), .bool ((Go.bits .and .u8 (rd l0 0) 32) != 0), .slice none 0 0, .slice none 0 0]) ?_ 3 _ rfl; (with_reducible repeat (first | refine blk_drew ?_ | refine blk_alloc ?_ _)); refine blk_put (cs := #[.int .i64 (wrap64 ((rd l0 0) / 64)), .int .i64 (wrap64 (Go.bits .and .u8 (rd l0 0) 31)), .bool false, .slice none 0 0, .slice none 0 0]) ?_ 2 _ rfl; (with_reducible repeat (first | refine blk_drew ?_ | refine blk_alloc ?_ _)); refine blk_put (cs := #[.int .i64 (wrap64 ((rd l0 0) / 64)), .int .i64 0, .bool false, .slice none 0 0, .slice none 0 0]) ?_ 1 _ rfl; (with_reducible repeat (first | refine blk_drew ?_ | refine blk_alloc ?_ _)); refine blk_put (cs := #[.int .i64 0, .int .i64 0, .bool false, .slice none 0 0, .slice none 0 0]) ?_ 0 _ rfl; (with_reducible repeat (first | refine blk_drew ?_ | refine blk_alloc ?_ _)); exact BK227.out⟩, ⟨by repeat (first | (with_reducible first | exact HB.out | apply below_alloc | apply pw_below_drewN | apply below_drew1 | refine below_set ?_ GE223.out | refine below_set ?_ GE227.out) | exact HB.out)⟩⟩
    case rest =>
      clear HC6
      try clear c1
      try clear c2
      try clear c2b0
      try clear c2b1
      try clear p2
      try clear q2
      try clear hx2
      try clear qi2
      try clear c3
      try clear c5
      try clear c5b0
      try clear c5b1
      try clear p6
      try clear c15
      try clear c17
      try clear c17b0
      try clear c17b1
      try clear c19
      try clear c21
      try clear c21b0
      try clear c21b1
      try clear c22
      try clear p22
      try clear q22
      try clear hx22
      try clear qi22
      try clear c23
      try clear p23
      try clear q23
      try clear hx23
      try clear c26
      try clear c26b0
      try clear c27
      try clear c29
      try clear c30
      try clear c32
      try clear c32b0
      try clear c33
      try clear c33b0
      try clear c35
      try clear c35b0
      try clear c36
      try clear c36b0
      try clear c37
      try clear c37b0
      try clear c37b1
      try clear hcz16_0
      try clear hcz16_1
      try clear hcz16_2
      try clear hcz16_3
      try clear hcz16_4
      try clear hcz20_0
      try clear hcz20_1
      try clear hcz20_2
      try clear hcz20_3
      try clear hcz20_4
      try clear hcz24_0
      try clear hcz24_1
      try clear hcz24_2
      try clear hcz24_3
      try clear hcz24_4
      try clear hcz28_0
      try clear hcz28_1
      try clear hcz28_2
      try clear hcz28_3
      try clear hcz28_4
      try clear hcz31_0
      try clear hcz31_1
      try clear hcz31_2
      try clear hcz31_3
      try clear hcz31_4
      try clear hcz4_0
      try clear hcz4_1
      try clear hcz4_2
      try clear hcz4_3
      try clear hcz4_4
      try clear hfz16_0
      try clear hfz16_1
      try clear hfz16_2
      try clear hfz16_3
      try clear hfz16_4
      try clear hfz20_0
      try clear hfz20_1
      try clear hfz20_2
      try clear hfz20_3
      try clear hfz20_4
      try clear hfz24_0
      try clear hfz24_1
      try clear hfz24_2
      try clear hfz24_3
      try clear hfz24_4
      try clear hfz28_0
      try clear hfz28_1
      try clear hfz28_2
      try clear hfz28_3
      try clear hfz28_4
      try clear hfz31_0
      try clear hfz31_1
      try clear hfz31_2
      try clear hfz31_3
      try clear hfz31_4
      try clear hfz4_0
      try clear hfz4_1
      try clear hfz4_2
      try clear hfz4_3
      try clear hfz4_4
      try clear hx224_0
      try clear hx225_0
      try clear hx226_0
      try clear hx228_0
      try clear hx229_0
      try clear hx230_0
      try clear p2
      try clear p22
      try clear p224
      try clear p225
      try clear p226
      try clear p228
      try clear p229
      try clear p230
      try clear p6
      try clear q2
      try clear q22
      try clear q224
      try clear q225
      try clear q226
      try clear q228
      try clear q229
      try clear q230
      obtain ⟨kq, x6_5, x224000_5, x224001_5, x224002_5, x228001_5, rfl, HA, HJ5, HO_0, BK223, BK227, HB⟩ := hcut
      cases kq with
      | zero => exact absurd HA.out (by simp [spec_Read.j3])
      | succ kj5 =>
        have H := HA.out
        clear HA
        simp only [spec_Read.j3] at H
        by_cases c42 : x6_5 ≥ (l0.length : Int)
        ·rw [if_pos c42] at H
         have c42b0 : decide ((l0.length : Int) ≤ x6_5) = true := decide_eq_true c42
         clear c42
         simp only [Option.some.injEq, Prod.mk.injEq] at H
         obtain ⟨rfl, rfl, rfl, rfl, rfl, rfl, rfl⟩ := H
         have hnb43 := NB223_227.out
         have hnc43 := NB227_223.out
         have hcz44_0 : wc.cell? ⟨gb223, 0, none⟩ = some (.int .i64 x224000_5) := (blk_cell BK223.out 0).trans rfl
         have hcz44_1 : wc.cell? ⟨gb223, 1, none⟩ = some (.int .i64 x224001_5) := (blk_cell BK223.out 1).trans rfl
         have hcz44_2 : wc.cell? ⟨gb223, 2, none⟩ = some (.bool x224002_5) := (blk_cell BK223.out 2).trans rfl
         have hcz44_3 : wc.cell? ⟨gb223, 3, none⟩ = some (.slice none 0 0) := (blk_cell BK223.out 3).trans rfl
         have hcz44_4 : wc.cell? ⟨gb223, 4, none⟩ = some (.slice none 0 0) := (blk_cell BK223.out 4).trans rfl
         have hfz44_0 := blk_frozen BK223.out 0
         have hfz44_1 := blk_frozen BK223.out 1
         have hfz44_2 := blk_frozen BK223.out 2
         have hfz44_3 := blk_frozen BK223.out 3
         have hfz44_4 := blk_frozen BK223.out 4
         go_wp2
         refine bodyPost_ret (results_ctt rfl _ _ gb223 29 #[.int .i64 0, .int .i64 0, .bool false, .slice none 0 0, .slice none 0 0] (0, 0) _ rfl (by (with_reducible repeat (first | refine blk_drew ?_ | refine blk_alloc ?_ _)); refine blk_put (cs := #[.int .i64 0, .int .i64 0, .bool false, .slice none 0 0, .slice none 0 0]) ?_ 4 _ rfl; (with_reducible repeat (first | refine blk_drew ?_ | refine blk_alloc ?_ _)); refine blk_put (cs := #[.int .i64 0, .int .i64 0, .bool false, .slice none 0 0, .slice none 0 0]) ?_ 3 _ rfl; (with_reducible repeat (first | refine blk_drew ?_ | refine blk_alloc ?_ _)); refine blk_put (cs := #[.int .i64 0, .int .i64 0, .bool x224002_5, .slice none 0 0, .slice none 0 0]) ?_ 2 _ rfl; (with_reducible repeat (first | refine blk_drew ?_ | refine blk_alloc ?_ _)); refine blk_put (cs := #[.int .i64 0, .int .i64 x224001_5, .bool x224002_5, .slice none 0 0, .slice none 0 0]) ?_ 1 _ rfl; (with_reducible repeat (first | refine blk_drew ?_ | refine blk_alloc ?_ _)); refine blk_put (cs := #[.int .i64 x224000_5, .int .i64 x224001_5, .bool x224002_5, .slice none 0 0, .slice none 0 0]) ?_ 0 _ rfl; (with_reducible repeat (first | refine blk_drew ?_ | refine blk_alloc ?_ _)); exact BK223.out) Tryd.underlying29 rfl (by kernel_rfl)) rfl ?_
         exact ⟨_, _, by first | rfl | (simp <;> rfl) | (simp [*] <;> rfl), by first | exact Kd.R_nil _ _ _ _ _, by first | exact Kd.R_nil _ _ _ _ _, by repeat (first | (with_reducible first | exact HB.out | apply below_alloc | apply pw_below_drewN | apply below_drew1 | refine below_set ?_ GE223.out | refine below_set ?_ GE227.out) | exact HB.out)⟩
        ·rw [if_neg c42] at H
         have c42b0 : decide ((l0.length : Int) ≤ x6_5) = false := decide_eq_false c42
         clear c42
         by_cases c45 : 0 ≤ x6_5
         ·rw [if_pos c45] at H
          have c45b0 : decide (0 ≤ x6_5) = true := decide_eq_true c45
          clear c45
          by_cases c46 : x6_5 < (l0.length : Int)
          ·rw [if_pos c46] at H
           have c46b0 : decide (x6_5 < (l0.length : Int)) = true := decide_eq_true c46
           clear c46
           have HC47 := Aside0.mk H
           clear H
           have p231 : 0 ≤ (x6_5 : Int) := of_decide_eq_true (by first | (with_reducible assumption) | assumption)
           have q231 : x6_5 < (l0.length : Int) := of_decide_eq_true (by first | (with_reducible assumption) | assumption)
           obtain ⟨ad231, e231, hx231_0⟩ := Kd.at_int (Kd.V_reads' HO_0.out).2.2 x6_5 p231 q231
           obtain rfl : ad224 = ad231 := (by injection e231)
           replace p231 := eq_true p231
           replace q231 := eq_true q231
           go_upto_if 95 with (fail)
           go_cut [6, 7] (fun v6 v7 wc => ∃ (kq : Nat) (x6_46 : Int) (x7_46 : Int) (x224000_46 : Int) (x224001_46 : Int) (x224002_46 : Bool), v6 = .int .i64 x6_46 ∧ v7 = .int .i64 x7_46 ∧ Aside0 (spec_Read.j6 kq l0 x6_46 x7_46 (wrap64 ((rd l0 0) / 64)) x228001_5 ((Go.bits .and .u8 (rd l0 0) 32) != 0) = some (r1, r2, r3, r4, r5, r6, r7)) ∧ Aside0 (kq ≤ kj5) ∧ Aside0 (Kd.V (Kd.int .u8) 5 wc w.heap.size (fun k_ => (P0_ k_ ∨ w.heap.size ≤ k_) ∧ k_ ≠ gb223 ∧ k_ ≠ gb227) (.slice (some ad224) l0.length c0) l0) ∧ Aside0 (wc.heap[gb223]? = some (.cells #[.int .i64 x224000_46, .int .i64 x224001_46, .bool x224002_46, (.slice none 0 0), (.slice none 0 0)] 29 (0, 0))) ∧ Aside0 (wc.heap[gb227]? = some (.cells #[.int .i64 (wrap64 ((rd l0 0) / 64)), .int .i64 x228001_5, .bool ((Go.bits .and .u8 (rd l0 0) 32) != 0), (.slice none 0 0), (.slice none 0 0)] 29 (0, 0))) ∧ Aside0 (Below w.heap.size w wc))
           case first =>
             have H := HC47.out
             clear HC47
             by_cases c48 : (wrap64 (rd l0 x6_5)) ≥ 128
             ·rw [if_pos c48] at H
              have c48b0 : decide (128 ≤ (wrap64 (rd l0 x6_5))) = true := decide_eq_true c48
              clear c48
              (first | rw [c48b0] | (simp only [i64_w, i32_w]; rw [c48b0]) | skip)
              have HC49 := Aside0.mk H
              clear H
              go_upto_region 20 with (fail)
              go_cut [111] (fun v111 wc => ∃ (kq : Nat) (x111_48 : Bool), v111 = .bool x111_48 ∧ Aside0 (spec_Read.j4 kq l0 (wrap64 (x6_5 + 1)) (Go.bits .and .i64 (wrap64 (rd l0 x6_5)) 127) x111_48 (wrap64 ((rd l0 0) / 64)) x228001_5 ((Go.bits .and .u8 (rd l0 0) 32) != 0) = some (r1, r2, r3, r4, r5, r6, r7)) ∧ Aside0 (kq ≤ kj5) ∧ Aside0 (Kd.V (Kd.int .u8) 5 wc w.heap.size (fun k_ => (P0_ k_ ∨ w.heap.size ≤ k_) ∧ k_ ≠ gb223 ∧ k_ ≠ gb227) (.slice (some ad224) l0.length c0) l0) ∧ Aside0 (wc.heap[gb223]? = some (.cells #[.int .i64 x224000_5, .int .i64 x224001_5, .bool x224002_5, (.slice none 0 0), (.slice none 0 0)] 29 (0, 0))) ∧ Aside0 (wc.heap[gb227]? = some (.cells #[.int .i64 (wrap64 ((rd l0 0) / 64)), .int .i64 x228001_5, .bool ((Go.bits .and .u8 (rd l0 0) 32) != 0), (.slice none 0 0), (.slice none 0 0)] 29 (0, 0))) ∧ Aside0 (Below w.heap.size w wc))
              case first =>
                have H := HC49.out
                clear HC49
                by_cases c50 : (Go.bits .and .i64 (wrap64 (rd l0 x6_5)) 127) = 0
                ·rw [if_pos c50] at H
                 have c50b0 : ((Go.bits .and .i64 (wrap64 (rd l0 x6_5)) 127) == 0) = true := beq_iff_eq.mpr c50
                 have c50b1 : ((Go.bits .and .i64 (wrap64 (rd l0 x6_5)) 127) != 0) = false := bne_eq_false_iff_eq.mpr c50
                 clear c50
                 (first | rw [c50b0] | (simp only [i64_w, i32_w]; rw [c50b0]) | skip)
                 have H' := Aside0.mk H
                 clear H
                 go_wp2
                 go_meet
                 case rel => exact ⟨_, (true), (by first | rfl | (simp; done) | (simp [*]; done)), H', ⟨by have := HJ5.out; first | omega | exact Nat.le_refl _⟩, ⟨by (with_reducible repeat (first | apply Kd.V_drew)); exact HO_0.out⟩, ⟨by (with_reducible repeat (first | refine blk_drew ?_ | refine blk_alloc ?_ _)); exact BK223.out⟩, ⟨by (with_reducible repeat (first | refine blk_drew ?_ | refine blk_alloc ?_ _)); exact BK227.out⟩, ⟨by repeat (first | (with_reducible first | exact HB.out | apply below_alloc | apply pw_below_drewN | apply below_drew1 | refine below_set ?_ GE223.out | refine below_set ?_ GE227.out) | exact HB.out)⟩⟩
                ·rw [if_neg c50] at H
                 have c50b0 : ((Go.bits .and .i64 (wrap64 (rd l0 x6_5)) 127) == 0) = false := beq_eq_false_iff_ne.mpr c50
                 have c50b1 : ((Go.bits .and .i64 (wrap64 (rd l0 x6_5)) 127) != 0) = true := bne_iff_ne.mpr c50
                 (first | rw [c50b0] | (simp only [i64_w, i32_w]; rw [c50b0]) | skip)
                 by_cases c51 : (Go.bits .and .i64 (wrap64 (rd l0 x6_5)) 127) > 4
                 ·rw [if_pos c51] at H
                  have c51b0 : decide (4 < (Go.bits .and .i64 (wrap64 (rd l0 x6_5)) 127)) = true := decide_eq_true c51
                  clear c51
                  have H' := Aside0.mk H
                  clear H
                  go_wp2
                  go_meet
                  case rel => exact ⟨_, (true), (by first | rfl | (simp; done) | (simp [*]; done)), H', ⟨by have := HJ5.out; first | omega | exact Nat.le_refl _⟩, ⟨by (with_reducible repeat (first | apply Kd.V_drew)); exact HO_0.out⟩, ⟨by (with_reducible repeat (first | refine blk_drew ?_ | refine blk_alloc ?_ _)); exact BK223.out⟩, ⟨by (with_reducible repeat (first | refine blk_drew ?_ | refine blk_alloc ?_ _)); exact BK227.out⟩, ⟨by repeat (first | (with_reducible first | exact HB.out | apply below_alloc | apply pw_below_drewN | apply below_drew1 | refine below_set ?_ GE223.out | refine below_set ?_ GE227.out) | exact HB.out)⟩⟩
                 ·rw [if_neg c51] at H
                  have c51b0 : decide (4 < (Go.bits .and .i64 (wrap64 (rd l0 x6_5)) 127)) = false := decide_eq_false c51
                  clear c51
                  have H' := Aside0.mk H
                  clear H
                  go_wp2
                  go_meet
                  case rel => exact ⟨_, (decide ((wrap64 ((wrap64 (x6_5 + 1)) + (Go.bits .and .i64 (wrap64 (rd l0 x6_5)) 127))) > (l0.length : Int))), (by first | rfl | (simp; done) | (simp [*]; done)), H', ⟨by have := HJ5.out; first | omega | exact Nat.le_refl _⟩, ⟨by (with_reducible repeat (first | apply Kd.V_drew)); exact HO_0.out⟩, ⟨by (with_reducible repeat (first | refine blk_drew ?_ | refine blk_alloc ?_ _)); exact BK223.out⟩, ⟨by (with_reducible repeat (first | refine blk_drew ?_ | refine blk_alloc ?_ _)); exact BK227.out⟩, ⟨by repeat (first | (with_reducible first | exact HB.out | apply below_alloc | apply pw_below_drewN | apply below_drew1 | refine below_set ?_ GE223.out | refine below_set ?_ GE227.out) | exact HB.out)⟩⟩
              case rest =>
                clear HC49
                try clear c1
                try clear c2
                try clear c2b0
                try clear c2b1
                try clear p2
                try clear q2
                try clear hx2
                try clear qi2
                try clear c3
                try clear c4
                try clear c5
                try clear c5b0
                try clear c5b1
                try clear p6
                try clear c15
                try clear c17
                try clear c17b0
                try clear c17b1
                try clear c19
                try clear c21
                try clear c21b0
                try clear c21b1
                try clear c22
                try clear p22
                try clear q22
                try clear hx22
                try clear qi22
                try clear c23
                try clear p23
                try clear q23
                try clear hx23
                try clear c26
                try clear c26b0
                try clear c27
                try clear c29
                try clear c30
                try clear c32
                try clear c32b0
                try clear c33
                try clear c33b0
                try clear c35
                try clear c35b0
                try clear c36
                try clear c36b0
                try clear c37
                try clear c37b0
                try clear c37b1
                try clear c42
                try clear c42b0
                try clear c43
                try clear c45
                try clear c45b0
                try clear c46
                try clear c46b0
                try clear c48
                try clear c48b0
                try clear c50
                try clear c50b0
                try clear c50b1
                try clear c51
                try clear c51b0
                try clear hcz16_0
                try clear hcz16_1
                try clear hcz16_2
                try clear hcz16_3
                try clear hcz16_4
                try clear hcz20_0
                try clear hcz20_1
                try clear hcz20_2
                try clear hcz20_3
                try clear hcz20_4
                try clear hcz24_0
                try clear hcz24_1
                try clear hcz24_2
                try clear hcz24_3
                try clear hcz24_4
                try clear hcz28_0
                try clear hcz28_1
                try clear hcz28_2
                try clear hcz28_3
                try clear hcz28_4
                try clear hcz31_0
                try clear hcz31_1
                try clear hcz31_2
                try clear hcz31_3
                try clear hcz31_4
                try clear hcz44_0
                try clear hcz44_1
                try clear hcz44_2
                try clear hcz44_3
                try clear hcz44_4
                try clear hcz4_0
                try clear hcz4_1
                try clear hcz4_2
                try clear hcz4_3
                try clear hcz4_4
                try clear hfz16_0
                try clear hfz16_1
                try clear hfz16_2
                try clear hfz16_3
                try clear hfz16_4
                try clear hfz20_0
                try clear hfz20_1
                try clear hfz20_2
                try clear hfz20_3
                try clear hfz20_4
                try clear hfz24_0
                try clear hfz24_1
                try clear hfz24_2
                try clear hfz24_3
                try clear hfz24_4
                try clear hfz28_0
                try clear hfz28_1
                try clear hfz28_2
                try clear hfz28_3
                try clear hfz28_4
                try clear hfz31_0
                try clear hfz31_1
                try clear hfz31_2
                try clear hfz31_3
                try clear hfz31_4
                try clear hfz44_0
                try clear hfz44_1
                try clear hfz44_2
                try clear hfz44_3
                try clear hfz44_4
                try clear hfz4_0
                try clear hfz4_1
                try clear hfz4_2
                try clear hfz4_3
                try clear hfz4_4
                try clear hx224_0
                try clear hx225_0
                try clear hx226_0
                try clear hx228_0
                try clear hx229_0
                try clear hx230_0
                try clear hx231_0
                try clear p2
                try clear p22
                try clear p224
                try clear p225
                try clear p226
                try clear p228
                try clear p229
                try clear p23
                try clear p230
                try clear p231
                try clear p6
                try clear q2
                try clear q22
                try clear q224
                try clear q225
                try clear q226
                try clear q228
                try clear q229
                try clear q23
                try clear q230
                try clear q231
                obtain ⟨kq, x111_48, rfl, HA, HJ48, HO_0, BK223, BK227, HB⟩ := hcut
                cases kq with
                | zero => exact absurd HA.out (by simp [spec_Read.j4])
                | succ kj48 =>
                  have H := HA.out
                  clear HA
                  simp only [spec_Read.j4] at H
                  by_cases c52 : x111_48 = true
                  ·subst c52
                   have H1 : (some (0, 0, false, ([] : List Int), ([] : List (S29)), 0, false)) = some (r1, r2, r3, r4, r5, r6, r7) := by rw [if_pos rfl] at H; exact H
                   clear H
                   have H := H1
                   clear H1
                   simp only [Option.some.injEq, Prod.mk.injEq] at H
                   obtain ⟨rfl, rfl, rfl, rfl, rfl, rfl, rfl⟩ := H
                   have hnb53 := NB223_227.out
                   have hnc53 := NB227_223.out
                   have hcz54_0 : wc.cell? ⟨gb223, 0, none⟩ = some (.int .i64 x224000_5) := (blk_cell BK223.out 0).trans rfl
                   have hcz54_1 : wc.cell? ⟨gb223, 1, none⟩ = some (.int .i64 x224001_5) := (blk_cell BK223.out 1).trans rfl
                   have hcz54_2 : wc.cell? ⟨gb223, 2, none⟩ = some (.bool x224002_5) := (blk_cell BK223.out 2).trans rfl
                   have hcz54_3 : wc.cell? ⟨gb223, 3, none⟩ = some (.slice none 0 0) := (blk_cell BK223.out 3).trans rfl
                   have hcz54_4 : wc.cell? ⟨gb223, 4, none⟩ = some (.slice none 0 0) := (blk_cell BK223.out 4).trans rfl
                   have hfz54_0 := blk_frozen BK223.out 0
                   have hfz54_1 := blk_frozen BK223.out 1
                   have hfz54_2 := blk_frozen BK223.out 2
                   have hfz54_3 := blk_frozen BK223.out 3
                   have hfz54_4 := blk_frozen BK223.out 4
                   go_wp2
                   refine bodyPost_ret (results_ctt rfl _ _ gb223 29 #[.int .i64 0, .int .i64 0, .bool false, .slice none 0 0, .slice none 0 0] (0, 0) _ rfl (by (with_reducible repeat (first | refine blk_drew ?_ | refine blk_alloc ?_ _)); refine blk_put (cs := #[.int .i64 0, .int .i64 0, .bool false, .slice none 0 0, .slice none 0 0]) ?_ 4 _ rfl; (with_reducible repeat (first | refine blk_drew ?_ | refine blk_alloc ?_ _)); refine blk_put (cs := #[.int .i64 0, .int .i64 0, .bool false, .slice none 0 0, .slice none 0 0]) ?_ 3 _ rfl; (with_reducible repeat (first | refine blk_drew ?_ | refine blk_alloc ?_ _)); refine blk_put (cs := #[.int .i64 0, .int .i64 0, .bool x224002_5, .slice none 0 0, .slice none 0 0]) ?_ 2 _ rfl; (with_reducible repeat (first | refine blk_drew ?_ | refine blk_alloc ?_ _)); refine blk_put (cs := #[.int .i64 0, .int .i64 x224001_5, .bool x224002_5, .slice none 0 0, .slice none 0 0]) ?_ 1 _ rfl; (with_reducible repeat (first | refine blk_drew ?_ | refine blk_alloc ?_ _)); refine blk_put (cs := #[.int .i64 x224000_5, .int .i64 x224001_5, .bool x224002_5, .slice none 0 0, .slice none 0 0]) ?_ 0 _ rfl; (with_reducible repeat (first | refine blk_drew ?_ | refine blk_alloc ?_ _)); exact BK223.out) Tryd.underlying29 rfl (by kernel_rfl)) rfl ?_
                   exact ⟨_, _, by first | rfl | (simp <;> rfl) | (simp [*] <;> rfl), by first | exact Kd.R_nil _ _ _ _ _, by first | exact Kd.R_nil _ _ _ _ _, by repeat (first | (with_reducible first | exact HB.out | apply below_alloc | apply pw_below_drewN | apply below_drew1 | refine below_set ?_ GE223.out | refine below_set ?_ GE227.out) | exact HB.out)⟩
                  ·replace c52 := Bool.eq_false_iff.mpr c52
                   subst c52
                   have H1 : (if 0 ≤ (wrap64 (x6_5 + 1)) then (if (wrap64 (x6_5 + 1)) ≤ (wrap64 ((wrap64 (x6_5 + 1)) + (Go.bits .and .i64 (wrap64 (rd l0 x6_5)) 127))) then (if (wrap64 ((wrap64 (x6_5 + 1)) + (Go.bits .and .i64 (wrap64 (rd l0 x6_5)) 127))) ≤ (l0.length : Int) then ((some ((l0.take ((wrap64 ((wrap64 (x6_5 + 1)) + (Go.bits .and .i64 (wrap64 (rd l0 x6_5)) 127))) : Int).toNat).drop ((wrap64 (x6_5 + 1)) : Int).toNat : List Int)).bind fun y232 => (spec_Read.l1 kj48 l0 (wrap64 (x6_5 + 1)) 0 (Go.bits .and .i64 (wrap64 (rd l0 x6_5)) 127) y232 (y232.length : Int) 0 (wrap64 ((rd l0 0) / 64)) x228001_5 ((Go.bits .and .u8 (rd l0 0) 32) != 0))) else (none)) else (none)) else (none)) = some (r1, r2, r3, r4, r5, r6, r7) := by rw [if_neg (show ¬ (false = true) by decide)] at H; exact H
                   clear H
                   have H := H1
                   clear H1
                   obtain ⟨ji55, hji55⟩ : ∃ j_ : Int, (wrap64 (x6_5 + 1)) = j_ := ⟨_, rfl⟩
                   replace H : (if 0 ≤ (ji55) then (if (ji55) ≤ (wrap64 ((ji55) + (Go.bits .and .i64 (wrap64 (rd l0 x6_5)) 127))) then (if (wrap64 ((ji55) + (Go.bits .and .i64 (wrap64 (rd l0 x6_5)) 127))) ≤ (l0.length : Int) then ((some ((l0.take ((wrap64 ((ji55) + (Go.bits .and .i64 (wrap64 (rd l0 x6_5)) 127))) : Int).toNat).drop ((ji55) : Int).toNat : List Int)).bind fun y232 => (spec_Read.l1 kj48 l0 (ji55) 0 (Go.bits .and .i64 (wrap64 (rd l0 x6_5)) 127) y232 (y232.length : Int) 0 (wrap64 ((rd l0 0) / 64)) x228001_5 ((Go.bits .and .u8 (rd l0 0) 32) != 0))) else (none)) else (none)) else (none)) = some (r1, r2, r3, r4, r5, r6, r7) := by first | (rw [hji55] at H; exact H) | (simp only [hji55] at H ⊢; exact H)
                   have hji55w : (IntKind.i64.wrap (x6_5 + 1)) = ji55 := (i64_w _).trans hji55
                   by_cases c56 : 0 ≤ (ji55)
                   ·rw [if_pos c56] at H
                    have c56b0 := eq_true c56
                    have c56b1 : decide (0 ≤ (ji55)) = true := decide_eq_true c56
                    clear c56
                    by_cases c57 : (ji55) ≤ (wrap64 ((ji55) + (Go.bits .and .i64 (wrap64 (rd l0 x6_5)) 127)))
                    ·rw [if_pos c57] at H
                     have c57b0 := eq_true c57
                     have c57b1 : decide ((ji55) ≤ (wrap64 ((ji55) + (Go.bits .and .i64 (wrap64 (rd l0 x6_5)) 127)))) = true := decide_eq_true c57
                     by_cases c58 : (wrap64 ((ji55) + (Go.bits .and .i64 (wrap64 (rd l0 x6_5)) 127))) ≤ (l0.length : Int)
                     ·rw [if_pos c58] at H
                      have c58b0 := eq_true c58
                      have c58b1 : decide ((wrap64 ((ji55) + (Go.bits .and .i64 (wrap64 (rd l0 x6_5)) 127))) ≤ (l0.length : Int)) = true := decide_eq_true c58
                      obtain ⟨y232, hy232⟩ : ∃ y_ : List Int, y_ = ((l0.take ((wrap64 ((ji55) + (Go.bits .and .i64 (wrap64 (rd l0 x6_5)) 127))) : Int).toNat).drop ((ji55) : Int).toNat) := ⟨_, rfl⟩
                      replace H : (spec_Read.l1 kj48 l0 (ji55) 0 (Go.bits .and .i64 (wrap64 (rd l0 x6_5)) 127) y232 (y232.length : Int) 0 (wrap64 ((rd l0 0) / 64)) x228001_5 ((Go.bits .and .u8 (rd l0 0) 32) != 0)) = some (r1, r2, r3, r4, r5, r6, r7) := by first | (rw [hy232]; with_reducible exact H) | (have H2_ := (Option.bind_some _ _).symm.trans H; rw [hy232]; with_reducible exact H2_) | (have H2_ := (Option.bind_some _ _).symm.trans H; with_reducible exact H2_) | with_reducible exact H | (rw [hy232]; exact H) | exact H
                      have Ny232 := Aside0.mk hy232
                      clear hy232
                      have H' := Aside0.mk H
                      clear H
                      have q59 : ((wrap64 ((ji55) + (Go.bits .and .i64 (wrap64 (rd l0 x6_5)) 127))) : Int) ≤ ((l0.length : Int) : Int) := of_decide_eq_true (by first | (with_reducible assumption) | assumption)
                      obtain ⟨i059, hi059, _, hsz59, _⟩ := info_parts info5
                      have hroom59 : l0.length ≤ c0 := (Kd.V_reads' HO_0.out).2.1
                      have hC59 : Kd.F (Kd.int .u8) _ _ (some ad224) l0.length l0 := (Kd.V_at (base := w.heap.size) HO_0.out).2.2
                      have ql59 : ((ji55) : Int) ≤ ((wrap64 ((ji55) + (Go.bits .and .i64 (wrap64 (rd l0 x6_5)) 127))) : Int) := of_decide_eq_true (by first | (with_reducible assumption) | assumption)
                      have q059 : (0 : Int) ≤ ((ji55) : Int) := of_decide_eq_true (by first | (with_reducible assumption) | assumption)
                      have hcut59 := cut_mid (P := Tryd.prog) 22 5 .i64 .i64 Tryd.underlying22 hi059 1 hsz59 (some ad224) l0.length c0 (ji55) (wrap64 ((ji55) + (Go.bits .and .i64 (wrap64 (rd l0 x6_5)) 127))) q059 ql59 q59 hroom59
                      have hr59 := Kd.F_mid (lo := ((ji55) : Int).toNat) (hi := ((wrap64 ((ji55) + (Go.bits .and .i64 (wrap64 (rd l0 x6_5)) 127))) : Int).toNat) (c := c0) hC59 (by omega) (by omega) hroom59
                      obtain ⟨A59, hA59⟩ : ∃ A1, A1 = (if c0 = ((ji55) : Int).toNat then (some ad224) else ((some ad224) : Option Addr).map (·.add (((ji55) : Int).toNat * 1))) := ⟨_, rfl⟩
                      obtain ⟨c59, hc59⟩ : ∃ c1, c1 = c0 - ((ji55) : Int).toNat := ⟨_, rfl⟩
                      have hy59 : y232.length = ((wrap64 ((ji55) + (Go.bits .and .i64 (wrap64 (rd l0 x6_5)) 127))) : Int).toNat - ((ji55) : Int).toNat := (by rw [Ny232.out, List.length_drop, List.length_take] <;> omega)
                      rw [show ((l0).take ((wrap64 ((ji55) + (Go.bits .and .i64 (wrap64 (rd l0 x6_5)) 127))) : Int).toNat).drop ((ji55) : Int).toNat = y232 from Ny232.out.symm] at hr59
                      replace hr59 : Kd.F (Kd.int .u8) _ _ A59 y232.length y232 := (by rw [hA59]; exact hr59)
                      rw [← hy59, ← hA59, ← hc59] at hcut59
                      have HO236 := Aside0.mk (show Kd.V (Kd.int .u8) 5 _ w.heap.size _ (.slice A59 y232.length c59) y232 from Kd.V_mk (by rw [hy59, hc59]; exact Nat.sub_le_sub_right (Nat.le_trans (by omega) hroom59) _) hr59)
                      have HC236 := Aside0.mk (show y232.length ≤ c59 from by rw [hy59, hc59]; exact Nat.sub_le_sub_right (Nat.le_trans (by omega) hroom59) _)
                      clear hr59 hC59 hroom59 hi059 hsz59 hc59
                      have KY59 := Aside0.mk hy59
                      have KA59 := Aside0.mk hA59
                      clear hy59 hA59
                      replace q59 := eq_true q59
                      go_wp2
                      go_loopg [7, 120] kj48 (fun kq v7 v120 w' => ∃ (x7_3 : Int) (x120_3 : Int), v7 = .int .i64 x7_3 ∧ v120 = .int .i64 x120_3 ∧ Aside0 (spec_Read.l1 kq l0 (ji55) x7_3 (Go.bits .and .i64 (wrap64 (rd l0 x6_5)) 127) y232 (y232.length : Int) x120_3 (wrap64 ((rd l0 0) / 64)) x228001_5 ((Go.bits .and .u8 (rd l0 0) 32) != 0) = some (r1, r2, r3, r4, r5, r6, r7)) ∧ Aside0 (kq ≤ kj48) ∧ Aside0 (Kd.V (Kd.int .u8) 5 w' w.heap.size (fun k_ => (P0_ k_ ∨ w.heap.size ≤ k_) ∧ k_ ≠ gb223 ∧ k_ ≠ gb227) (.slice (some ad224) l0.length c0) l0) ∧ Aside0 (Kd.V (Kd.int .u8) 5 w' w.heap.size (fun k_ => (P0_ k_ ∨ w.heap.size ≤ k_) ∧ k_ ≠ gb223 ∧ k_ ≠ gb227) (.slice A59 y232.length c59) y232) ∧ Aside0 (w'.heap[gb223]? = some (.cells #[.int .i64 x224000_5, .int .i64 x224001_5, .bool x224002_5, (.slice none 0 0), (.slice none 0 0)] 29 (0, 0))) ∧ Aside0 (w'.heap[gb227]? = some (.cells #[.int .i64 (wrap64 ((rd l0 0) / 64)), .int .i64 x228001_5, .bool ((Go.bits .and .u8 (rd l0 0) 32) != 0), (.slice none 0 0), (.slice none 0 0)] 29 (0, 0))) ∧ Aside0 (Below w.heap.size w w'))
                      case atStart => exact ⟨(0), (0), (by first | rfl | (simp; done) | (simp [*]; done)), (by first | rfl | (simp; done) | (simp [*]; done)), H', ⟨Nat.le_refl _⟩, ⟨by (with_reducible repeat (first | apply Kd.V_drew)); exact HO_0.out⟩, ⟨by (with_reducible repeat (first | apply Kd.V_drew)); exact HO236.out⟩, ⟨by (with_reducible repeat (first | refine blk_drew ?_ | refine blk_alloc ?_ _)); exact BK223.out⟩, ⟨by (with_reducible repeat (first | refine blk_drew ?_ | refine blk_alloc ?_ _)); exact BK227.out⟩, ⟨by repeat (first | (with_reducible first | exact HB.out | apply below_alloc | apply pw_below_drewN | apply below_drew1 | refine below_set ?_ GE223.out | refine below_set ?_ GE227.out) | exact HB.out)⟩⟩
                      case round =>
                        clear H'
                        try clear c1
                        try clear c2
                        try clear c2b0
                        try clear c2b1
                        try clear p2
                        try clear q2
                        try clear hx2
                        try clear qi2
                        try clear c3
                        try clear c4
                        try clear c5
                        try clear c5b0
                        try clear c5b1
                        try clear q5
                        try clear p6
                        try clear c15
                        try clear c17
                        try clear c17b0
                        try clear c17b1
                        try clear c19
                        try clear c21
                        try clear c21b0
                        try clear c21b1
                        try clear c22
                        try clear p22
                        try clear q22
                        try clear hx22
                        try clear qi22
                        try clear c23
                        try clear p23
                        try clear q23
                        try clear hx23
                        try clear c26
                        try clear c26b0
                        try clear c27
                        try clear c29
                        try clear c30
                        try clear c32
                        try clear c32b0
                        try clear c33
                        try clear c33b0
                        try clear c35
                        try clear c35b0
                        try clear c36
                        try clear c36b0
                        try clear c37
                        try clear c37b0
                        try clear c37b1
                        try clear c42
                        try clear c42b0
                        try clear c43
                        try clear c45
                        try clear c45b0
                        try clear c46
                        try clear c46b0
                        try clear c48
                        try clear c48b0
                        try clear c50
                        try clear c50b0
                        try clear c50b1
                        try clear c51
                        try clear c51b0
                        try clear c52
                        try clear c53
                        try clear c56
                        try clear c56b0
                        try clear c56b1
                        try clear c57
                        try clear c57b0
                        try clear c57b1
                        try clear c58
                        try clear c58b0
                        try clear c58b1
                        try clear c59
                        try clear q59
                        try clear hcz16_0
                        try clear hcz16_1
                        try clear hcz16_2
                        try clear hcz16_3
                        try clear hcz16_4
                        try clear hcz20_0
                        try clear hcz20_1
                        try clear hcz20_2
                        try clear hcz20_3
                        try clear hcz20_4
                        try clear hcz24_0
                        try clear hcz24_1
                        try clear hcz24_2
                        try clear hcz24_3
                        try clear hcz24_4
                        try clear hcz28_0
                        try clear hcz28_1
                        try clear hcz28_2
                        try clear hcz28_3
                        try clear hcz28_4
                        try clear hcz31_0
                        try clear hcz31_1
                        try clear hcz31_2
                        try clear hcz31_3
                        try clear hcz31_4
                        try clear hcz44_0
                        try clear hcz44_1
                        try clear hcz44_2
                        try clear hcz44_3
                        try clear hcz44_4
                        try clear hcz4_0
                        try clear hcz4_1
                        try clear hcz4_2
                        try clear hcz4_3
                        try clear hcz4_4
                        try clear hcz54_0
                        try clear hcz54_1
                        try clear hcz54_2
                        try clear hcz54_3
                        try clear hcz54_4
                        try clear hfz16_0
                        try clear hfz16_1
                        try clear hfz16_2
                        try clear hfz16_3
                        try clear hfz16_4
                        try clear hfz20_0
                        try clear hfz20_1
                        try clear hfz20_2
                        try clear hfz20_3
                        try clear hfz20_4
                        try clear hfz24_0
                        try clear hfz24_1
                        try clear hfz24_2
                        try clear hfz24_3
                        try clear hfz24_4
                        try clear hfz28_0
                        try clear hfz28_1
                        try clear hfz28_2
                        try clear hfz28_3
                        try clear hfz28_4
                        try clear hfz31_0
                        try clear hfz31_1
                        try clear hfz31_2
                        try clear hfz31_3
                        try clear hfz31_4
                        try clear hfz44_0
                        try clear hfz44_1
                        try clear hfz44_2
                        try clear hfz44_3
                        try clear hfz44_4
                        try clear hfz4_0
                        try clear hfz4_1
                        try clear hfz4_2
                        try clear hfz4_3
                        try clear hfz4_4
                        try clear hfz54_0
                        try clear hfz54_1
                        try clear hfz54_2
                        try clear hfz54_3
                        try clear hfz54_4
                        try clear hx224_0
                        try clear hx225_0
                        try clear hx226_0
                        try clear hx228_0
                        try clear hx229_0
                        try clear hx230_0
                        try clear hx231_0
                        try clear p2
                        try clear p22
                        try clear p224
                        try clear p225
                        try clear p226
                        try clear p228
                        try clear p229
                        try clear p23
                        try clear p230
                        try clear p231
                        try clear p6
                        try clear q059
                        try clear q2
                        try clear q22
                        try clear q224
                        try clear q225
                        try clear q226
                        try clear q228
                        try clear q229
                        try clear q23
                        try clear q230
                        try clear q231
                        try clear q59
                        obtain ⟨x7_3, x120_3, rfl, rfl, HA, HK3, HO_0, HO_118, BK223, BK227, HB⟩ := hrel
                        cases gk with
                        | zero => exact absurd HA.out (by simp [spec_Read.l1])
                        | succ k3 =>
                          have H := HA.out
                          clear HA
                          simp only [spec_Read.l1] at H
                          by_cases c60 : x120_3 < (y232.length : Int)
                          ·rw [if_pos c60] at H
                           have c60b0 : decide (x120_3 < (y232.length : Int)) = true := decide_eq_true c60
                           clear c60
                           by_cases c61 : 0 ≤ x120_3
                           ·rw [if_pos c61] at H
                            have c61b0 : decide (0 ≤ x120_3) = true := decide_eq_true c61
                            clear c61
                            by_cases c62 : x120_3 < (y232.length : Int)
                            ·rw [if_pos c62] at H
                             have c62b0 : decide (x120_3 < (y232.length : Int)) = true := decide_eq_true c62
                             clear c62
                             have H' := Aside0.mk H
                             clear H
                             have p237 : 0 ≤ (x120_3 : Int) := of_decide_eq_true (by first | (with_reducible assumption) | assumption)
                             have q237 : x120_3 < (y232.length : Int) := of_decide_eq_true (by first | (with_reducible assumption) | assumption)
                             obtain ⟨ad237, e237, hx237_0⟩ := Kd.at_int (Kd.V_reads' HO_118.out).2.2 x120_3 p237 q237
                             cases e237
                             replace p237 := eq_true p237
                             replace q237 := eq_true q237
                             go_wp2
                             go_roundg k3
                             case measure => have := HJ5.out; have := HJ48.out; have := HK3.out; omega
                             case rel => exact ⟨(Go.bits .or .i64 (wrap64 (x7_3 * 256)) (wrap64 (rd y232 x120_3))), (wrap64 (x120_3 + 1)), (by first | rfl | (simp; done) | (simp [*]; done)), (by first | rfl | (simp; done) | (simp [*]; done)), H', ⟨by have := HJ5.out; have := HJ48.out; have := HK3.out; omega⟩, ⟨by (with_reducible repeat (first | apply Kd.V_drew)); exact HO_0.out⟩, ⟨by (with_reducible repeat (first | apply Kd.V_drew)); exact HO_118.out⟩, ⟨by (with_reducible repeat (first | refine blk_drew ?_ | refine blk_alloc ?_ _)); exact BK223.out⟩, ⟨by (with_reducible repeat (first | refine blk_drew ?_ | refine blk_alloc ?_ _)); exact BK227.out⟩, ⟨by repeat (first | (with_reducible first | exact HB.out | apply below_alloc | apply pw_below_drewN | apply below_drew1 | refine below_set ?_ GE223.out | refine below_set ?_ GE227.out) | exact HB.out)⟩⟩
                            ·rw [if_neg c62] at H
                             exact absurd H (by simp)
                           ·rw [if_neg c61] at H
                            exact absurd H (by simp)
                          ·rw [if_neg c60] at H
                           have c60b0 : decide (x120_3 < (y232.length : Int)) = false := decide_eq_false c60
                           clear c60
                           have H' := Aside0.mk H
                           clear H
                           go_wp2
                           go_meet
                           case rel => exact ⟨_, (wrap64 ((ji55) + (Go.bits .and .i64 (wrap64 (rd l0 x6_5)) 127))), (x7_3), (x224000_5), (x224001_5), (x224002_5), (by first | rfl | (simp; done) | (simp only [← hji55] <;> (first | rfl | simp)) | (simp [*]; done)), (by first | rfl | (simp; done) | (simp [*]; done)), H', ⟨by have := HJ5.out; have := HJ48.out; have := HK3.out; first | omega | exact Nat.le_refl _⟩, ⟨by (with_reducible repeat (first | apply Kd.V_drew)); exact HO_0.out⟩, ⟨by (with_reducible repeat (first | refine blk_drew ?_ | refine blk_alloc ?_ _)); exact BK223.out⟩, ⟨by (with_reducible repeat (first | refine blk_drew ?_ | refine blk_alloc ?_ _)); exact BK227.out⟩, ⟨by repeat (first | (with_reducible first | exact HB.out | apply below_alloc | apply pw_below_drewN | apply below_drew1 | refine below_set ?_ GE223.out | refine below_set ?_ GE227.out) | exact HB.out)⟩⟩
                     ·rw [if_neg c58] at H
                      exact absurd H (by simp)
                    ·rw [if_neg c57] at H
                     exact absurd H (by simp)
                   ·rw [if_neg c56] at H
                    exact absurd H (by simp)
             ·rw [if_neg c48] at H
              have c48b0 : decide (128 ≤ (wrap64 (rd l0 x6_5))) = false := decide_eq_false c48
              clear c48
              (first | rw [c48b0] | (simp only [i64_w, i32_w]; rw [c48b0]) | skip)
              have H' := Aside0.mk H
              clear H
              go_wp2
              go_meet
              case rel => exact ⟨_, (wrap64 (x6_5 + 1)), (wrap64 (rd l0 x6_5)), (x224000_5), (x224001_5), (x224002_5), (by first | rfl | (simp; done) | (simp [*]; done)), (by first | rfl | (simp; done) | (simp [*]; done)), H', ⟨by have := HJ5.out; first | omega | exact Nat.le_refl _⟩, ⟨by (with_reducible repeat (first | apply Kd.V_drew)); exact HO_0.out⟩, ⟨by (with_reducible repeat (first | refine blk_drew ?_ | refine blk_alloc ?_ _)); exact BK223.out⟩, ⟨by (with_reducible repeat (first | refine blk_drew ?_ | refine blk_alloc ?_ _)); exact BK227.out⟩, ⟨by repeat (first | (with_reducible first | exact HB.out | apply below_alloc | apply pw_below_drewN | apply below_drew1 | refine below_set ?_ GE223.out | refine below_set ?_ GE227.out) | exact HB.out)⟩⟩
           case rest =>
             clear HC47
             try clear c1
             try clear c2
             try clear c2b0
             try clear c2b1
             try clear p2
             try clear q2
             try clear hx2
             try clear qi2
             try clear c3
             try clear c4
             try clear c5
             try clear c5b0
             try clear c5b1
             try clear q5
             try clear c6
             try clear p6
             try clear c15
             try clear c17
             try clear c17b0
             try clear c17b1
             try clear c19
             try clear c21
             try clear c21b0
             try clear c21b1
             try clear c22
             try clear p22
             try clear q22
             try clear hx22
             try clear qi22
             try clear c23
             try clear p23
             try clear q23
             try clear hx23
             try clear c26
             try clear c26b0
             try clear c27
             try clear c29
             try clear c30
             try clear c32
             try clear c32b0
             try clear c33
             try clear c33b0
             try clear c35
             try clear c35b0
             try clear c36
             try clear c36b0
             try clear c37
             try clear c37b0
             try clear c37b1
             try clear c42
             try clear c42b0
             try clear c43
             try clear c45
             try clear c45b0
             try clear c46
             try clear c46b0
             try clear c48
             try clear c48b0
             try clear c50
             try clear c50b0
             try clear c50b1
             try clear c51
             try clear c51b0
             try clear c52
             try clear c53
             try clear c56
             try clear c56b0
             try clear c56b1
             try clear c57
             try clear c57b0
             try clear c57b1
             try clear c58
             try clear c58b0
             try clear c58b1
             try clear c59
             try clear q59
             try clear c60
             try clear c60b0
             try clear c61
             try clear c61b0
             try clear c62
             try clear c62b0
             try clear hcz16_0
             try clear hcz16_1
             try clear hcz16_2
             try clear hcz16_3
             try clear hcz16_4
             try clear hcz20_0
             try clear hcz20_1
             try clear hcz20_2
             try clear hcz20_3
             try clear hcz20_4
             try clear hcz24_0
             try clear hcz24_1
             try clear hcz24_2
             try clear hcz24_3
             try clear hcz24_4
             try clear hcz28_0
             try clear hcz28_1
             try clear hcz28_2
             try clear hcz28_3
             try clear hcz28_4
             try clear hcz31_0
             try clear hcz31_1
             try clear hcz31_2
             try clear hcz31_3
             try clear hcz31_4
             try clear hcz44_0
             try clear hcz44_1
             try clear hcz44_2
             try clear hcz44_3
             try clear hcz44_4
             try clear hcz4_0
             try clear hcz4_1
             try clear hcz4_2
             try clear hcz4_3
             try clear hcz4_4
             try clear hcz54_0
             try clear hcz54_1
             try clear hcz54_2
             try clear hcz54_3
             try clear hcz54_4
             try clear hfz16_0
             try clear hfz16_1
             try clear hfz16_2
             try clear hfz16_3
             try clear hfz16_4
             try clear hfz20_0
             try clear hfz20_1
             try clear hfz20_2
             try clear hfz20_3
             try clear hfz20_4
             try clear hfz24_0
             try clear hfz24_1
             try clear hfz24_2
             try clear hfz24_3
             try clear hfz24_4
             try clear hfz28_0
             try clear hfz28_1
             try clear hfz28_2
             try clear hfz28_3
             try clear hfz28_4
             try clear hfz31_0
             try clear hfz31_1
             try clear hfz31_2
             try clear hfz31_3
             try clear hfz31_4
             try clear hfz44_0
             try clear hfz44_1
             try clear hfz44_2
             try clear hfz44_3
             try clear hfz44_4
             try clear hfz4_0
             try clear hfz4_1
             try clear hfz4_2
             try clear hfz4_3
             try clear hfz4_4
             try clear hfz54_0
             try clear hfz54_1
             try clear hfz54_2
             try clear hfz54_3
             try clear hfz54_4
             try clear hx224_0
             try clear hx225_0
             try clear hx226_0
             try clear hx228_0
             try clear hx229_0
             try clear hx230_0
             try clear hx231_0
             try clear hx237_0
             try clear p2
             try clear p22
             try clear p224
             try clear p225
             try clear p226
             try clear p228
             try clear p229
             try clear p23
             try clear p230
             try clear p231
             try clear p237
             try clear p6
             try clear q059
             try clear q2
             try clear q22
             try clear q224
             try clear q225
             try clear q226
             try clear q228
             try clear q229
             try clear q23
             try clear q230
             try clear q231
             try clear q237
             try clear q5
             try clear q59
             obtain ⟨kq, x6_46, x7_46, x224000_46, x224001_46, x224002_46, rfl, rfl, HA, HJ46, HO_0, BK223, BK227, HB⟩ := hcut
             cases kq with
             | zero => exact absurd HA.out (by simp [spec_Read.j6])
             | succ kj46 =>
               have H := HA.out
               clear HA
               simp only [spec_Read.j6] at H
               by_cases c63 : x7_46 > (wrap64 ((l0.length : Int) - x6_46))
               ·rw [if_pos c63] at H
                have c63b0 : decide ((wrap64 ((l0.length : Int) - x6_46)) < x7_46) = true := decide_eq_true c63
                clear c63
                simp only [Option.some.injEq, Prod.mk.injEq] at H
                obtain ⟨rfl, rfl, rfl, rfl, rfl, rfl, rfl⟩ := H
                have hnb64 := NB223_227.out
                have hnc64 := NB227_223.out
                have hcz65_0 : wc.cell? ⟨gb223, 0, none⟩ = some (.int .i64 x224000_46) := (blk_cell BK223.out 0).trans rfl
                have hcz65_1 : wc.cell? ⟨gb223, 1, none⟩ = some (.int .i64 x224001_46) := (blk_cell BK223.out 1).trans rfl
                have hcz65_2 : wc.cell? ⟨gb223, 2, none⟩ = some (.bool x224002_46) := (blk_cell BK223.out 2).trans rfl
                have hcz65_3 : wc.cell? ⟨gb223, 3, none⟩ = some (.slice none 0 0) := (blk_cell BK223.out 3).trans rfl
                have hcz65_4 : wc.cell? ⟨gb223, 4, none⟩ = some (.slice none 0 0) := (blk_cell BK223.out 4).trans rfl
                have hfz65_0 := blk_frozen BK223.out 0
                have hfz65_1 := blk_frozen BK223.out 1
                have hfz65_2 := blk_frozen BK223.out 2
                have hfz65_3 := blk_frozen BK223.out 3
                have hfz65_4 := blk_frozen BK223.out 4
                go_wp2
                refine bodyPost_ret (results_ctt rfl _ _ gb223 29 #[.int .i64 0, .int .i64 0, .bool false, .slice none 0 0, .slice none 0 0] (0, 0) _ rfl (by (with_reducible repeat (first | refine blk_drew ?_ | refine blk_alloc ?_ _)); refine blk_put (cs := #[.int .i64 0, .int .i64 0, .bool false, .slice none 0 0, .slice none 0 0]) ?_ 4 _ rfl; (with_reducible repeat (first | refine blk_drew ?_ | refine blk_alloc ?_ _)); refine blk_put (cs := #[.int .i64 0, .int .i64 0, .bool false, .slice none 0 0, .slice none 0 0]) ?_ 3 _ rfl; (with_reducible repeat (first | refine blk_drew ?_ | refine blk_alloc ?_ _)); refine blk_put (cs := #[.int .i64 0, .int .i64 0, .bool x224002_46, .slice none 0 0, .slice none 0 0]) ?_ 2 _ rfl; (with_reducible repeat (first | refine blk_drew ?_ | refine blk_alloc ?_ _)); refine blk_put (cs := #[.int .i64 0, .int .i64 x224001_46, .bool x224002_46, .slice none 0 0, .slice none 0 0]) ?_ 1 _ rfl; (with_reducible repeat (first | refine blk_drew ?_ | refine blk_alloc ?_ _)); refine blk_put (cs := #[.int .i64 x224000_46, .int .i64 x224001_46, .bool x224002_46, .slice none 0 0, .slice none 0 0]) ?_ 0 _ rfl; (with_reducible repeat (first | refine blk_drew ?_ | refine blk_alloc ?_ _)); exact BK223.out) Tryd.underlying29 rfl (by kernel_rfl)) rfl ?_
                exact ⟨_, _, by first | rfl | (simp <;> rfl) | (simp [*] <;> rfl), by first | exact Kd.R_nil _ _ _ _ _, by first | exact Kd.R_nil _ _ _ _ _, by repeat (first | (with_reducible first | exact HB.out | apply below_alloc | apply pw_below_drewN | apply below_drew1 | refine below_set ?_ GE223.out | refine below_set ?_ GE227.out) | exact HB.out)⟩
               ·rw [if_neg c63] at H
                have c63b0 : decide ((wrap64 ((l0.length : Int) - x6_46)) < x7_46) = false := decide_eq_false c63
                clear c63
                by_cases c66 : 0 ≤ x6_46
                ·rw [if_pos c66] at H
                 have c66b0 := eq_true c66
                 have c66b1 : decide (0 ≤ x6_46) = true := decide_eq_true c66
                 clear c66
                 by_cases c67 : x6_46 ≤ (wrap64 (x6_46 + x7_46))
                 ·rw [if_pos c67] at H
                  have c67b0 := eq_true c67
                  have c67b1 : decide (x6_46 ≤ (wrap64 (x6_46 + x7_46))) = true := decide_eq_true c67
                  by_cases c68 : (wrap64 (x6_46 + x7_46)) ≤ (l0.length : Int)
                  ·rw [if_pos c68] at H
                   have c68b0 := eq_true c68
                   have c68b1 : decide ((wrap64 (x6_46 + x7_46)) ≤ (l0.length : Int)) = true := decide_eq_true c68
                   obtain ⟨y238, hy238⟩ : ∃ y_ : List Int, y_ = ((l0.take ((wrap64 (x6_46 + x7_46)) : Int).toNat).drop (x6_46 : Int).toNat) := ⟨_, rfl⟩
                   replace H : (if ((Go.bits .and .u8 (rd l0 0) 32) != 0) = true then (spec_Read.l2 kj46 (wrap64 (x6_46 + x7_46)) y238 (wrap64 ((rd l0 0) / 64)) x228001_5 ((Go.bits .and .u8 (rd l0 0) 32) != 0) ([] : List (S29))) else ((some (([] : List Int) : List Int)).bind fun y243 => (if y243.length + y238.length < 140737488355328 then (some ((wrap64 ((rd l0 0) / 64)), x228001_5, ((Go.bits .and .u8 (rd l0 0) 32) != 0), (y243 ++ y238), ([] : List (S29)), wrap64 (x6_46 + x7_46), true)) else (none)))) = some (r1, r2, r3, r4, r5, r6, r7) := by first | (rw [hy238]; with_reducible exact H) | (have H2_ := (Option.bind_some _ _).symm.trans H; rw [hy238]; with_reducible exact H2_) | (have H2_ := (Option.bind_some _ _).symm.trans H; with_reducible exact H2_) | with_reducible exact H | (rw [hy238]; exact H) | exact H
                   have Ny238 := Aside0.mk hy238
                   clear hy238
                   by_cases c69 : ((Go.bits .and .u8 (rd l0 0) 32) != 0) = true
                   ·rw [if_pos c69] at H
                    have c69b0 : ((Go.bits .and .u8 (rd l0 0) 32) != 0) = true := c69
                    (try (have c69b1 : decide ((Go.bits .and .u8 (rd l0 0) 32) = 0) = false := by simpa using c69))
                    (try (have c69b2 : ((Go.bits .and .u8 (rd l0 0) 32) == 0) = false := by simpa using c69))
                    (try (have c69b3 : ¬ ((Go.bits .and .u8 (rd l0 0) 32) = 0) := by simpa using c69))
                    clear c69
                    have H' := Aside0.mk H
                    clear H
                    have q70 : ((wrap64 (x6_46 + x7_46)) : Int) ≤ ((l0.length : Int) : Int) := of_decide_eq_true (by first | (with_reducible assumption) | assumption)
                    obtain ⟨i070, hi070, _, hsz70, _⟩ := info_parts info5
                    have hroom70 : l0.length ≤ c0 := (Kd.V_reads' HO_0.out).2.1
                    have hC70 : Kd.F (Kd.int .u8) _ _ (some ad224) l0.length l0 := (Kd.V_at (base := w.heap.size) HO_0.out).2.2
                    have ql70 : (x6_46 : Int) ≤ ((wrap64 (x6_46 + x7_46)) : Int) := of_decide_eq_true (by first | (with_reducible assumption) | assumption)
                    have q070 : (0 : Int) ≤ (x6_46 : Int) := of_decide_eq_true (by first | (with_reducible assumption) | assumption)
                    have hcut70 := cut_mid (P := Tryd.prog) 22 5 .i64 .i64 Tryd.underlying22 hi070 1 hsz70 (some ad224) l0.length c0 x6_46 (wrap64 (x6_46 + x7_46)) q070 ql70 q70 hroom70
                    have hr70 := Kd.F_mid (lo := (x6_46 : Int).toNat) (hi := ((wrap64 (x6_46 + x7_46)) : Int).toNat) (c := c0) hC70 (by omega) (by omega) hroom70
                    obtain ⟨A70, hA70⟩ : ∃ A1, A1 = (if c0 = (x6_46 : Int).toNat then (some ad224) else ((some ad224) : Option Addr).map (·.add ((x6_46 : Int).toNat * 1))) := ⟨_, rfl⟩
                    obtain ⟨c70, hc70⟩ : ∃ c1, c1 = c0 - (x6_46 : Int).toNat := ⟨_, rfl⟩
                    have hy70 : y238.length = ((wrap64 (x6_46 + x7_46)) : Int).toNat - (x6_46 : Int).toNat := (by rw [Ny238.out, List.length_drop, List.length_take] <;> omega)
                    rw [show ((l0).take ((wrap64 (x6_46 + x7_46)) : Int).toNat).drop (x6_46 : Int).toNat = y238 from Ny238.out.symm] at hr70
                    replace hr70 : Kd.F (Kd.int .u8) _ _ A70 y238.length y238 := (by rw [hA70]; exact hr70)
                    rw [← hy70, ← hA70, ← hc70] at hcut70
                    have HO242 := Aside0.mk (show Kd.V (Kd.int .u8) 5 _ w.heap.size _ (.slice A70 y238.length c70) y238 from Kd.V_mk (by rw [hy70, hc70]; exact Nat.sub_le_sub_right (Nat.le_trans (by omega) hroom70) _) hr70)
                    have HC242 := Aside0.mk (show y238.length ≤ c70 from by rw [hy70, hc70]; exact Nat.sub_le_sub_right (Nat.le_trans (by omega) hroom70) _)
                    clear hr70 hC70 hroom70 hi070 hsz70 hc70
                    have KY70 := Aside0.mk hy70
                    have KA70 := Aside0.mk hA70
                    clear hy70 hA70
                    replace q70 := eq_true q70
                    have hnb71 := NB227_223.out
                    have hnc71 := NB223_227.out
                    have hcz72_0 : wc.cell? ⟨gb227, 0, none⟩ = some (.int .i64 (wrap64 ((rd l0 0) / 64))) := (blk_cell BK227.out 0).trans rfl
                    have hcz72_1 : wc.cell? ⟨gb227, 1, none⟩ = some (.int .i64 x228001_5) := (blk_cell BK227.out 1).trans rfl
                    have hcz72_2 : wc.cell? ⟨gb227, 2, none⟩ = some (.bool ((Go.bits .and .u8 (rd l0 0) 32) != 0)) := (blk_cell BK227.out 2).trans rfl
                    have hcz72_3 : wc.cell? ⟨gb227, 3, none⟩ = some (.slice none 0 0) := (blk_cell BK227.out 3).trans rfl
                    have hcz72_4 : wc.cell? ⟨gb227, 4, none⟩ = some (.slice none 0 0) := (blk_cell BK227.out 4).trans rfl
                    have hfz72_0 := blk_frozen BK227.out 0
                    have hfz72_1 := blk_frozen BK227.out 1
                    have hfz72_2 := blk_frozen BK227.out 2
                    have hfz72_3 := blk_frozen BK227.out 3
                    have hfz72_4 := blk_frozen BK227.out 4
                    go_wp2
                    go_loopg [11] kj46 (fun kq v11 w' => ∃ (x11_3 : List Int) (x224000_3 : Int) (x224001_3 : Int) (x224002_3 : Bool) (x228004_3 : List (S29)) (u228004 : Value), Aside0 (spec_Read.l2 kq (wrap64 (x6_46 + x7_46)) x11_3 (wrap64 ((rd l0 0) / 64)) x228001_5 ((Go.bits .and .u8 (rd l0 0) 32) != 0) x228004_3 = some (r1, r2, r3, r4, r5, r6, r7)) ∧ Aside0 (kq ≤ kj46) ∧ Aside0 (Kd.V (Kd.int .u8) 5 w' w.heap.size (fun k_ => (P0_ k_ ∨ w.heap.size ≤ k_) ∧ some k_ ≠ (u228004 : Value).ownBlock ∧ k_ ≠ gb223 ∧ k_ ≠ gb227) v11 x11_3) ∧ Aside0 (Kd.R k29 29 w' w.heap.size (fun k_ => (w.heap.size ≤ k_) ∧ k_ ≠ gb223 ∧ k_ ≠ gb227) u228004 x228004_3) ∧ Aside0 (w'.heap[gb223]? = some (.cells #[.int .i64 x224000_3, .int .i64 x224001_3, .bool x224002_3, (.slice none 0 0), (.slice none 0 0)] 29 (0, 0))) ∧ Aside0 (w'.heap[gb227]? = some (.cells #[.int .i64 (wrap64 ((rd l0 0) / 64)), .int .i64 x228001_5, .bool ((Go.bits .and .u8 (rd l0 0) 32) != 0), (.slice none 0 0), u228004] 29 (0, 0))) ∧ Aside0 (Below w.heap.size w w'))
                    case atStart => exact ⟨(y238), (x224000_46), (x224001_46), (x224002_46), (([] : List (S29))), (.slice none 0 0), H', ⟨Nat.le_refl _⟩, ⟨by (with_reducible repeat (first | apply Kd.V_drew)); exact Kd.V_mono HO242.out (fun _ hk => ⟨hk.1, ⟨(by simp [Value.ownBlock]), ⟨hk.2.1, hk.2.2⟩⟩⟩)⟩, ⟨by first | exact Kd.R_nil _ _ _ _ _⟩, ⟨by (with_reducible repeat (first | refine blk_drew ?_ | refine blk_alloc ?_ _)); exact BK223.out⟩, ⟨by (with_reducible repeat (first | refine blk_drew ?_ | refine blk_alloc ?_ _)); exact BK227.out⟩, ⟨by repeat (first | (with_reducible first | exact HB.out | apply below_alloc | apply pw_below_drewN | apply below_drew1 | refine below_set ?_ GE223.out | refine below_set ?_ GE227.out) | exact HB.out)⟩⟩
                    case round =>
                      clear H'
                      try clear c1
                      try clear c2
                      try clear c2b0
                      try clear c2b1
                      try clear p2
                      try clear q2
                      try clear hx2
                      try clear qi2
                      try clear c3
                      try clear c4
                      try clear c5
                      try clear c5b0
                      try clear c5b1
                      try clear q5
                      try clear c6
                      try clear p6
                      try clear c7
                      try clear q7
                      try clear c15
                      try clear c17
                      try clear c17b0
                      try clear c17b1
                      try clear c19
                      try clear c21
                      try clear c21b0
                      try clear c21b1
                      try clear c22
                      try clear p22
                      try clear q22
                      try clear hx22
                      try clear qi22
                      try clear c23
                      try clear p23
                      try clear q23
                      try clear hx23
                      try clear c26
                      try clear c26b0
                      try clear c27
                      try clear c29
                      try clear c30
                      try clear c32
                      try clear c32b0
                      try clear c33
                      try clear c33b0
                      try clear c35
                      try clear c35b0
                      try clear c36
                      try clear c36b0
                      try clear c37
                      try clear c37b0
                      try clear c37b1
                      try clear c42
                      try clear c42b0
                      try clear c43
                      try clear c45
                      try clear c45b0
                      try clear c46
                      try clear c46b0
                      try clear c48
                      try clear c48b0
                      try clear c50
                      try clear c50b0
                      try clear c50b1
                      try clear c51
                      try clear c51b0
                      try clear c52
                      try clear c53
                      try clear c56
                      try clear c56b0
                      try clear c56b1
                      try clear c57
                      try clear c57b0
                      try clear c57b1
                      try clear c58
                      try clear c58b0
                      try clear c58b1
                      try clear c59
                      try clear q59
                      try clear c60
                      try clear c60b0
                      try clear c61
                      try clear c61b0
                      try clear c62
                      try clear c62b0
                      try clear c63
                      try clear c63b0
                      try clear c64
                      try clear p64
                      try clear c66
                      try clear c66b0
                      try clear c66b1
                      try clear c67
                      try clear c67b0
                      try clear c67b1
                      try clear c68
                      try clear c68b0
                      try clear c68b1
                      try clear c69
                      try clear c69b0
                      try clear c69b1
                      try clear c69b2
                      try clear c70
                      try clear q70
                      try clear c71
                      try clear hcz16_0
                      try clear hcz16_1
                      try clear hcz16_2
                      try clear hcz16_3
                      try clear hcz16_4
                      try clear hcz20_0
                      try clear hcz20_1
                      try clear hcz20_2
                      try clear hcz20_3
                      try clear hcz20_4
                      try clear hcz24_0
                      try clear hcz24_1
                      try clear hcz24_2
                      try clear hcz24_3
                      try clear hcz24_4
                      try clear hcz28_0
                      try clear hcz28_1
                      try clear hcz28_2
                      try clear hcz28_3
                      try clear hcz28_4
                      try clear hcz31_0
                      try clear hcz31_1
                      try clear hcz31_2
                      try clear hcz31_3
                      try clear hcz31_4
                      try clear hcz44_0
                      try clear hcz44_1
                      try clear hcz44_2
                      try clear hcz44_3
                      try clear hcz44_4
                      try clear hcz4_0
                      try clear hcz4_1
                      try clear hcz4_2
                      try clear hcz4_3
                      try clear hcz4_4
                      try clear hcz54_0
                      try clear hcz54_1
                      try clear hcz54_2
                      try clear hcz54_3
                      try clear hcz54_4
                      try clear hcz65_0
                      try clear hcz65_1
                      try clear hcz65_2
                      try clear hcz65_3
                      try clear hcz65_4
                      try clear hcz72_0
                      try clear hcz72_1
                      try clear hcz72_2
                      try clear hcz72_3
                      try clear hcz72_4
                      try clear hfz16_0
                      try clear hfz16_1
                      try clear hfz16_2
                      try clear hfz16_3
                      try clear hfz16_4
                      try clear hfz20_0
                      try clear hfz20_1
                      try clear hfz20_2
                      try clear hfz20_3
                      try clear hfz20_4
                      try clear hfz24_0
                      try clear hfz24_1
                      try clear hfz24_2
                      try clear hfz24_3
                      try clear hfz24_4
                      try clear hfz28_0
                      try clear hfz28_1
                      try clear hfz28_2
                      try clear hfz28_3
                      try clear hfz28_4
                      try clear hfz31_0
                      try clear hfz31_1
                      try clear hfz31_2
                      try clear hfz31_3
                      try clear hfz31_4
                      try clear hfz44_0
                      try clear hfz44_1
                      try clear hfz44_2
                      try clear hfz44_3
                      try clear hfz44_4
                      try clear hfz4_0
                      try clear hfz4_1
                      try clear hfz4_2
                      try clear hfz4_3
                      try clear hfz4_4
                      try clear hfz54_0
                      try clear hfz54_1
                      try clear hfz54_2
                      try clear hfz54_3
                      try clear hfz54_4
                      try clear hfz65_0
                      try clear hfz65_1
                      try clear hfz65_2
                      try clear hfz65_3
                      try clear hfz65_4
                      try clear hfz72_0
                      try clear hfz72_1
                      try clear hfz72_2
                      try clear hfz72_3
                      try clear hfz72_4
                      try clear hx224_0
                      try clear hx225_0
                      try clear hx226_0
                      try clear hx228_0
                      try clear hx229_0
                      try clear hx230_0
                      try clear hx231_0
                      try clear hx237_0
                      try clear p2
                      try clear p22
                      try clear p224
                      try clear p225
                      try clear p226
                      try clear p228
                      try clear p229
                      try clear p23
                      try clear p230
                      try clear p231
                      try clear p237
                      try clear p6
                      try clear q059
                      try clear q070
                      try clear q2
                      try clear q22
                      try clear q224
                      try clear q225
                      try clear q226
                      try clear q228
                      try clear q229
                      try clear q23
                      try clear q230
                      try clear q231
                      try clear q237
                      try clear q5
                      try clear q59
                      try clear q70
                      obtain ⟨x11_3, x224000_3, x224001_3, x224002_3, x228004_3, u228004, HA, HK3, HO_11, HO_228004, BK223, BK227, HB⟩ := hrel
                      cases gk with
                      | zero => exact absurd HA.out (by simp [spec_Read.l2])
                      | succ k3 =>
                        have H := HA.out
                        clear HA
                        simp only [spec_Read.l2] at H
                        by_cases c73 : (x11_3.length : Int) > 0
                        ·rw [if_pos c73] at H
                         have c73b0 : decide (0 < (x11_3.length : Int)) = true := decide_eq_true c73
                         have c73b1 : decide (0 < x11_3.length) = true := decide_eq_true (by omega)
                         clear c73
                         replace H := Option.bind_eq_some_iff.mp H
                         obtain ⟨⟨t249, t250, t251, t252, t255, t258, t259⟩, A740, H⟩ := H
                         replace H : (if t259 = true then (if x228004_3.length < 1954687338268 then (if 0 ≤ t258 then (if t258 ≤ (x11_3.length : Int) then (spec_Read.l2 k3 (wrap64 (x6_46 + x7_46)) (x11_3.drop (t258 : Int).toNat) (wrap64 ((rd l0 0) / 64)) x228001_5 ((Go.bits .and .u8 (rd l0 0) 32) != 0) (x228004_3 ++ [(⟨t249, t250, t251, t252, t255⟩ : S29)])) else (none)) else (none)) else (none)) else (some (0, 0, false, ([] : List Int), ([] : List (S29)), 0, false))) = some (r1, r2, r3, r4, r5, r6, r7) := H
                         have A74 := Aside0.mk A740
                         clear A740
                         by_cases c75 : t259 = true
                         ·subst c75
                          have H1 : (if x228004_3.length < 1954687338268 then (if 0 ≤ t258 then (if t258 ≤ (x11_3.length : Int) then (spec_Read.l2 k3 (wrap64 (x6_46 + x7_46)) (x11_3.drop (t258 : Int).toNat) (wrap64 ((rd l0 0) / 64)) x228001_5 ((Go.bits .and .u8 (rd l0 0) 32) != 0) (x228004_3 ++ [(⟨t249, t250, t251, t252, t255⟩ : S29)])) else (none)) else (none)) else (none)) = some (r1, r2, r3, r4, r5, r6, r7) := by rw [if_pos rfl] at H; exact H
                          clear H
                          have H := H1
                          clear H1
                          by_cases c76 : x228004_3.length < 1954687338268
                          ·rw [if_pos c76] at H
                           have LMc76 := Aside0.mk c76
                           clear c76
                           obtain ⟨y261, hy261⟩ : ∃ y_ : List (S29), y_ = (x228004_3 ++ [(⟨t249, t250, t251, t252, t255⟩ : S29)]) := ⟨_, rfl⟩
                           replace H : (if 0 ≤ t258 then (if t258 ≤ (x11_3.length : Int) then (spec_Read.l2 k3 (wrap64 (x6_46 + x7_46)) (x11_3.drop (t258 : Int).toNat) (wrap64 ((rd l0 0) / 64)) x228001_5 ((Go.bits .and .u8 (rd l0 0) 32) != 0) y261) else (none)) else (none)) = some (r1, r2, r3, r4, r5, r6, r7) := by first | (rw [hy261]; with_reducible exact H) | (have H2_ := (Option.bind_some _ _).symm.trans H; rw [hy261]; with_reducible exact H2_) | (have H2_ := (Option.bind_some _ _).symm.trans H; with_reducible exact H2_) | with_reducible exact H | (rw [hy261]; exact H) | exact H
                           have Ny261 := Aside0.mk hy261
                           clear hy261
                           by_cases c77 : 0 ≤ t258
                           ·rw [if_pos c77] at H
                            have c77b0 := eq_true c77
                            have c77b1 : decide (0 ≤ t258) = true := decide_eq_true c77
                            clear c77
                            by_cases c78 : t258 ≤ (x11_3.length : Int)
                            ·rw [if_pos c78] at H
                             have c78b0 := eq_true c78
                             have c78b1 : decide (t258 ≤ (x11_3.length : Int)) = true := decide_eq_true c78
                             clear c78
                             obtain ⟨y264, hy264⟩ : ∃ y_ : List Int, y_ = (x11_3.drop (t258 : Int).toNat) := ⟨_, rfl⟩
                             replace H : (spec_Read.l2 k3 (wrap64 (x6_46 + x7_46)) y264 (wrap64 ((rd l0 0) / 64)) x228001_5 ((Go.bits .and .u8 (rd l0 0) 32) != 0) y261) = some (r1, r2, r3, r4, r5, r6, r7) := by first | (rw [hy264]; with_reducible exact H) | (have H2_ := (Option.bind_some _ _).symm.trans H; rw [hy264]; with_reducible exact H2_) | (have H2_ := (Option.bind_some _ _).symm.trans H; with_reducible exact H2_) | with_reducible exact H | (rw [hy264]; exact H) | exact H
                             have Ny264 := Aside0.mk hy264
                             clear hy264
                             have H' := Aside0.mk H
                             clear H
                             obtain ⟨Ao79, co79, eo79⟩ := Kd.V_slice HO_11.out
                             subst eo79
                             go_wp2_with (first | ((with_reducible refine gate_callee (f := 15) rfl ?_); refine goesL_ (some 163) rfl rfl Tryd.func15 (by kernel_rfl) rfl #[.slice Ao79 x11_3.length co79] rfl (by (try simp only [List.map_toArray, List.map_cons, List.map_nil]); first | done | rfl | (simp only [List.length_drop, List.length_take]; rfl)) ?_; (with_reducible refine (ih k3 (by have := HJ5.out; have := HJ46.out; have := HK3.out; omega) (fun k_ => ((P0_ k_ ∨ w.heap.size ≤ k_) ∧ (some k_ ≠ (u228004 : Value).ownBlock ∧ (k_ ≠ gb223 ∧ k_ ≠ gb227)))) _ _ x11_3 t249 t250 t251 t252 t255 t258 true _ ?side1 A74.out).mono ?_); (case side1 => exact HO_11.out); rintro e w80 ⟨v253, v256, rfl, ho0, ho1, hb⟩; refine ⟨_, rfl, ?_⟩; have n0_ := Aside0.mk (Kd.V_mono (Kd.V_told (Kd.V_told (Kd.V_old (by (with_reducible repeat (first | apply Kd.V_drew)); exact HO_11.out) hb) (Kd.R_base ho0)) (Kd.R_base ho1)) (fun _ h_ => h_.1)); have n1_ := Aside0.mk (Kd.R_mono (Kd.R_told (Kd.R_told (Kd.R_old (by (with_reducible repeat (first | apply Kd.R_drewN)); exact HO_228004.out) hb) (Kd.R_base ho0)) (Kd.R_base ho1)) (fun _ h_ => h_.1)); have n2_ := Aside0.mk (Kd.R_lower (Kd.R_newM (M := fun k_ => (w.heap.size ≤ k_)) (Kd.R_mono (ok' := fun k_ => True) ho0 (fun _ hk_ => trivial)) (below_size (by repeat (first | (with_reducible first | exact HB.out | apply below_alloc | apply pw_below_drewN | apply below_drew1 | refine below_set ?_ GE223.out | refine below_set ?_ GE227.out) | exact HB.out))) (fun k_ h_ => h_)) (below_size (by repeat (first | (with_reducible first | exact HB.out | apply below_alloc | apply pw_below_drewN | apply below_drew1 | refine below_set ?_ GE223.out | refine below_set ?_ GE227.out) | exact HB.out)))); have n3_ := Aside0.mk (Kd.R_lower (Kd.R_newB (Kd.R_newB (Kd.R_new' (Kd.R_newM (M := fun k_ => (w.heap.size ≤ k_)) (Kd.R_mono (ok' := fun k_ => some k_ ≠ (v253 : Value).ownBlock) ho1 (fun _ hk_ => hk_.2)) (below_size (by repeat (first | (with_reducible first | exact HB.out | apply below_alloc | apply pw_below_drewN | apply below_drew1 | refine below_set ?_ GE223.out | refine below_set ?_ GE227.out) | exact HB.out))) (fun k_ h_ => h_)) (Kd.R_lt (by (with_reducible repeat (first | apply Kd.R_drewN)); exact HO_228004.out))) (g := gb223) (o := .cells #[.int .i64 x224000_3, .int .i64 x224001_3, .bool x224002_3, .slice none 0 0, .slice none 0 0] 29 (0, 0)) (by (with_reducible repeat (first | refine blk_drew ?_ | refine blk_alloc ?_ _)); exact BK223.out)) (g := gb227) (o := .cells #[.int .i64 (wrap64 ((rd l0 0) / 64)), .int .i64 x228001_5, .bool ((Go.bits .and .u8 (rd l0 0) 32) != 0), .slice none 0 0, u228004] 29 (0, 0)) (by (with_reducible repeat (first | refine blk_drew ?_ | refine blk_alloc ?_ _)); exact BK227.out)) (below_size (by repeat (first | (with_reducible first | exact HB.out | apply below_alloc | apply pw_below_drewN | apply below_drew1 | refine below_set ?_ GE223.out | refine below_set ?_ GE227.out) | exact HB.out)))); have n4_ := Aside0.mk (blk_below (g := gb223) (o := .cells #[.int .i64 x224000_3, .int .i64 x224001_3, .bool x224002_3, .slice none 0 0, .slice none 0 0] 29 (0, 0)) (by (with_reducible repeat (first | refine blk_drew ?_ | refine blk_alloc ?_ _)); exact BK223.out) hb); have n5_ := Aside0.mk (blk_below (g := gb227) (o := .cells #[.int .i64 (wrap64 ((rd l0 0) / 64)), .int .i64 x228001_5, .bool ((Go.bits .and .u8 (rd l0 0) 32) != 0), .slice none 0 0, u228004] 29 (0, 0)) (by (with_reducible repeat (first | refine blk_drew ?_ | refine blk_alloc ?_ _)); exact BK227.out) hb); have n6_ := Aside0.mk (below_step (by repeat (first | (with_reducible first | exact HB.out | apply below_alloc | apply pw_below_drewN | apply below_drew1 | refine below_set ?_ GE223.out | refine below_set ?_ GE227.out) | exact HB.out)) hb); clear HO_11; clear HO_228004; clear BK223; clear BK227; clear HB; have HO_11 := n0_; have HO_228004 := n1_; have HO254 := n2_; have HO257 := n3_; have BK223 := n4_; have BK227 := n5_; have HB := n6_; clear n0_ n1_ n2_ n3_ n4_ n5_ n6_; (try clear hb); (try clear hb2); (try clear hk); (try clear hi); (try clear ho0); (try clear ho1)) | ((with_reducible refine gate_dst (N := 12) rfl ?_); (try (refine gate_guard (by rfl) ?_; dsimp only)); refine box_event ?hg (N := 12) ?hd (cs := #[.int .i64 0, .int .i64 0, .bool false, .slice none 0 0, .slice none 0 0]) (t := 29) ?hr ?_; (case hd => rfl); (case hg => rfl); (case hr => first | (go_simp; done) | (go_simp; rfl)); intro gb260 hg w81 hbox hb; have n0_ := Aside0.mk (Kd.V_below (Kd.V_elderB (by (with_reducible repeat (first | apply Kd.V_drew)); exact HO_11.out) gb260 (Nat.le_of_eq hg.symm)) hb); have n1_ := Aside0.mk (Kd.R_below (Kd.R_elderB (by (with_reducible repeat (first | apply Kd.R_drewN)); exact HO_228004.out) gb260 (Nat.le_of_eq hg.symm)) hb); have n2_ := Aside0.mk (Kd.R_below (by (with_reducible repeat (first | apply Kd.R_drewN)); exact HO254.out) hb); have n3_ := Aside0.mk (Kd.R_below (Kd.R_elderB (by (with_reducible repeat (first | apply Kd.R_drewN)); exact HO257.out) gb260 (Nat.le_of_eq hg.symm)) hb); have n4_ := Aside0.mk (blk_below (g := gb223) (o := .cells #[.int .i64 x224000_3, .int .i64 x224001_3, .bool x224002_3, .slice none 0 0, .slice none 0 0] 29 (0, 0)) (by (with_reducible repeat (first | refine blk_drew ?_ | refine blk_alloc ?_ _)); exact BK223.out) hb); have n5_ := Aside0.mk (blk_below (g := gb227) (o := .cells #[.int .i64 (wrap64 ((rd l0 0) / 64)), .int .i64 x228001_5, .bool ((Go.bits .and .u8 (rd l0 0) 32) != 0), .slice none 0 0, u228004] 29 (0, 0)) (by (with_reducible repeat (first | refine blk_drew ?_ | refine blk_alloc ?_ _)); exact BK227.out) hb); have n6_ := Aside0.mk (below_step (by repeat (first | (with_reducible first | exact HB.out | apply below_alloc | apply pw_below_drewN | apply below_drew1 | refine below_set ?_ GE223.out | refine below_set ?_ GE227.out) | exact HB.out)) hb); have n7_ := Aside0.mk (hbox); have n8_ := Aside0.mk ((by rw [hg]; exact (below_size (by repeat (first | (with_reducible first | exact HB.out | apply below_alloc | apply pw_below_drewN | apply below_drew1 | refine below_set ?_ GE223.out | refine below_set ?_ GE227.out) | exact HB.out))) : w.heap.size ≤ gb260)); have n9_ := Aside0.mk ((by rw [hg]; exact (below_size (by repeat (first | (with_reducible first | exact HB.out | apply below_alloc | apply pw_below_drewN | apply below_drew1 | refine below_set ?_ GE223.out | refine below_set ?_ GE227.out) | exact HB.out))) : w.heap.size ≤ gb260)); have n10_ := Aside0.mk ((by rw [hg]; exact Nat.ne_of_lt (blk_lt (g := gb223) (o := .cells #[.int .i64 x224000_3, .int .i64 x224001_3, .bool x224002_3, .slice none 0 0, .slice none 0 0] 29 (0, 0)) (by (with_reducible repeat (first | refine blk_drew ?_ | refine blk_alloc ?_ _)); exact BK223.out)) : gb223 ≠ gb260)); have n11_ := Aside0.mk ((by rw [hg]; exact Nat.ne_of_gt (blk_lt (g := gb223) (o := .cells #[.int .i64 x224000_3, .int .i64 x224001_3, .bool x224002_3, .slice none 0 0, .slice none 0 0] 29 (0, 0)) (by (with_reducible repeat (first | refine blk_drew ?_ | refine blk_alloc ?_ _)); exact BK223.out)) : gb260 ≠ gb223)); have n12_ := Aside0.mk ((by rw [hg]; exact Nat.ne_of_lt (blk_lt (g := gb227) (o := .cells #[.int .i64 (wrap64 ((rd l0 0) / 64)), .int .i64 x228001_5, .bool ((Go.bits .and .u8 (rd l0 0) 32) != 0), .slice none 0 0, u228004] 29 (0, 0)) (by (with_reducible repeat (first | refine blk_drew ?_ | refine blk_alloc ?_ _)); exact BK227.out)) : gb227 ≠ gb260)); have n13_ := Aside0.mk ((by rw [hg]; exact Nat.ne_of_gt (blk_lt (g := gb227) (o := .cells #[.int .i64 (wrap64 ((rd l0 0) / 64)), .int .i64 x228001_5, .bool ((Go.bits .and .u8 (rd l0 0) 32) != 0), .slice none 0 0, u228004] 29 (0, 0)) (by (with_reducible repeat (first | refine blk_drew ?_ | refine blk_alloc ?_ _)); exact BK227.out)) : gb260 ≠ gb227)); clear HO_11; clear HO_228004; clear HO254; clear HO257; clear BK223; clear BK227; clear HB; have HO_11 := n0_; have HO_228004 := n1_; have HO254 := n2_; have HO257 := n3_; have BK223 := n4_; have BK227 := n5_; have HB := n6_; have BK260 := n7_; have GW260 := n8_; have GE260 := n9_; have NB223_260 := n10_; have NB260_223 := n11_; have NB227_260 := n12_; have NB260_227 := n13_; clear n0_ n1_ n2_ n3_ n4_ n5_ n6_ n7_ n8_ n9_ n10_ n11_ n12_ n13_; clear hb hbox hg; have hnb82 := NB260_223.out; have hnc82 := NB223_260.out; have hnb83 := NB260_227.out; have hnc83 := NB227_260.out; have hcz84_0 : w81.cell? ⟨gb260, 0, none⟩ = some (.int .i64 0) := (blk_cell BK260.out 0).trans rfl; have hcz84_1 : w81.cell? ⟨gb260, 1, none⟩ = some (.int .i64 0) := (blk_cell BK260.out 1).trans rfl; have hcz84_2 : w81.cell? ⟨gb260, 2, none⟩ = some (.bool false) := (blk_cell BK260.out 2).trans rfl; have hcz84_3 : w81.cell? ⟨gb260, 3, none⟩ = some (.slice none 0 0) := (blk_cell BK260.out 3).trans rfl; have hcz84_4 : w81.cell? ⟨gb260, 4, none⟩ = some (.slice none 0 0) := (blk_cell BK260.out 4).trans rfl; have hfz84_0 := blk_frozen BK260.out 0; have hfz84_1 := blk_frozen BK260.out 1; have hfz84_2 := blk_frozen BK260.out 2; have hfz84_3 := blk_frozen BK260.out 3; have hfz84_4 := blk_frozen BK260.out 4; obtain ⟨Ao85, co85, eo85⟩ := Kd.R_slice HO254.out; subst eo85; obtain ⟨Ao86, co86, eo86⟩ := Kd.R_slice HO257.out; subst eo86) | ((with_reducible refine gate_store (t := 29) (p := 12) rfl ?_); refine store_event (t := 29) (p := 12) (v := ?vo_w87) (w1 := (((((w81.setCell ⟨gb260, 0, none⟩ (.int .i64 t249)).setCell ⟨gb260, 1, none⟩ (.int .i64 t250)).setCell ⟨gb260, 2, none⟩ (.bool t251)).setCell ⟨gb260, 3, none⟩ (.slice Ao85 t252.length co85)).setCell ⟨gb260, 4, none⟩ (.slice Ao86 t255.length co86))) ?hg ?ho ?hn ?hr ?_; (case ho => rfl); (case hg => rfl); (case hn => rfl); (case hr => first | (go_simp; done) | (go_simp; rfl)); intro w87 hw; have n0_ : Aside0 (Kd.V (Kd.int .u8) 5 w87 w.heap.size (fun k_ => (P0_ k_ ∨ w.heap.size ≤ k_) ∧ some k_ ≠ (u228004 : Value).ownBlock ∧ some k_ ≠ (.slice Ao85 t252.length co85 : Value).ownBlock ∧ some k_ ≠ (.slice Ao86 t255.length co86 : Value).ownBlock ∧ k_ ≠ gb223 ∧ k_ ≠ gb227 ∧ k_ ≠ gb260) (.slice Ao79 x11_3.length co79) x11_3) := ⟨(by rw [hw]; exact (by (with_reducible repeat (first | apply Kd.V_drew)); exact Kd.V_mono (Kd.V_far (p := ⟨gb260, 4, none⟩) (Kd.V_far (p := ⟨gb260, 3, none⟩) (Kd.V_far (p := ⟨gb260, 2, none⟩) (Kd.V_far (p := ⟨gb260, 1, none⟩) (Kd.V_far (p := ⟨gb260, 0, none⟩) (Kd.V_mono HO_11.out (fun k_ hk => (⟨hk, hk.2⟩ : _ ∧ k_ ≠ gb260))) (fun _ hk => hk.2) (.int .i64 t249)) (fun _ hk => hk.2) (.int .i64 t250)) (fun _ hk => hk.2) (.bool t251)) (fun _ hk => hk.2) (.slice Ao85 t252.length co85)) (fun _ hk => hk.2) (.slice Ao86 t255.length co86)) (fun _ hk => ⟨hk.1.1.1.1.1, ⟨hk.1.1.1.1.2.1, ⟨hk.1.1.1.2, ⟨hk.1.1.2, ⟨hk.1.1.1.1.2.2.1, ⟨hk.1.1.1.1.2.2.2, hk.1.2⟩⟩⟩⟩⟩⟩)))⟩; have n1_ : Aside0 (Kd.R k29 29 w87 w.heap.size (fun k_ => (w.heap.size ≤ k_) ∧ some k_ ≠ (.slice Ao85 t252.length co85 : Value).ownBlock ∧ some k_ ≠ (.slice Ao86 t255.length co86 : Value).ownBlock ∧ k_ ≠ gb223 ∧ k_ ≠ gb227 ∧ k_ ≠ gb260) u228004 x228004_3) := ⟨(by rw [hw]; exact (by (with_reducible repeat (first | apply Kd.R_drewN)); exact Kd.R_mono (Kd.R_far (p := ⟨gb260, 4, none⟩) (Kd.R_far (p := ⟨gb260, 3, none⟩) (Kd.R_far (p := ⟨gb260, 2, none⟩) (Kd.R_far (p := ⟨gb260, 1, none⟩) (Kd.R_far (p := ⟨gb260, 0, none⟩) (Kd.R_mono HO_228004.out (fun k_ hk => (⟨hk, hk.2⟩ : _ ∧ k_ ≠ gb260))) (fun _ hk => hk.2) (.int .i64 t249)) (fun _ hk => hk.2) (.int .i64 t250)) (fun _ hk => hk.2) (.bool t251)) (fun _ hk => hk.2) (.slice Ao85 t252.length co85)) (fun _ hk => hk.2) (.slice Ao86 t255.length co86)) (fun _ hk => ⟨hk.1.1.1.1.1, ⟨hk.1.1.1.2, ⟨hk.1.1.2, ⟨hk.1.1.1.1.2.1, ⟨hk.1.1.1.1.2.2, hk.1.2⟩⟩⟩⟩⟩)))⟩; have n2_ : Aside0 (Kd.R (Kd.int .u8) 5 w87 w.heap.size (fun k_ => (w.heap.size ≤ k_)) (.slice Ao85 t252.length co85) t252) := ⟨(by rw [hw]; exact (by (with_reducible repeat (first | apply Kd.R_drewN)); exact Kd.R_mono (Kd.R_far (p := ⟨gb260, 4, none⟩) (Kd.R_far (p := ⟨gb260, 3, none⟩) (Kd.R_far (p := ⟨gb260, 2, none⟩) (Kd.R_far (p := ⟨gb260, 1, none⟩) (Kd.R_far (p := ⟨gb260, 0, none⟩) (Kd.R_types HO254.out BK260.out (by decide)) (fun _ hk => hk.2) (.int .i64 t249)) (fun _ hk => hk.2) (.int .i64 t250)) (fun _ hk => hk.2) (.bool t251)) (fun _ hk => hk.2) (.slice Ao85 t252.length co85)) (fun _ hk => hk.2) (.slice Ao86 t255.length co86)) (fun _ hk => hk.1.1)))⟩; have n3_ : Aside0 (Kd.R k29 29 w87 w.heap.size (fun k_ => (w.heap.size ≤ k_) ∧ some k_ ≠ (u228004 : Value).ownBlock ∧ some k_ ≠ (.slice Ao85 t252.length co85 : Value).ownBlock ∧ k_ ≠ gb223 ∧ k_ ≠ gb227 ∧ k_ ≠ gb260) (.slice Ao86 t255.length co86) t255) := ⟨(by rw [hw]; exact (by (with_reducible repeat (first | apply Kd.R_drewN)); exact Kd.R_mono (Kd.R_far (p := ⟨gb260, 4, none⟩) (Kd.R_far (p := ⟨gb260, 3, none⟩) (Kd.R_far (p := ⟨gb260, 2, none⟩) (Kd.R_far (p := ⟨gb260, 1, none⟩) (Kd.R_far (p := ⟨gb260, 0, none⟩) (Kd.R_mono HO257.out (fun k_ hk => (⟨hk, hk.2⟩ : _ ∧ k_ ≠ gb260))) (fun _ hk => hk.2) (.int .i64 t249)) (fun _ hk => hk.2) (.int .i64 t250)) (fun _ hk => hk.2) (.bool t251)) (fun _ hk => hk.2) (.slice Ao85 t252.length co85)) (fun _ hk => hk.2) (.slice Ao86 t255.length co86)) (fun _ hk => ⟨hk.1.1.1.1.1.1, ⟨hk.1.1.1.1.2, ⟨hk.1.1.1.1.1.2, ⟨hk.1.1.1.2, ⟨hk.1.1.2, hk.1.2⟩⟩⟩⟩⟩)))⟩; have n4_ : Aside0 (w87.heap[gb223]? = some (.cells #[.int .i64 x224000_3, .int .i64 x224001_3, .bool x224002_3, .slice none 0 0, .slice none 0 0] 29 (0, 0))) := ⟨(by rw [hw]; exact (by (with_reducible repeat (first | refine blk_drew ?_ | refine blk_alloc ?_ _)); refine blk_far ?_ NB223_260.out _; (with_reducible repeat (first | refine blk_drew ?_ | refine blk_alloc ?_ _)); refine blk_far ?_ NB223_260.out _; (with_reducible repeat (first | refine blk_drew ?_ | refine blk_alloc ?_ _)); refine blk_far ?_ NB223_260.out _; (with_reducible repeat (first | refine blk_drew ?_ | refine blk_alloc ?_ _)); refine blk_far ?_ NB223_260.out _; (with_reducible repeat (first | refine blk_drew ?_ | refine blk_alloc ?_ _)); refine blk_far ?_ NB223_260.out _; (with_reducible repeat (first | refine blk_drew ?_ | refine blk_alloc ?_ _)); exact BK223.out))⟩; have n5_ : Aside0 (w87.heap[gb227]? = some (.cells #[.int .i64 (wrap64 ((rd l0 0) / 64)), .int .i64 x228001_5, .bool ((Go.bits .and .u8 (rd l0 0) 32) != 0), .slice none 0 0, u228004] 29 (0, 0))) := ⟨(by rw [hw]; exact (by (with_reducible repeat (first | refine blk_drew ?_ | refine blk_alloc ?_ _)); refine blk_far ?_ NB227_260.out _; (with_reducible repeat (first | refine blk_drew ?_ | refine blk_alloc ?_ _)); refine blk_far ?_ NB227_260.out _; (with_reducible repeat (first | refine blk_drew ?_ | refine blk_alloc ?_ _)); refine blk_far ?_ NB227_260.out _; (with_reducible repeat (first | refine blk_drew ?_ | refine blk_alloc ?_ _)); refine blk_far ?_ NB227_260.out _; (with_reducible repeat (first | refine blk_drew ?_ | refine blk_alloc ?_ _)); refine blk_far ?_ NB227_260.out _; (with_reducible repeat (first | refine blk_drew ?_ | refine blk_alloc ?_ _)); exact BK227.out))⟩; have n6_ : Aside0 (w87.heap[gb260]? = some (.cells #[.int .i64 t249, .int .i64 t250, .bool t251, .slice Ao85 t252.length co85, .slice Ao86 t255.length co86] 29 (0, 0))) := ⟨(by rw [hw]; exact (by (with_reducible repeat (first | refine blk_drew ?_ | refine blk_alloc ?_ _)); refine blk_put (cs := #[.int .i64 t249, .int .i64 t250, .bool t251, .slice Ao85 t252.length co85, .slice none 0 0]) ?_ 4 _ rfl; (with_reducible repeat (first | refine blk_drew ?_ | refine blk_alloc ?_ _)); refine blk_put (cs := #[.int .i64 t249, .int .i64 t250, .bool t251, .slice none 0 0, .slice none 0 0]) ?_ 3 _ rfl; (with_reducible repeat (first | refine blk_drew ?_ | refine blk_alloc ?_ _)); refine blk_put (cs := #[.int .i64 t249, .int .i64 t250, .bool false, .slice none 0 0, .slice none 0 0]) ?_ 2 _ rfl; (with_reducible repeat (first | refine blk_drew ?_ | refine blk_alloc ?_ _)); refine blk_put (cs := #[.int .i64 t249, .int .i64 0, .bool false, .slice none 0 0, .slice none 0 0]) ?_ 1 _ rfl; (with_reducible repeat (first | refine blk_drew ?_ | refine blk_alloc ?_ _)); refine blk_put (cs := #[.int .i64 0, .int .i64 0, .bool false, .slice none 0 0, .slice none 0 0]) ?_ 0 _ rfl; (with_reducible repeat (first | refine blk_drew ?_ | refine blk_alloc ?_ _)); exact BK260.out))⟩; have n7_ : Aside0 (Below w.heap.size w w87) := ⟨(by rw [hw]; exact (by repeat (first | (with_reducible first | exact HB.out | apply below_alloc | apply pw_below_drewN | apply below_drew1 | refine below_set ?_ GE223.out | refine below_set ?_ GE227.out | refine below_set ?_ GE260.out) | exact HB.out)))⟩; clear hw; clear HO_11; clear HO_228004; clear HO254; clear HO257; clear BK223; clear BK227; clear BK260; clear HB; have HO_11 := n0_; have HO_228004 := n1_; have HO254 := n2_; have HO257 := n3_; have BK223 := n4_; have BK227 := n5_; have BK260 := n6_; have HB := n7_; clear n0_ n1_ n2_ n3_ n4_ n5_ n6_ n7_; have hnb88 := NB227_223.out; have hnc88 := NB223_227.out; have hcz89_0 : w87.cell? ⟨gb227, 0, none⟩ = some (.int .i64 (wrap64 ((rd l0 0) / 64))) := (blk_cell BK227.out 0).trans rfl; have hcz89_1 : w87.cell? ⟨gb227, 1, none⟩ = some (.int .i64 x228001_5) := (blk_cell BK227.out 1).trans rfl; have hcz89_2 : w87.cell? ⟨gb227, 2, none⟩ = some (.bool ((Go.bits .and .u8 (rd l0 0) 32) != 0)) := (blk_cell BK227.out 2).trans rfl; have hcz89_3 : w87.cell? ⟨gb227, 3, none⟩ = some (.slice none 0 0) := (blk_cell BK227.out 3).trans rfl; have hcz89_4 : w87.cell? ⟨gb227, 4, none⟩ = some (u228004) := (blk_cell BK227.out 4).trans rfl; have hfz89_0 := blk_frozen BK227.out 0; have hfz89_1 := blk_frozen BK227.out 1; have hfz89_2 := blk_frozen BK227.out 2; have hfz89_3 := blk_frozen BK227.out 3; have hfz89_4 := blk_frozen BK227.out 4; have hcz90_0 : w87.cell? ⟨gb260, 0, none⟩ = some (.int .i64 t249) := (blk_cell BK260.out 0).trans rfl; have hcz90_1 : w87.cell? ⟨gb260, 1, none⟩ = some (.int .i64 t250) := (blk_cell BK260.out 1).trans rfl; have hcz90_2 : w87.cell? ⟨gb260, 2, none⟩ = some (.bool t251) := (blk_cell BK260.out 2).trans rfl; have hcz90_3 : w87.cell? ⟨gb260, 3, none⟩ = some (.slice Ao85 t252.length co85) := (blk_cell BK260.out 3).trans rfl; have hcz90_4 : w87.cell? ⟨gb260, 4, none⟩ = some (.slice Ao86 t255.length co86) := (blk_cell BK260.out 4).trans rfl; have hfz90_0 := blk_frozen BK260.out 0; have hfz90_1 := blk_frozen BK260.out 1; have hfz90_2 := blk_frozen BK260.out 2; have hfz90_3 := blk_frozen BK260.out 3; have hfz90_4 := blk_frozen BK260.out 4) | ((with_reducible refine gate_builtin (b := .append) (xs := #[.tmp 171, .tmp 173]) rfl ?_); (try (refine gate_guard (by rfl) ?_; dsimp only)); at_builtin; refine Kd.R_append k29 (w0 := w) w.heap.size rfl (.tmp 171) (.tmp 173) 27 29 (.agg #[(.int .i64 0), (.int .i64 0), (.bool false), (.slice none 0 0), (.slice none 0 0)]) 72 rfl Tryd.underlying27 info29 rfl (by decide) (by omega) u228004 x228004_3 (⟨t249, t250, t251, t252, t255⟩ : S29) [.int .i64 t249, .int .i64 t250, .bool t251, .slice Ao85 t252.length co85, .slice Ao86 t255.length co86] (fun k_ => (w.heap.size ≤ k_) ∧ k_ ≠ gb223 ∧ k_ ≠ gb227 ∧ k_ ≠ gb260) (fun k_ => ((fun k_ => (w.heap.size ≤ k_) ∧ k_ ≠ gb223 ∧ k_ ≠ gb227 ∧ k_ ≠ gb260)) k_ ∧ some k_ ≠ (u228004 : Value).ownBlock) rfl rfl ?aP (fun _ hk => hk) ?aF ?aO ?aB ?aS ?aL ?_; (case aP => exact k29_mkM _ _ _ (⟨t249, t250, t251, t252, t255⟩ : S29) (Kd.R_mono (Kd.R_types (Kd.R_types (Kd.R_types (Kd.R_apart' (HO254.out) (Kd.R_typed HO_228004.out) (by decide)) BK223.out (by decide)) BK227.out (by decide)) BK260.out (by decide)) (fun k_ hk => ⟨⟨hk.1.1.1.1, ⟨hk.1.1.2, ⟨hk.1.2, hk.2⟩⟩⟩, hk.1.1.1.2⟩)) (Kd.R_mono (HO257.out) (fun k_ hk => ⟨⟨hk.1, ⟨hk.2.2.2.1, ⟨hk.2.2.2.2.1, hk.2.2.2.2.2⟩⟩⟩, hk.2.1⟩))); (case aB => exact (by repeat (first | (with_reducible first | exact HB.out | apply below_alloc | apply pw_below_drewN | apply below_drew1 | refine below_set ?_ GE223.out | refine below_set ?_ GE227.out | refine below_set ?_ GE260.out) | exact HB.out))); (case aF => exact (fun k_ hk => ⟨(Nat.le_trans (below_size (by repeat (first | (with_reducible first | exact HB.out | apply below_alloc | apply pw_below_drewN | apply below_drew1 | refine below_set ?_ GE223.out | refine below_set ?_ GE227.out | refine below_set ?_ GE260.out) | exact HB.out))) hk), Kd.freshB (g := gb223) (o := .cells #[.int .i64 x224000_3, .int .i64 x224001_3, .bool x224002_3, .slice none 0 0, .slice none 0 0] 29 (0, 0)) (by (with_reducible repeat (first | refine blk_drew ?_ | refine blk_alloc ?_ _)); exact BK223.out) k_ hk, Kd.freshB (g := gb227) (o := .cells #[.int .i64 (wrap64 ((rd l0 0) / 64)), .int .i64 x228001_5, .bool ((Go.bits .and .u8 (rd l0 0) 32) != 0), .slice none 0 0, u228004] 29 (0, 0)) (by (with_reducible repeat (first | refine blk_drew ?_ | refine blk_alloc ?_ _)); exact BK227.out) k_ hk, Kd.freshB (g := gb260) (o := .cells #[.int .i64 t249, .int .i64 t250, .bool t251, .slice Ao85 t252.length co85, .slice Ao86 t255.length co86] 29 (0, 0)) (by (with_reducible repeat (first | refine blk_drew ?_ | refine blk_alloc ?_ _)); exact BK260.out) k_ hk⟩)); (case aO => exact (by (with_reducible repeat (first | apply Kd.R_drewN)); exact Kd.R_mono HO_228004.out (fun _ hk => ⟨hk.1, ⟨hk.2.2.2.1, ⟨hk.2.2.2.2.1, hk.2.2.2.2.2⟩⟩⟩))); (case aS => exact (below_size (by repeat (first | (with_reducible first | exact HB.out | apply below_alloc | apply pw_below_drewN | apply below_drew1 | refine below_set ?_ GE223.out | refine below_set ?_ GE227.out | refine below_set ?_ GE260.out) | exact HB.out)))); (case aL => have := LMc76.out; omega); intro v262 w91 ho hb hg hat; rw [← Ny261.out] at ho; have n0_ := Aside0.mk (Kd.V_afterv (ok := (fun k_ => (P0_ k_ ∨ w.heap.size ≤ k_) ∧ some k_ ≠ (.slice Ao85 t252.length co85 : Value).ownBlock ∧ some k_ ≠ (.slice Ao86 t255.length co86 : Value).ownBlock ∧ k_ ≠ gb223 ∧ k_ ≠ gb227 ∧ k_ ≠ gb260)) (by (with_reducible repeat (first | apply Kd.V_drew)); exact Kd.V_mono HO_11.out (fun _ hk => ⟨⟨hk.1, ⟨hk.2.2.1, ⟨hk.2.2.2.1, ⟨hk.2.2.2.2.1, ⟨hk.2.2.2.2.2.1, hk.2.2.2.2.2.2⟩⟩⟩⟩⟩, hk.2.1⟩)) hg hat); have n1_ := Aside0.mk (blk_grown (g := gb223) (o := .cells #[.int .i64 x224000_3, .int .i64 x224001_3, .bool x224002_3, .slice none 0 0, .slice none 0 0] 29 (0, 0)) (by (with_reducible repeat (first | refine blk_drew ?_ | refine blk_alloc ?_ _)); exact BK223.out) hg (Kd.R_away HO_228004.out (fun _ hk => hk.2.2.2.1))); have n2_ := Aside0.mk (blk_grown (g := gb227) (o := .cells #[.int .i64 (wrap64 ((rd l0 0) / 64)), .int .i64 x228001_5, .bool ((Go.bits .and .u8 (rd l0 0) 32) != 0), .slice none 0 0, u228004] 29 (0, 0)) (by (with_reducible repeat (first | refine blk_drew ?_ | refine blk_alloc ?_ _)); exact BK227.out) hg (Kd.R_away HO_228004.out (fun _ hk => hk.2.2.2.2.1))); have n3_ := Aside0.mk (blk_grown (g := gb260) (o := .cells #[.int .i64 t249, .int .i64 t250, .bool t251, .slice Ao85 t252.length co85, .slice Ao86 t255.length co86] 29 (0, 0)) (by (with_reducible repeat (first | refine blk_drew ?_ | refine blk_alloc ?_ _)); exact BK260.out) hg (Kd.R_away HO_228004.out (fun _ hk => hk.2.2.2.2.2))); have n4_ := Aside0.mk (hb); have n5_ := Aside0.mk (ho); clear HO_11; clear BK223; clear BK227; clear BK260; clear HB; clear HO_228004; clear HO254; clear HO257; have HO_11 := n0_; have BK223 := n1_; have BK227 := n2_; have BK260 := n3_; have HB := n4_; have HO263 := n5_; clear n0_ n1_ n2_ n3_ n4_ n5_; clear ho hb hg hat; obtain ⟨Ao92, co92, eo92⟩ := Kd.R_slice HO263.out; subst eo92; have hcz93_0 : w91.cell? ⟨gb227, 0, none⟩ = some (.int .i64 (wrap64 ((rd l0 0) / 64))) := (blk_cell BK227.out 0).trans rfl; have hcz93_1 : w91.cell? ⟨gb227, 1, none⟩ = some (.int .i64 x228001_5) := (blk_cell BK227.out 1).trans rfl; have hcz93_2 : w91.cell? ⟨gb227, 2, none⟩ = some (.bool ((Go.bits .and .u8 (rd l0 0) 32) != 0)) := (blk_cell BK227.out 2).trans rfl; have hcz93_3 : w91.cell? ⟨gb227, 3, none⟩ = some (.slice none 0 0) := (blk_cell BK227.out 3).trans rfl; have hcz93_4 : w91.cell? ⟨gb227, 4, none⟩ = some (u228004) := (blk_cell BK227.out 4).trans rfl; have hfz93_0 := blk_frozen BK227.out 0; have hfz93_1 := blk_frozen BK227.out 1; have hfz93_2 := blk_frozen BK227.out 2; have hfz93_3 := blk_frozen BK227.out 3; have hfz93_4 := blk_frozen BK227.out 4) | ((with_reducible refine gate_store (t := 27) (p := 175) rfl ?_); refine store_event (t := 27) (p := 175) (v := ?vo_w94) (w1 := (w91.setCell ⟨gb227, 4, none⟩ (.slice Ao92 y261.length co92))) ?hg ?ho ?hn ?hr ?_; (case ho => rfl); (case hg => rfl); (case hn => rfl); (case hr => first | (go_simp; done) | (go_simp; rfl)); intro w94 hw; have n0_ : Aside0 (Kd.V (Kd.int .u8) 5 w94 w.heap.size (fun k_ => (P0_ k_ ∨ w.heap.size ≤ k_) ∧ some k_ ≠ (.slice Ao92 y261.length co92 : Value).ownBlock ∧ k_ ≠ gb223 ∧ k_ ≠ gb227 ∧ k_ ≠ gb260) (.slice Ao79 x11_3.length co79) x11_3) := ⟨(by rw [hw]; exact (by (with_reducible repeat (first | apply Kd.V_drew)); exact Kd.V_mono (Kd.V_far (p := ⟨gb227, 4, none⟩) (Kd.V_mono HO_11.out (fun k_ hk => (⟨hk, hk.1.2.2.2.2.1⟩ : _ ∧ k_ ≠ gb227))) (fun _ hk => hk.2) (.slice Ao92 y261.length co92)) (fun _ hk => ⟨hk.1.1.1, ⟨hk.1.2, ⟨hk.1.1.2.2.2.1, ⟨hk.1.1.2.2.2.2.1, hk.1.1.2.2.2.2.2⟩⟩⟩⟩)))⟩; have n1_ : Aside0 (Kd.R k29 29 w94 w.heap.size (fun k_ => (w.heap.size ≤ k_) ∧ k_ ≠ gb223 ∧ k_ ≠ gb227 ∧ k_ ≠ gb260) (.slice Ao92 y261.length co92) y261) := ⟨(by rw [hw]; exact (by (with_reducible repeat (first | apply Kd.R_drewN)); exact Kd.R_mono (Kd.R_far (p := ⟨gb227, 4, none⟩) (Kd.R_mono HO263.out (fun k_ hk => (⟨hk, hk.2.2.1⟩ : _ ∧ k_ ≠ gb227))) (fun _ hk => hk.2) (.slice Ao92 y261.length co92)) (fun _ hk => ⟨hk.1.1, ⟨hk.1.2.1, ⟨hk.1.2.2.1, hk.1.2.2.2⟩⟩⟩)))⟩; have n2_ : Aside0 (w94.heap[gb223]? = some (.cells #[.int .i64 x224000_3, .int .i64 x224001_3, .bool x224002_3, .slice none 0 0, .slice none 0 0] 29 (0, 0))) := ⟨(by rw [hw]; exact (by (with_reducible repeat (first | refine blk_drew ?_ | refine blk_alloc ?_ _)); refine blk_far ?_ NB223_227.out _; (with_reducible repeat (first | refine blk_drew ?_ | refine blk_alloc ?_ _)); exact BK223.out))⟩; have n3_ : Aside0 (w94.heap[gb227]? = some (.cells #[.int .i64 (wrap64 ((rd l0 0) / 64)), .int .i64 x228001_5, .bool ((Go.bits .and .u8 (rd l0 0) 32) != 0), .slice none 0 0, .slice Ao92 y261.length co92] 29 (0, 0))) := ⟨(by rw [hw]; exact (by (with_reducible repeat (first | refine blk_drew ?_ | refine blk_alloc ?_ _)); refine blk_put (cs := #[.int .i64 (wrap64 ((rd l0 0) / 64)), .int .i64 x228001_5, .bool ((Go.bits .and .u8 (rd l0 0) 32) != 0), .slice none 0 0, u228004]) ?_ 4 _ rfl; (with_reducible repeat (first | refine blk_drew ?_ | refine blk_alloc ?_ _)); exact BK227.out))⟩; have n4_ : Aside0 (w94.heap[gb260]? = some (.cells #[.int .i64 t249, .int .i64 t250, .bool t251, .slice Ao85 t252.length co85, .slice Ao86 t255.length co86] 29 (0, 0))) := ⟨(by rw [hw]; exact (by (with_reducible repeat (first | refine blk_drew ?_ | refine blk_alloc ?_ _)); refine blk_far ?_ NB260_227.out _; (with_reducible repeat (first | refine blk_drew ?_ | refine blk_alloc ?_ _)); exact BK260.out))⟩; have n5_ : Aside0 (Below w.heap.size w w94) := ⟨(by rw [hw]; exact (by repeat (first | (with_reducible first | exact HB.out | apply below_alloc | apply pw_below_drewN | apply below_drew1 | refine below_set ?_ GE223.out | refine below_set ?_ GE227.out | refine below_set ?_ GE260.out) | exact HB.out)))⟩; clear hw; clear HO_11; clear HO263; clear BK223; clear BK227; clear BK260; clear HB; have HO_11 := n0_; have HO263 := n1_; have BK223 := n2_; have BK227 := n3_; have BK260 := n4_; have HB := n5_; clear n0_ n1_ n2_ n3_ n4_ n5_; have q95 : (t258 : Int) ≤ ((x11_3.length : Int) : Int) := of_decide_eq_true (by first | (with_reducible assumption) | assumption); obtain ⟨i095, hi095, _, hsz95, _⟩ := info_parts info5; have hroom95 : x11_3.length ≤ co79 := (Kd.V_reads' HO_11.out).2.1; have hC95 : Kd.F (Kd.int .u8) _ _ Ao79 x11_3.length x11_3 := (Kd.V_at (base := w.heap.size) HO_11.out).2.2; have q095 : (0 : Int) ≤ (t258 : Int) := of_decide_eq_true (by first | (with_reducible assumption) | assumption); have hcut95 := cut_from (P := Tryd.prog) 22 5 .i64 Tryd.underlying22 hi095 1 hsz95 Ao79 x11_3.length co79 t258 q095 q95; have hr95 := Kd.F_cut (m := (t258 : Int).toNat) (c := co79) hC95 (by omega) hroom95; obtain ⟨A95, hA95⟩ : ∃ A1, A1 = (if co79 = (t258 : Int).toNat then Ao79 else (Ao79 : Option Addr).map (·.add ((t258 : Int).toNat * 1))) := ⟨_, rfl⟩; obtain ⟨c95, hc95⟩ : ∃ c1, c1 = co79 - (t258 : Int).toNat := ⟨_, rfl⟩; have hy95 : y264.length = x11_3.length - (t258 : Int).toNat := (by rw [Ny264.out, List.length_drop] <;> omega); rw [show (x11_3).drop (t258 : Int).toNat = y264 from Ny264.out.symm] at hr95; replace hr95 : Kd.F (Kd.int .u8) _ _ A95 y264.length y264 := (by rw [hA95]; exact hr95); rw [← hy95, ← hA95, ← hc95] at hcut95; have HO268 := Aside0.mk (show Kd.V (Kd.int .u8) 5 _ w.heap.size _ (.slice A95 y264.length c95) y264 from Kd.V_mk (by rw [hy95, hc95]; exact Nat.sub_le_sub_right hroom95 _) hr95); have HC268 := Aside0.mk (show y264.length ≤ c95 from by rw [hy95, hc95]; exact Nat.sub_le_sub_right hroom95 _); clear hr95 hC95 hroom95 hi095 hsz95 hc95; have KY95 := Aside0.mk hy95; have KA95 := Aside0.mk hA95; clear hy95 hA95; replace q95 := eq_true q95))
                             go_roundg k3
                             case measure => have := HJ5.out; have := HJ46.out; have := HK3.out; omega
                             case rel => exact ⟨(y264), (x224000_3), (x224001_3), (x224002_3), (y261), (.slice Ao92 y261.length co92), H', ⟨by have := HJ5.out; have := HJ46.out; have := HK3.out; omega⟩, ⟨by (with_reducible repeat (first | apply Kd.V_drew)); exact Kd.V_mono HO268.out (fun _ hk => ⟨hk.1, ⟨hk.2.1, ⟨hk.2.2.1, hk.2.2.2.1⟩⟩⟩)⟩, ⟨by (with_reducible repeat (first | apply Kd.R_drewN)); exact Kd.R_mono HO263.out (fun _ hk => ⟨hk.1, ⟨hk.2.1, hk.2.2.1⟩⟩)⟩, ⟨by (with_reducible repeat (first | refine blk_drew ?_ | refine blk_alloc ?_ _)); exact BK223.out⟩, ⟨by (with_reducible repeat (first | refine blk_drew ?_ | refine blk_alloc ?_ _)); exact BK227.out⟩, ⟨by repeat (first | (with_reducible first | exact HB.out | apply below_alloc | apply pw_below_drewN | apply below_drew1 | refine below_set ?_ GE223.out | refine below_set ?_ GE227.out | refine below_set ?_ GE260.out) | exact HB.out)⟩⟩
                            ·rw [if_neg c78] at H
                             exact absurd H (by simp)
                           ·rw [if_neg c77] at H
                            exact absurd H (by simp)
                          ·rw [if_neg c76] at H
                           exact absurd H (by simp)
                         ·replace c75 := Bool.eq_false_iff.mpr c75
                          subst c75
                          have H1 : (some (0, 0, false, ([] : List Int), ([] : List (S29)), 0, false)) = some (r1, r2, r3, r4, r5, r6, r7) := by rw [if_neg (show ¬ (false = true) by decide)] at H; exact H
                          clear H
                          have H := H1
                          clear H1
                          simp only [Option.some.injEq, Prod.mk.injEq] at H
                          obtain ⟨rfl, rfl, rfl, rfl, rfl, rfl, rfl⟩ := H
                          obtain ⟨Ao96, co96, eo96⟩ := Kd.V_slice HO_11.out
                          subst eo96
                          go_wp2_with (first | ((with_reducible refine gate_callee (f := 15) rfl ?_); refine goesL_ (some 163) rfl rfl Tryd.func15 (by kernel_rfl) rfl #[.slice Ao96 x11_3.length co96] rfl (by (try simp only [List.map_toArray, List.map_cons, List.map_nil]); first | done | rfl | (simp only [List.length_drop, List.length_take]; rfl)) ?_; (with_reducible refine (ih k3 (by have := HJ5.out; have := HJ46.out; have := HK3.out; omega) (fun k_ => ((P0_ k_ ∨ w.heap.size ≤ k_) ∧ (some k_ ≠ (u228004 : Value).ownBlock ∧ (k_ ≠ gb223 ∧ k_ ≠ gb227)))) _ _ x11_3 t249 t250 t251 t252 t255 t258 false _ ?side1 A74.out).mono ?_); (case side1 => exact HO_11.out); rintro e w97 ⟨v253, v256, rfl, ho0, ho1, hb⟩; refine ⟨_, rfl, ?_⟩; have n0_ := Aside0.mk (Kd.V_mono (Kd.V_told (Kd.V_told (Kd.V_old (by (with_reducible repeat (first | apply Kd.V_drew)); exact HO_11.out) hb) (Kd.R_base ho0)) (Kd.R_base ho1)) (fun _ h_ => h_.1)); have n1_ := Aside0.mk (Kd.R_mono (Kd.R_told (Kd.R_told (Kd.R_old (by (with_reducible repeat (first | apply Kd.R_drewN)); exact HO_228004.out) hb) (Kd.R_base ho0)) (Kd.R_base ho1)) (fun _ h_ => h_.1)); have n2_ := Aside0.mk (Kd.R_lower (Kd.R_newM (M := fun k_ => (w.heap.size ≤ k_)) (Kd.R_mono (ok' := fun k_ => True) ho0 (fun _ hk_ => trivial)) (below_size (by repeat (first | (with_reducible first | exact HB.out | apply below_alloc | apply pw_below_drewN | apply below_drew1 | refine below_set ?_ GE223.out | refine below_set ?_ GE227.out) | exact HB.out))) (fun k_ h_ => h_)) (below_size (by repeat (first | (with_reducible first | exact HB.out | apply below_alloc | apply pw_below_drewN | apply below_drew1 | refine below_set ?_ GE223.out | refine below_set ?_ GE227.out) | exact HB.out)))); have n3_ := Aside0.mk (Kd.R_lower (Kd.R_newB (Kd.R_newB (Kd.R_new' (Kd.R_newM (M := fun k_ => (w.heap.size ≤ k_)) (Kd.R_mono (ok' := fun k_ => some k_ ≠ (v253 : Value).ownBlock) ho1 (fun _ hk_ => hk_.2)) (below_size (by repeat (first | (with_reducible first | exact HB.out | apply below_alloc | apply pw_below_drewN | apply below_drew1 | refine below_set ?_ GE223.out | refine below_set ?_ GE227.out) | exact HB.out))) (fun k_ h_ => h_)) (Kd.R_lt (by (with_reducible repeat (first | apply Kd.R_drewN)); exact HO_228004.out))) (g := gb223) (o := .cells #[.int .i64 x224000_3, .int .i64 x224001_3, .bool x224002_3, .slice none 0 0, .slice none 0 0] 29 (0, 0)) (by (with_reducible repeat (first | refine blk_drew ?_ | refine blk_alloc ?_ _)); exact BK223.out)) (g := gb227) (o := .cells #[.int .i64 (wrap64 ((rd l0 0) / 64)), .int .i64 x228001_5, .bool ((Go.bits .and .u8 (rd l0 0) 32) != 0), .slice none 0 0, u228004] 29 (0, 0)) (by (with_reducible repeat (first | refine blk_drew ?_ | refine blk_alloc ?_ _)); exact BK227.out)) (below_size (by repeat (first | (with_reducible first | exact HB.out | apply below_alloc | apply pw_below_drewN | apply below_drew1 | refine below_set ?_ GE223.out | refine below_set ?_ GE227.out) | exact HB.out)))); have n4_ := Aside0.mk (blk_below (g := gb223) (o := .cells #[.int .i64 x224000_3, .int .i64 x224001_3, .bool x224002_3, .slice none 0 0, .slice none 0 0] 29 (0, 0)) (by (with_reducible repeat (first | refine blk_drew ?_ | refine blk_alloc ?_ _)); exact BK223.out) hb); have n5_ := Aside0.mk (blk_below (g := gb227) (o := .cells #[.int .i64 (wrap64 ((rd l0 0) / 64)), .int .i64 x228001_5, .bool ((Go.bits .and .u8 (rd l0 0) 32) != 0), .slice none 0 0, u228004] 29 (0, 0)) (by (with_reducible repeat (first | refine blk_drew ?_ | refine blk_alloc ?_ _)); exact BK227.out) hb); have n6_ := Aside0.mk (below_step (by repeat (first | (with_reducible first | exact HB.out | apply below_alloc | apply pw_below_drewN | apply below_drew1 | refine below_set ?_ GE223.out | refine below_set ?_ GE227.out) | exact HB.out)) hb); clear HO_11; clear HO_228004; clear BK223; clear BK227; clear HB; have HO_11 := n0_; have HO_228004 := n1_; have HO254 := n2_; have HO257 := n3_; have BK223 := n4_; have BK227 := n5_; have HB := n6_; clear n0_ n1_ n2_ n3_ n4_ n5_ n6_; (try clear hb); (try clear hb2); (try clear hk); (try clear hi); (try clear ho0); (try clear ho1)) | ((with_reducible refine gate_dst (N := 12) rfl ?_); (try (refine gate_guard (by rfl) ?_; dsimp only)); refine box_event ?hg (N := 12) ?hd (cs := #[.int .i64 0, .int .i64 0, .bool false, .slice none 0 0, .slice none 0 0]) (t := 29) ?hr ?_; (case hd => rfl); (case hg => rfl); (case hr => first | (go_simp; done) | (go_simp; rfl)); intro gb260 hg w98 hbox hb; have n0_ := Aside0.mk (Kd.V_below (Kd.V_elderB (by (with_reducible repeat (first | apply Kd.V_drew)); exact HO_11.out) gb260 (Nat.le_of_eq hg.symm)) hb); have n1_ := Aside0.mk (Kd.R_below (Kd.R_elderB (by (with_reducible repeat (first | apply Kd.R_drewN)); exact HO_228004.out) gb260 (Nat.le_of_eq hg.symm)) hb); have n2_ := Aside0.mk (Kd.R_below (by (with_reducible repeat (first | apply Kd.R_drewN)); exact HO254.out) hb); have n3_ := Aside0.mk (Kd.R_below (Kd.R_elderB (by (with_reducible repeat (first | apply Kd.R_drewN)); exact HO257.out) gb260 (Nat.le_of_eq hg.symm)) hb); have n4_ := Aside0.mk (blk_below (g := gb223) (o := .cells #[.int .i64 x224000_3, .int .i64 x224001_3, .bool x224002_3, .slice none 0 0, .slice none 0 0] 29 (0, 0)) (by (with_reducible repeat (first | refine blk_drew ?_ | refine blk_alloc ?_ _)); exact BK223.out) hb); have n5_ := Aside0.mk (blk_below (g := gb227) (o := .cells #[.int .i64 (wrap64 ((rd l0 0) / 64)), .int .i64 x228001_5, .bool ((Go.bits .and .u8 (rd l0 0) 32) != 0), .slice none 0 0, u228004] 29 (0, 0)) (by (with_reducible repeat (first | refine blk_drew ?_ | refine blk_alloc ?_ _)); exact BK227.out) hb); have n6_ := Aside0.mk (below_step (by repeat (first | (with_reducible first | exact HB.out | apply below_alloc | apply pw_below_drewN | apply below_drew1 | refine below_set ?_ GE223.out | refine below_set ?_ GE227.out) | exact HB.out)) hb); have n7_ := Aside0.mk (hbox); have n8_ := Aside0.mk ((by rw [hg]; exact (below_size (by repeat (first | (with_reducible first | exact HB.out | apply below_alloc | apply pw_below_drewN | apply below_drew1 | refine below_set ?_ GE223.out | refine below_set ?_ GE227.out) | exact HB.out))) : w.heap.size ≤ gb260)); have n9_ := Aside0.mk ((by rw [hg]; exact (below_size (by repeat (first | (with_reducible first | exact HB.out | apply below_alloc | apply pw_below_drewN | apply below_drew1 | refine below_set ?_ GE223.out | refine below_set ?_ GE227.out) | exact HB.out))) : w.heap.size ≤ gb260)); have n10_ := Aside0.mk ((by rw [hg]; exact Nat.ne_of_lt (blk_lt (g := gb223) (o := .cells #[.int .i64 x224000_3, .int .i64 x224001_3, .bool x224002_3, .slice none 0 0, .slice none 0 0] 29 (0, 0)) (by (with_reducible repeat (first | refine blk_drew ?_ | refine blk_alloc ?_ _)); exact BK223.out)) : gb223 ≠ gb260)); have n11_ := Aside0.mk ((by rw [hg]; exact Nat.ne_of_gt (blk_lt (g := gb223) (o := .cells #[.int .i64 x224000_3, .int .i64 x224001_3, .bool x224002_3, .slice none 0 0, .slice none 0 0] 29 (0, 0)) (by (with_reducible repeat (first | refine blk_drew ?_ | refine blk_alloc ?_ _)); exact BK223.out)) : gb260 ≠ gb223)); have n12_ := Aside0.mk ((by rw [hg]; exact Nat.ne_of_lt (blk_lt (g := gb227) (o := .cells #[.int .i64 (wrap64 ((rd l0 0) / 64)), .int .i64 x228001_5, .bool ((Go.bits .and .u8 (rd l0 0) 32) != 0), .slice none 0 0, u228004] 29 (0, 0)) (by (with_reducible repeat (first | refine blk_drew ?_ | refine blk_alloc ?_ _)); exact BK227.out)) : gb227 ≠ gb260)); have n13_ := Aside0.mk ((by rw [hg]; exact Nat.ne_of_gt (blk_lt (g := gb227) (o := .cells #[.int .i64 (wrap64 ((rd l0 0) / 64)), .int .i64 x228001_5, .bool ((Go.bits .and .u8 (rd l0 0) 32) != 0), .slice none 0 0, u228004] 29 (0, 0)) (by (with_reducible repeat (first | refine blk_drew ?_ | refine blk_alloc ?_ _)); exact BK227.out)) : gb260 ≠ gb227)); clear HO_11; clear HO_228004; clear HO254; clear HO257; clear BK223; clear BK227; clear HB; have HO_11 := n0_; have HO_228004 := n1_; have HO254 := n2_; have HO257 := n3_; have BK223 := n4_; have BK227 := n5_; have HB := n6_; have BK260 := n7_; have GW260 := n8_; have GE260 := n9_; have NB223_260 := n10_; have NB260_223 := n11_; have NB227_260 := n12_; have NB260_227 := n13_; clear n0_ n1_ n2_ n3_ n4_ n5_ n6_ n7_ n8_ n9_ n10_ n11_ n12_ n13_; clear hb hbox hg; have hnb99 := NB260_223.out; have hnc99 := NB223_260.out; have hnb100 := NB260_227.out; have hnc100 := NB227_260.out; have hcz101_0 : w98.cell? ⟨gb260, 0, none⟩ = some (.int .i64 0) := (blk_cell BK260.out 0).trans rfl; have hcz101_1 : w98.cell? ⟨gb260, 1, none⟩ = some (.int .i64 0) := (blk_cell BK260.out 1).trans rfl; have hcz101_2 : w98.cell? ⟨gb260, 2, none⟩ = some (.bool false) := (blk_cell BK260.out 2).trans rfl; have hcz101_3 : w98.cell? ⟨gb260, 3, none⟩ = some (.slice none 0 0) := (blk_cell BK260.out 3).trans rfl; have hcz101_4 : w98.cell? ⟨gb260, 4, none⟩ = some (.slice none 0 0) := (blk_cell BK260.out 4).trans rfl; have hfz101_0 := blk_frozen BK260.out 0; have hfz101_1 := blk_frozen BK260.out 1; have hfz101_2 := blk_frozen BK260.out 2; have hfz101_3 := blk_frozen BK260.out 3; have hfz101_4 := blk_frozen BK260.out 4; obtain ⟨Ao102, co102, eo102⟩ := Kd.R_slice HO254.out; subst eo102; obtain ⟨Ao103, co103, eo103⟩ := Kd.R_slice HO257.out; subst eo103; have hnb104 := NB223_227.out; have hnc104 := NB227_223.out; have hcz105_0 : w98.cell? ⟨gb223, 0, none⟩ = some (.int .i64 x224000_3) := (blk_cell BK223.out 0).trans rfl; have hcz105_1 : w98.cell? ⟨gb223, 1, none⟩ = some (.int .i64 x224001_3) := (blk_cell BK223.out 1).trans rfl; have hcz105_2 : w98.cell? ⟨gb223, 2, none⟩ = some (.bool x224002_3) := (blk_cell BK223.out 2).trans rfl; have hcz105_3 : w98.cell? ⟨gb223, 3, none⟩ = some (.slice none 0 0) := (blk_cell BK223.out 3).trans rfl; have hcz105_4 : w98.cell? ⟨gb223, 4, none⟩ = some (.slice none 0 0) := (blk_cell BK223.out 4).trans rfl; have hfz105_0 := blk_frozen BK223.out 0; have hfz105_1 := blk_frozen BK223.out 1; have hfz105_2 := blk_frozen BK223.out 2; have hfz105_3 := blk_frozen BK223.out 3; have hfz105_4 := blk_frozen BK223.out 4))
                          refine bodyPost_ret (results_ctt rfl _ _ gb223 29 #[.int .i64 0, .int .i64 0, .bool false, .slice none 0 0, .slice none 0 0] (0, 0) _ rfl (by (with_reducible repeat (first | refine blk_drew ?_ | refine blk_alloc ?_ _)); refine blk_put (cs := #[.int .i64 0, .int .i64 0, .bool false, .slice none 0 0, .slice none 0 0]) ?_ 4 _ rfl; (with_reducible repeat (first | refine blk_drew ?_ | refine blk_alloc ?_ _)); refine blk_put (cs := #[.int .i64 0, .int .i64 0, .bool false, .slice none 0 0, .slice none 0 0]) ?_ 3 _ rfl; (with_reducible repeat (first | refine blk_drew ?_ | refine blk_alloc ?_ _)); refine blk_put (cs := #[.int .i64 0, .int .i64 0, .bool x224002_3, .slice none 0 0, .slice none 0 0]) ?_ 2 _ rfl; (with_reducible repeat (first | refine blk_drew ?_ | refine blk_alloc ?_ _)); refine blk_put (cs := #[.int .i64 0, .int .i64 x224001_3, .bool x224002_3, .slice none 0 0, .slice none 0 0]) ?_ 1 _ rfl; (with_reducible repeat (first | refine blk_drew ?_ | refine blk_alloc ?_ _)); refine blk_put (cs := #[.int .i64 x224000_3, .int .i64 x224001_3, .bool x224002_3, .slice none 0 0, .slice none 0 0]) ?_ 0 _ rfl; (with_reducible repeat (first | refine blk_drew ?_ | refine blk_alloc ?_ _)); refine blk_far ?_ NB223_260.out _; (with_reducible repeat (first | refine blk_drew ?_ | refine blk_alloc ?_ _)); refine blk_far ?_ NB223_260.out _; (with_reducible repeat (first | refine blk_drew ?_ | refine blk_alloc ?_ _)); refine blk_far ?_ NB223_260.out _; (with_reducible repeat (first | refine blk_drew ?_ | refine blk_alloc ?_ _)); refine blk_far ?_ NB223_260.out _; (with_reducible repeat (first | refine blk_drew ?_ | refine blk_alloc ?_ _)); refine blk_far ?_ NB223_260.out _; (with_reducible repeat (first | refine blk_drew ?_ | refine blk_alloc ?_ _)); exact BK223.out) Tryd.underlying29 rfl (by kernel_rfl)) rfl ?_
                          exact ⟨_, _, by first | rfl | (simp <;> rfl) | (simp [*] <;> rfl), by first | exact Kd.R_nil _ _ _ _ _, by first | exact Kd.R_nil _ _ _ _ _, by repeat (first | (with_reducible first | exact HB.out | apply below_alloc | apply pw_below_drewN | apply below_drew1 | refine below_set ?_ GE223.out | refine below_set ?_ GE227.out | refine below_set ?_ GE260.out) | exact HB.out)⟩
                        ·rw [if_neg c73] at H
                         have c73b0 : decide (0 < (x11_3.length : Int)) = false := decide_eq_false c73
                         have c73b1 : decide (0 < x11_3.length) = false := decide_eq_false (by omega)
                         clear c73
                         simp only [Option.some.injEq, Prod.mk.injEq] at H
                         obtain ⟨rfl, rfl, rfl, rfl, rfl, rfl, rfl⟩ := H
                         obtain ⟨Ao106, co106, eo106⟩ := Kd.V_slice HO_11.out
                         subst eo106
                         have hnb107 := NB227_223.out
                         have hnc107 := NB223_227.out
                         have hcz108_0 : wr.cell? ⟨gb227, 0, none⟩ = some (.int .i64 (wrap64 ((rd l0 0) / 64))) := (blk_cell BK227.out 0).trans rfl
                         have hcz108_1 : wr.cell? ⟨gb227, 1, none⟩ = some (.int .i64 x228001_5) := (blk_cell BK227.out 1).trans rfl
                         have hcz108_2 : wr.cell? ⟨gb227, 2, none⟩ = some (.bool ((Go.bits .and .u8 (rd l0 0) 32) != 0)) := (blk_cell BK227.out 2).trans rfl
                         have hcz108_3 : wr.cell? ⟨gb227, 3, none⟩ = some (.slice none 0 0) := (blk_cell BK227.out 3).trans rfl
                         have hcz108_4 : wr.cell? ⟨gb227, 4, none⟩ = some (u228004) := (blk_cell BK227.out 4).trans rfl
                         have hfz108_0 := blk_frozen BK227.out 0
                         have hfz108_1 := blk_frozen BK227.out 1
                         have hfz108_2 := blk_frozen BK227.out 2
                         have hfz108_3 := blk_frozen BK227.out 3
                         have hfz108_4 := blk_frozen BK227.out 4
                         have hcz109_0 : wr.cell? ⟨gb223, 0, none⟩ = some (.int .i64 x224000_3) := (blk_cell BK223.out 0).trans rfl
                         have hcz109_1 : wr.cell? ⟨gb223, 1, none⟩ = some (.int .i64 x224001_3) := (blk_cell BK223.out 1).trans rfl
                         have hcz109_2 : wr.cell? ⟨gb223, 2, none⟩ = some (.bool x224002_3) := (blk_cell BK223.out 2).trans rfl
                         have hcz109_3 : wr.cell? ⟨gb223, 3, none⟩ = some (.slice none 0 0) := (blk_cell BK223.out 3).trans rfl
                         have hcz109_4 : wr.cell? ⟨gb223, 4, none⟩ = some (.slice none 0 0) := (blk_cell BK223.out 4).trans rfl
                         have hfz109_0 := blk_frozen BK223.out 0
                         have hfz109_1 := blk_frozen BK223.out 1
                         have hfz109_2 := blk_frozen BK223.out 2
                         have hfz109_3 := blk_frozen BK223.out 3
                         have hfz109_4 := blk_frozen BK223.out 4
                         obtain ⟨Ao110, co110, eo110⟩ := Kd.R_slice HO_228004.out
                         subst eo110
                         go_wp2
                         refine bodyPost_ret (results_ctt rfl _ _ gb223 29 #[.int .i64 (wrap64 ((rd l0 0) / 64)), .int .i64 x228001_5, .bool ((Go.bits .and .u8 (rd l0 0) 32) != 0), .slice none 0 0, .slice Ao110 x228004_3.length co110] (0, 0) _ rfl (by (with_reducible repeat (first | refine blk_drew ?_ | refine blk_alloc ?_ _)); refine blk_put (cs := #[.int .i64 (wrap64 ((rd l0 0) / 64)), .int .i64 x228001_5, .bool ((Go.bits .and .u8 (rd l0 0) 32) != 0), .slice none 0 0, .slice none 0 0]) ?_ 4 _ rfl; (with_reducible repeat (first | refine blk_drew ?_ | refine blk_alloc ?_ _)); refine blk_put (cs := #[.int .i64 (wrap64 ((rd l0 0) / 64)), .int .i64 x228001_5, .bool ((Go.bits .and .u8 (rd l0 0) 32) != 0), .slice none 0 0, .slice none 0 0]) ?_ 3 _ rfl; (with_reducible repeat (first | refine blk_drew ?_ | refine blk_alloc ?_ _)); refine blk_put (cs := #[.int .i64 (wrap64 ((rd l0 0) / 64)), .int .i64 x228001_5, .bool x224002_3, .slice none 0 0, .slice none 0 0]) ?_ 2 _ rfl; (with_reducible repeat (first | refine blk_drew ?_ | refine blk_alloc ?_ _)); refine blk_put (cs := #[.int .i64 (wrap64 ((rd l0 0) / 64)), .int .i64 x224001_3, .bool x224002_3, .slice none 0 0, .slice none 0 0]) ?_ 1 _ rfl; (with_reducible repeat (first | refine blk_drew ?_ | refine blk_alloc ?_ _)); refine blk_put (cs := #[.int .i64 x224000_3, .int .i64 x224001_3, .bool x224002_3, .slice none 0 0, .slice none 0 0]) ?_ 0 _ rfl; (with_reducible repeat (first | refine blk_drew ?_ | refine blk_alloc ?_ _)); exact BK223.out) Tryd.underlying29 rfl (by kernel_rfl)) rfl ?_
                         exact ⟨_, _, by first | rfl | (simp <;> rfl) | (simp [*] <;> rfl), by first | exact Kd.R_nil _ _ _ _ _, by (with_reducible repeat (first | apply Kd.R_drewN)); exact Kd.R_mono (Kd.R_far (p := ⟨gb223, 4, none⟩) (Kd.R_far (p := ⟨gb223, 3, none⟩) (Kd.R_far (p := ⟨gb223, 2, none⟩) (Kd.R_far (p := ⟨gb223, 1, none⟩) (Kd.R_far (p := ⟨gb223, 0, none⟩) (Kd.R_mono HO_228004.out (fun k_ hk => (⟨hk, hk.2.1⟩ : _ ∧ k_ ≠ gb223))) (fun _ hk => hk.2) (.int .i64 (wrap64 ((rd l0 0) / 64)))) (fun _ hk => hk.2) (.int .i64 x228001_5)) (fun _ hk => hk.2) (.bool ((Go.bits .and .u8 (rd l0 0) 32) != 0))) (fun _ hk => hk.2) (.slice none 0 0)) (fun _ hk => hk.2) (.slice Ao110 x228004_3.length co110)) (fun _ hk => ⟨hk.1.1, (by simp [Value.ownBlock])⟩), by repeat (first | (with_reducible first | exact HB.out | apply below_alloc | apply pw_below_drewN | apply below_drew1 | refine below_set ?_ GE223.out | refine below_set ?_ GE227.out) | exact HB.out)⟩
                   ·rw [if_neg c69] at H
                    have c69b0 : ((Go.bits .and .u8 (rd l0 0) 32) != 0) = false := by simpa using c69
                    (try (have c69b1 : decide ((Go.bits .and .u8 (rd l0 0) 32) = 0) = true := by simpa using c69))
                    (try (have c69b2 : ((Go.bits .and .u8 (rd l0 0) 32) == 0) = true := by simpa using c69))
                    clear c69
                    obtain ⟨y243, hy243⟩ : ∃ y_ : List Int, y_ = (([] : List Int)) := ⟨_, rfl⟩
                    replace H : (if y243.length + y238.length < 140737488355328 then (some ((wrap64 ((rd l0 0) / 64)), x228001_5, ((Go.bits .and .u8 (rd l0 0) 32) != 0), (y243 ++ y238), ([] : List (S29)), wrap64 (x6_46 + x7_46), true)) else (none)) = some (r1, r2, r3, r4, r5, r6, r7) := by first | (rw [hy243]; with_reducible exact H) | (have H2_ := (Option.bind_some _ _).symm.trans H; rw [hy243]; with_reducible exact H2_) | (have H2_ := (Option.bind_some _ _).symm.trans H; with_reducible exact H2_) | with_reducible exact H | (rw [hy243]; exact H) | exact H
                    have Ny243 := Aside0.mk hy243
                    clear hy243
                    by_cases c111 : y243.length + y238.length < 140737488355328
                    ·rw [if_pos c111] at H
                     have LMc111 := Aside0.mk c111
                     clear c111
                     obtain ⟨y246, hy246⟩ : ∃ y_ : List Int, y_ = (y243 ++ y238) := ⟨_, rfl⟩
                     replace H : (some ((wrap64 ((rd l0 0) / 64)), x228001_5, ((Go.bits .and .u8 (rd l0 0) 32) != 0), y246, ([] : List (S29)), wrap64 (x6_46 + x7_46), true)) = some (r1, r2, r3, r4, r5, r6, r7) := by first | (rw [hy246]; with_reducible exact H) | (have H2_ := (Option.bind_some _ _).symm.trans H; rw [hy246]; with_reducible exact H2_) | (have H2_ := (Option.bind_some _ _).symm.trans H; with_reducible exact H2_) | with_reducible exact H | (rw [hy246]; exact H) | exact H
                     have Ny246 := Aside0.mk hy246
                     clear hy246
                     simp only [Option.some.injEq, Prod.mk.injEq] at H
                     obtain ⟨rfl, rfl, rfl, rfl, rfl, rfl, rfl⟩ := H
                     have q112 : ((wrap64 (x6_46 + x7_46)) : Int) ≤ ((l0.length : Int) : Int) := of_decide_eq_true (by first | (with_reducible assumption) | assumption)
                     obtain ⟨i0112, hi0112, _, hsz112, _⟩ := info_parts info5
                     have hroom112 : l0.length ≤ c0 := (Kd.V_reads' HO_0.out).2.1
                     have hC112 : Kd.F (Kd.int .u8) _ _ (some ad224) l0.length l0 := (Kd.V_at (base := w.heap.size) HO_0.out).2.2
                     have ql112 : (x6_46 : Int) ≤ ((wrap64 (x6_46 + x7_46)) : Int) := of_decide_eq_true (by first | (with_reducible assumption) | assumption)
                     have q0112 : (0 : Int) ≤ (x6_46 : Int) := of_decide_eq_true (by first | (with_reducible assumption) | assumption)
                     have hcut112 := cut_mid (P := Tryd.prog) 22 5 .i64 .i64 Tryd.underlying22 hi0112 1 hsz112 (some ad224) l0.length c0 x6_46 (wrap64 (x6_46 + x7_46)) q0112 ql112 q112 hroom112
                     have hr112 := Kd.F_mid (lo := (x6_46 : Int).toNat) (hi := ((wrap64 (x6_46 + x7_46)) : Int).toNat) (c := c0) hC112 (by omega) (by omega) hroom112
                     obtain ⟨A112, hA112⟩ : ∃ A1, A1 = (if c0 = (x6_46 : Int).toNat then (some ad224) else ((some ad224) : Option Addr).map (·.add ((x6_46 : Int).toNat * 1))) := ⟨_, rfl⟩
                     obtain ⟨c112, hc112⟩ : ∃ c1, c1 = c0 - (x6_46 : Int).toNat := ⟨_, rfl⟩
                     have hy112 : y238.length = ((wrap64 (x6_46 + x7_46)) : Int).toNat - (x6_46 : Int).toNat := (by rw [Ny238.out, List.length_drop, List.length_take] <;> omega)
                     rw [show ((l0).take ((wrap64 (x6_46 + x7_46)) : Int).toNat).drop (x6_46 : Int).toNat = y238 from Ny238.out.symm] at hr112
                     replace hr112 : Kd.F (Kd.int .u8) _ _ A112 y238.length y238 := (by rw [hA112]; exact hr112)
                     rw [← hy112, ← hA112, ← hc112] at hcut112
                     have HO242 := Aside0.mk (show Kd.V (Kd.int .u8) 5 _ w.heap.size _ (.slice A112 y238.length c112) y238 from Kd.V_mk (by rw [hy112, hc112]; exact Nat.sub_le_sub_right (Nat.le_trans (by omega) hroom112) _) hr112)
                     have HC242 := Aside0.mk (show y238.length ≤ c112 from by rw [hy112, hc112]; exact Nat.sub_le_sub_right (Nat.le_trans (by omega) hroom112) _)
                     clear hr112 hC112 hroom112 hi0112 hsz112 hc112
                     have KY112 := Aside0.mk hy112
                     have KA112 := Aside0.mk hA112
                     clear hy112 hA112
                     replace q112 := eq_true q112
                     have hnb113 := NB227_223.out
                     have hnc113 := NB223_227.out
                     have hcz114_0 : wc.cell? ⟨gb227, 0, none⟩ = some (.int .i64 (wrap64 ((rd l0 0) / 64))) := (blk_cell BK227.out 0).trans rfl
                     have hcz114_1 : wc.cell? ⟨gb227, 1, none⟩ = some (.int .i64 x228001_5) := (blk_cell BK227.out 1).trans rfl
                     have hcz114_2 : wc.cell? ⟨gb227, 2, none⟩ = some (.bool ((Go.bits .and .u8 (rd l0 0) 32) != 0)) := (blk_cell BK227.out 2).trans rfl
                     have hcz114_3 : wc.cell? ⟨gb227, 3, none⟩ = some (.slice none 0 0) := (blk_cell BK227.out 3).trans rfl
                     have hcz114_4 : wc.cell? ⟨gb227, 4, none⟩ = some (.slice none 0 0) := (blk_cell BK227.out 4).trans rfl
                     have hfz114_0 := blk_frozen BK227.out 0
                     have hfz114_1 := blk_frozen BK227.out 1
                     have hfz114_2 := blk_frozen BK227.out 2
                     have hfz114_3 := blk_frozen BK227.out 3
                     have hfz114_4 := blk_frozen BK227.out 4
                     go_wp2_with (first | ((with_reducible refine gate_dst (N := 152) rfl ?_); (try (refine gate_guard (by rfl) ?_; dsimp only)); refine Kd.R_lit (Kd.int .u8) _ 5 ?hg (N := 152) ?hd (xs := ([] : List Int)) (inner := []) (ok := fun _ => True) (okp := fun _ => True) ?hr ?hp (fun _ hk => hk) trivial (Below.refl _ _) (Nat.le_refl _) (by simp) ?_; (case hd => rfl); (case hg => rfl); (case hr => first | (go_simp; done) | (go_simp; rfl)); (case hp => exact (Reps.none _ _)); intro v244 w115 ho116 hb hg_ hnew_; clear hg_ hnew_; (first | rw [← Ny243.out] at ho116 | (simp only [Int.reduceToNat] at ho116; rw [← Ny243.out] at ho116)); have n0_ := Aside0.mk (Kd.V_elder' (by (with_reducible repeat (first | apply Kd.V_drew)); exact HO_0.out) (Kd.R_base ho116) hb); have n1_ := Aside0.mk (Kd.V_elder' (by (with_reducible repeat (first | apply Kd.V_drew)); exact HO242.out) (Kd.R_base ho116) hb); have n2_ := Aside0.mk (Kd.R_lower (Kd.R_newM (M := fun k_ => (w.heap.size ≤ k_)) ho116 (below_size (by repeat (first | (with_reducible first | exact HB.out | apply below_alloc | apply pw_below_drewN | apply below_drew1 | refine below_set ?_ GE223.out | refine below_set ?_ GE227.out) | exact HB.out))) (fun k_ h_ => h_)) (below_size (by repeat (first | (with_reducible first | exact HB.out | apply below_alloc | apply pw_below_drewN | apply below_drew1 | refine below_set ?_ GE223.out | refine below_set ?_ GE227.out) | exact HB.out)))); have n3_ := Aside0.mk (blk_below (g := gb223) (o := .cells #[.int .i64 x224000_46, .int .i64 x224001_46, .bool x224002_46, .slice none 0 0, .slice none 0 0] 29 (0, 0)) (by (with_reducible repeat (first | refine blk_drew ?_ | refine blk_alloc ?_ _)); exact BK223.out) hb); have n4_ := Aside0.mk (blk_below (g := gb227) (o := .cells #[.int .i64 (wrap64 ((rd l0 0) / 64)), .int .i64 x228001_5, .bool ((Go.bits .and .u8 (rd l0 0) 32) != 0), .slice none 0 0, .slice none 0 0] 29 (0, 0)) (by (with_reducible repeat (first | refine blk_drew ?_ | refine blk_alloc ?_ _)); exact BK227.out) hb); have n5_ := Aside0.mk (below_step (by repeat (first | (with_reducible first | exact HB.out | apply below_alloc | apply pw_below_drewN | apply below_drew1 | refine below_set ?_ GE223.out | refine below_set ?_ GE227.out) | exact HB.out)) hb); clear HO_0; clear HO242; clear BK223; clear BK227; clear HB; have HO_0 := n0_; have HO242 := n1_; have HO245 := n2_; have BK223 := n3_; have BK227 := n4_; have HB := n5_; clear n0_ n1_ n2_ n3_ n4_ n5_; clear hb ho116) | ((with_reducible refine gate_builtin (b := .append) (xs := #[.tmp 152, .tmp 153]) rfl ?_); (try (refine gate_guard (by rfl) ?_; dsimp only)); at_builtin; refine Kd.R_append_rows (Kd.int .u8) (w0 := w) w.heap.size rfl (.tmp 152) (.tmp 153) 22 5 (.int .u8 0) 1 rfl Tryd.underlying22 info5 rfl (by decide) (by omega) v244 y243 y238 _ _ _ (fun k_ => (w.heap.size ≤ k_)) (fun _ => False) rfl rfl ?aO ?aR (fun _ _ h => h) (fun _ h => h.elim) ?aF ?aB ?aS ?aL ?_; (case aR => repeat (first | exact (Kd.V_reads' HO242.out).2.2 | (with_reducible refine Kd.C_drew ?_))); (case aB => exact (by repeat (first | (with_reducible first | exact HB.out | apply below_alloc | apply pw_below_drewN | apply below_drew1 | refine below_set ?_ GE223.out | refine below_set ?_ GE227.out) | exact HB.out))); (case aF => exact (fun k_ hk => (Nat.le_trans (below_size (by repeat (first | (with_reducible first | exact HB.out | apply below_alloc | apply pw_below_drewN | apply below_drew1 | refine below_set ?_ GE223.out | refine below_set ?_ GE227.out) | exact HB.out))) hk))); (case aO => exact (by (with_reducible repeat (first | apply Kd.R_drewN)); exact Kd.R_mono HO245.out (fun _ hk => hk.1))); (case aS => exact (below_size (by repeat (first | (with_reducible first | exact HB.out | apply below_alloc | apply pw_below_drewN | apply below_drew1 | refine below_set ?_ GE223.out | refine below_set ?_ GE227.out) | exact HB.out)))); (case aL => have := LMc111.out; omega); intro v247 w117 ho hb hg hat; rw [← Ny246.out] at ho; have n0_ := Aside0.mk (Kd.V_afterv (ok := (fun k_ => (P0_ k_ ∨ w.heap.size ≤ k_) ∧ k_ ≠ gb223 ∧ k_ ≠ gb227)) (by (with_reducible repeat (first | apply Kd.V_drew)); exact HO_0.out) hg hat); have n1_ := Aside0.mk (blk_grown (g := gb223) (o := .cells #[.int .i64 x224000_46, .int .i64 x224001_46, .bool x224002_46, .slice none 0 0, .slice none 0 0] 29 (0, 0)) (by (with_reducible repeat (first | refine blk_drew ?_ | refine blk_alloc ?_ _)); exact BK223.out) hg (Kd.R_ne HO245.out BK223.out (by decide))); have n2_ := Aside0.mk (blk_grown (g := gb227) (o := .cells #[.int .i64 (wrap64 ((rd l0 0) / 64)), .int .i64 x228001_5, .bool ((Go.bits .and .u8 (rd l0 0) 32) != 0), .slice none 0 0, .slice none 0 0] 29 (0, 0)) (by (with_reducible repeat (first | refine blk_drew ?_ | refine blk_alloc ?_ _)); exact BK227.out) hg (Kd.R_ne HO245.out BK227.out (by decide))); have n3_ := Aside0.mk (Kd.V_afterv (ok := (fun k_ => (P0_ k_ ∨ w.heap.size ≤ k_) ∧ k_ ≠ gb223 ∧ k_ ≠ gb227)) (by (with_reducible repeat (first | apply Kd.V_drew)); exact HO242.out) hg hat); have n4_ := Aside0.mk (hb); have n5_ := Aside0.mk (ho); clear HO_0; clear BK223; clear BK227; clear HO242; clear HB; clear HO245; have HO_0 := n0_; have BK223 := n1_; have BK227 := n2_; have HO242 := n3_; have HB := n4_; have HO248 := n5_; clear n0_ n1_ n2_ n3_ n4_ n5_; clear ho hb hg hat; obtain ⟨Ao118, co118, eo118⟩ := Kd.R_slice HO248.out; subst eo118; have hcz119_0 : w117.cell? ⟨gb227, 0, none⟩ = some (.int .i64 (wrap64 ((rd l0 0) / 64))) := (blk_cell BK227.out 0).trans rfl; have hcz119_1 : w117.cell? ⟨gb227, 1, none⟩ = some (.int .i64 x228001_5) := (blk_cell BK227.out 1).trans rfl; have hcz119_2 : w117.cell? ⟨gb227, 2, none⟩ = some (.bool ((Go.bits .and .u8 (rd l0 0) 32) != 0)) := (blk_cell BK227.out 2).trans rfl; have hcz119_3 : w117.cell? ⟨gb227, 3, none⟩ = some (.slice none 0 0) := (blk_cell BK227.out 3).trans rfl; have hcz119_4 : w117.cell? ⟨gb227, 4, none⟩ = some (.slice none 0 0) := (blk_cell BK227.out 4).trans rfl; have hfz119_0 := blk_frozen BK227.out 0; have hfz119_1 := blk_frozen BK227.out 1; have hfz119_2 := blk_frozen BK227.out 2; have hfz119_3 := blk_frozen BK227.out 3; have hfz119_4 := blk_frozen BK227.out 4; have hcz120_0 : w117.cell? ⟨gb223, 0, none⟩ = some (.int .i64 x224000_46) := (blk_cell BK223.out 0).trans rfl; have hcz120_1 : w117.cell? ⟨gb223, 1, none⟩ = some (.int .i64 x224001_46) := (blk_cell BK223.out 1).trans rfl; have hcz120_2 : w117.cell? ⟨gb223, 2, none⟩ = some (.bool x224002_46) := (blk_cell BK223.out 2).trans rfl; have hcz120_3 : w117.cell? ⟨gb223, 3, none⟩ = some (.slice none 0 0) := (blk_cell BK223.out 3).trans rfl; have hcz120_4 : w117.cell? ⟨gb223, 4, none⟩ = some (.slice none 0 0) := (blk_cell BK223.out 4).trans rfl; have hfz120_0 := blk_frozen BK223.out 0; have hfz120_1 := blk_frozen BK223.out 1; have hfz120_2 := blk_frozen BK223.out 2; have hfz120_3 := blk_frozen BK223.out 3; have hfz120_4 := blk_frozen BK223.out 4))
                     refine bodyPost_ret (results_ctt rfl _ _ gb223 29 #[.int .i64 (wrap64 ((rd l0 0) / 64)), .int .i64 x228001_5, .bool false, .slice Ao118 y246.length co118, .slice none 0 0] (0, 0) _ rfl (by (with_reducible repeat (first | refine blk_drew ?_ | refine blk_alloc ?_ _)); refine blk_put (cs := #[.int .i64 (wrap64 ((rd l0 0) / 64)), .int .i64 x228001_5, .bool false, .slice Ao118 y246.length co118, .slice none 0 0]) ?_ 4 _ rfl; (with_reducible repeat (first | refine blk_drew ?_ | refine blk_alloc ?_ _)); refine blk_put (cs := #[.int .i64 (wrap64 ((rd l0 0) / 64)), .int .i64 x228001_5, .bool false, .slice none 0 0, .slice none 0 0]) ?_ 3 _ rfl; (with_reducible repeat (first | refine blk_drew ?_ | refine blk_alloc ?_ _)); refine blk_put (cs := #[.int .i64 (wrap64 ((rd l0 0) / 64)), .int .i64 x228001_5, .bool x224002_46, .slice none 0 0, .slice none 0 0]) ?_ 2 _ rfl; (with_reducible repeat (first | refine blk_drew ?_ | refine blk_alloc ?_ _)); refine blk_put (cs := #[.int .i64 (wrap64 ((rd l0 0) / 64)), .int .i64 x224001_46, .bool x224002_46, .slice none 0 0, .slice none 0 0]) ?_ 1 _ rfl; (with_reducible repeat (first | refine blk_drew ?_ | refine blk_alloc ?_ _)); refine blk_put (cs := #[.int .i64 x224000_46, .int .i64 x224001_46, .bool x224002_46, .slice none 0 0, .slice none 0 0]) ?_ 0 _ rfl; (with_reducible repeat (first | refine blk_drew ?_ | refine blk_alloc ?_ _)); refine blk_far ?_ NB223_227.out _; (with_reducible repeat (first | refine blk_drew ?_ | refine blk_alloc ?_ _)); exact BK223.out) Tryd.underlying29 rfl (by kernel_rfl)) rfl ?_
                     (try rw [c69b0])
                     exact ⟨_, _, by first | rfl | (simp <;> rfl) | (simp [*] <;> rfl), by (with_reducible repeat (first | apply Kd.R_drewN)); exact Kd.R_mono (Kd.R_far (p := ⟨gb223, 4, none⟩) (Kd.R_far (p := ⟨gb223, 3, none⟩) (Kd.R_far (p := ⟨gb223, 2, none⟩) (Kd.R_far (p := ⟨gb223, 1, none⟩) (Kd.R_far (p := ⟨gb223, 0, none⟩) (Kd.R_far (p := ⟨gb227, 3, none⟩) (Kd.R_types (Kd.R_types HO248.out BK227.out (by decide)) BK223.out (by decide)) (fun _ hk => hk.1.2) (.slice Ao118 y246.length co118)) (fun _ hk => hk.2) (.int .i64 (wrap64 ((rd l0 0) / 64)))) (fun _ hk => hk.2) (.int .i64 x228001_5)) (fun _ hk => hk.2) (.bool false)) (fun _ hk => hk.2) (.slice Ao118 y246.length co118)) (fun _ hk => hk.2) (.slice none 0 0)) (fun _ hk => hk.1.1), by first | exact Kd.R_nil _ _ _ _ _, by repeat (first | (with_reducible first | exact HB.out | apply below_alloc | apply pw_below_drewN | apply below_drew1 | refine below_set ?_ GE223.out | refine below_set ?_ GE227.out) | exact HB.out)⟩
                    ·rw [if_neg c111] at H
                     exact absurd H (by simp)
                  ·rw [if_neg c68] at H
                   exact absurd H (by simp)
                 ·rw [if_neg c67] at H
                  exact absurd H (by simp)
                ·rw [if_neg c66] at H
                 exact absurd H (by simp)
          ·rw [if_neg c46] at H
           exact absurd H (by simp)
         ·rw [if_neg c45] at H
          exact absurd H (by simp)
   ·rw [if_neg c5] at H
    exact absurd H (by simp)

end Go.Proofs.YtejbpbdlolehnaaDoor.PFnEncode
